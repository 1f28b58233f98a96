/-
  The row of bytes that FnBytesIterValuesSpellTheBytes gathers: what each step of a round does to it, to the iterator and to the row that is read.
-/
import Derived.Test.YoeccwIterStore
namespace Go.Proofs.Yoeccw.Iter
open Go.RowKit
set_option linter.unusedVariables false

/-- What has been gathered: the first j of the bytes xs, in block bo, with room for n. -/
def Out (w : World) (bo n j : Nat) (xs : List Int) : Prop := w.ownsRow bo 5 1 (.slice (some ⟨bo, 0, none⟩) j n) j ((xs.take j).map (Value.int .u8))
theorem Out.blk {w : World} {bo n j : Nat} {xs : List Int} (h : Out w bo n j xs) : ∃ cur, w.heap[bo]? = some (.cells cur 5 (0, 0)) := by
  rcases h.2 with ⟨h', _⟩ | ⟨g', cap', cur, h', _, hg, _⟩
  · simp at h'
  · simp only [Value.slice.injEq, Option.some.injEq, Addr.mk.injEq, and_true, true_and] at h'
    obtain ⟨rfl, rfl⟩ := h'
    exact ⟨cur, hg⟩
theorem Out.lt {w : World} {bo n j : Nat} {xs : List Int} (h : Out w bo n j xs) : bo < w.heap.size := by
  obtain ⟨cur, hc⟩ := h.blk
  exact lt_of_block hc
theorem Out.of_block {w w' : World} {bo n j : Nat} {xs : List Int} (h : Out w bo n j xs) (e : w'.heap[bo]? = w.heap[bo]?) : Out w' bo n j xs := by
  obtain ⟨h1, h2⟩ := h
  refine ⟨h1, ?_⟩
  rcases h2 with h2 | ⟨g, cap, cur, hv, hg, hh, r⟩
  · exact Or.inl h2
  · have hv' := hv
    simp only [Value.slice.injEq, Option.some.injEq, Addr.mk.injEq, and_true, true_and] at hv'
    obtain ⟨rfl, rfl⟩ := hv'
    exact Or.inr ⟨_, _, cur, hv, hg, e.trans hh, r⟩
theorem Out.below {w w' : World} {bo n j : Nat} {xs : List Int} (h : Out w bo n j xs) (hb : Below w.heap.size w w') : Out w' bo n j xs := h.of_block (hb.block _ h.lt)
theorem Out.only {w w' : World} {bo bi n j : Nat} {xs : List Int} (h : Out w bo n j xs) (hb : Only bi w w') (hne : bo ≠ bi) : Out w' bo n j xs := h.of_block (hb.block _ hne)
theorem Out.drewN {w : World} {bo n j : Nat} {xs : List Int} (h : Out w bo n j xs) (q : Nat) : Out (w.drewN q) bo n j xs := h
theorem Row.drewN {w : World} {bv : Nat} {ao : Option Addr} {n : Nat} {xs : List Int} (h : Row w bv ao n xs) (q : Nat) : Row (w.drewN q) bv ao n xs := ⟨h.len, h.fit, h.blk⟩
/-- What a place of it holds. -/
theorem Out.cell {w : World} {bo n j : Nat} {xs : List Int} (h : Out w bo n j xs) {t : Nat} (ht : t < j) (hx : j ≤ xs.length) : w.cell? ⟨bo, t, none⟩ = some (.int .u8 (xs.getD t 0)) := by
  have ht' : t < xs.length := by omega
  rw [World.ownsRow.cellAt h t (by omega)]
  simp [ht, List.getElem?_eq_getElem ht']
/-- One byte more. -/
theorem Out.more {w' : World} {bo n j : Nat} {xs : List Int} {X : Int} (hX : xs.getD j 0 = X) (hj : j < xs.length) (h : w'.ownsRow bo 5 1 (.slice (some ⟨bo, 0, none⟩) (j + 1) n) (j + 1) ((xs.take j).map (Value.int .u8) ++ [.int .u8 X])) : Out w' bo n (j + 1) xs := by
  unfold Out
  rw [List.take_succ_eq_append_getElem hj, List.map_append]
  rw [List.getD_eq_getElem?_getD, List.getElem?_eq_getElem hj] at hX
  simp only [Option.getD_some] at hX
  rw [hX]
  exact h
theorem It.grown {w w' : World} {bi bo : Nat} {ao : Option Addr} {n : Nat} {i : Int} (h : It w bi ao n i) (hg : w.grownBy w' (some bo)) (hne : bi ≠ bo) : It w' bi ao n i := h.of_block (hg.block _ h.lt (fun e => hne (Option.some.inj e)))
theorem Row.grown {w w' : World} {bv bo : Nat} {ao : Option Addr} {n : Nat} {xs : List Int} (h : Row w bv ao n xs) (hg : w.grownBy w' (some bo)) (hne : bv ≠ bo) : Row w' bv ao n xs := h.of_block fun hl => hg.block _ hl (fun e => hne (Option.some.inj e))
theorem It.grown_none {w w' : World} {bi : Nat} {ao : Option Addr} {n : Nat} {i : Int} (h : It w bi ao n i) (hg : w.grownBy w' none) : It w' bi ao n i := h.of_block (hg.block _ h.lt (by simp))
theorem Row.grown_none {w w' : World} {bv : Nat} {ao : Option Addr} {n : Nat} {xs : List Int} (h : Row w bv ao n xs) (hg : w.grownBy w' none) : Row w' bv ao n xs := h.of_block fun hl => hg.block _ hl (by simp)
theorem It.alloc {w : World} {bi : Nat} {ao : Option Addr} {n : Nat} {i : Int} (h : It w bi ao n i) (o : Obj) : It (w.alloc o) bi ao n i := h.of_block (Below.heap_alloc _ _ _ h.lt)
theorem Row.alloc {w : World} {bv : Nat} {ao : Option Addr} {n : Nat} {xs : List Int} (h : Row w bv ao n xs) (o : Obj) : Row (w.alloc o) bv ao n xs := h.of_block fun hl => Below.heap_alloc _ _ _ hl
theorem Out.alloc {w : World} {bo n j : Nat} {xs : List Int} (h : Out w bo n j xs) (o : Obj) : Out (w.alloc o) bo n j xs := h.of_block (Below.heap_alloc _ _ _ h.lt)
theorem wrap_byte (n : Int) (h0 : 0 ≤ n) (h1 : n ≤ 255) : IntKind.u8.wrap n = n := by
  simp [IntKind.wrap, IntKind.signed, IntKind.bits]; omega
end Go.Proofs.Yoeccw.Iter
