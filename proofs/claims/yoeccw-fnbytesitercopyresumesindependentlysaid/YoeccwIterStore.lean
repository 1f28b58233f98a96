/-
  What a store into the row of bytes makes of it, and of an iterator beside it.
-/
import Derived.Test.YoeccwIterClone
import Derived.Deep.RegionHeld3
namespace Go.Proofs.Yoeccw.Iter
open Go.RowKit
set_option linter.unusedVariables false

theorem Row.stored {w : World} {bv : Nat} {ao : Option Addr} {n : Nat} {xs : List Int} (h : Row w bv ao n xs) {k : Nat} (hk : k < n) {x : Int} (h0 : 0 ≤ x) (h1 : x ≤ 255) : Row (w.setCell ⟨bv, k, none⟩ (.int .u8 x)) bv ao n (xs.set k x) := by
  refine ⟨by simpa using h.len, fun y hy => ?_, ?_⟩
  · rcases List.mem_or_eq_of_mem_set hy with hy | rfl
    · exact h.fit y hy
    · exact ⟨h0, h1⟩
  · rcases h.blk with hz | ⟨e1, e2⟩
    · omega
    · refine Or.inr ⟨e1, ?_⟩
      have hlt := lt_of_block e2
      have h' : w.heap[bv] = .cells (xs.map (Value.int .u8)).toArray 5 (0, 0) := by simpa [Array.getElem?_eq_getElem hlt] using e2
      show (w.heap.modify bv _)[bv]? = _
      rw [Array.getElem?_eq_getElem (by simpa using hlt), Array.getElem_modify_self, h', List.map_set]
      simp
theorem getD_stored {xs : List Int} {k : Nat} (hk : k < xs.length) (x : Int) : (xs.set k x).getD k 0 = x := by
  rw [List.getD_eq_getElem?_getD, List.getElem?_set_self hk]; rfl
theorem lt_of_cell {w : World} {b o : Nat} {v : Value} (h : w.cell? ⟨b, o, none⟩ = some v) : b < w.heap.size := World.block_lt_of_cell? w _ h
theorem It.drew {w : World} {bi : Nat} {ao : Option Addr} {n : Nat} {i : Int} (h : It w bi ao n i) : It w.drew bi ao n i := ⟨h.blk⟩
theorem Row.drew {w : World} {bv : Nat} {ao : Option Addr} {n : Nat} {xs : List Int} (h : Row w bv ao n xs) : Row w.drew bv ao n xs := ⟨h.len, h.fit, h.blk⟩
theorem wrap_small (n : Int) (h0 : 0 ≤ n) (h1 : n ≤ 1000000) : IntKind.i64.wrap n = n := by rw [IntKind.wrap_i64]; omega
end Go.Proofs.Yoeccw.Iter
