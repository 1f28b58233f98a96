/-
  WHAT THE LAWS ON tengo's BytesIterator SHARE: what lies in memory (a row of bytes that the call itself made; an iterator), and what each function on the road does to it: a contract a function.
-/
import Derived.Test.YoeccwRows
import Derived.WalkKit
import Derived.WalkSpells
import Derived.WalkLawsBesides
import Derived.RegionTactic
import Derived.Deep.QuietTactic
import Derived.BigQuiet
namespace Go.Proofs.Yoeccw.Iter
open Go.RowKit
set_option linter.unusedVariables false

/-- A row of bytes in block 'bv': the slice value '.slice ao n n' over it. Where n is 0 nothing is said of the address. -/
structure Row (w : World) (bv : Nat) (ao : Option Addr) (n : Nat) (xs : List Int) : Prop where
  len : xs.length = n
  fit : ∀ x ∈ xs, 0 ≤ x ∧ x ≤ 255
  blk : n = 0 ∨ (ao = some ⟨bv, 0, none⟩ ∧ w.heap[bv]? = some (.cells (xs.map (Value.int .u8)).toArray 5 (0, 0)))

/-- An iterator over '.slice ao n n' in block 'bi', at place i. -/
structure It (w : World) (bi : Nat) (ao : Option Addr) (n : Nat) (i : Int) : Prop where
  blk : w.heap[bi]? = some (.cells #[.slice ao n n, .int .i64 i, .int .i64 n] 37 (0, 0))

/-- Of the world w' is as w was, but for block bi. -/
structure Only (bi : Nat) (w w' : World) : Prop where
  os : w'.os = w.os
  tape : w'.tape = w.tape
  output : w'.output = w.output
  size : w'.heap.size = w.heap.size
  block : ∀ k, k ≠ bi → w'.heap[k]? = w.heap[k]?

theorem Only.below {bi B : Nat} {w w' : World} (h : Only bi w w') (hB : B ≤ bi) : Below B w w' :=
  ⟨h.os, h.tape, h.output, Nat.le_of_eq h.size.symm, fun k hk => h.block k (by omega)⟩

theorem It.lt {w : World} {bi : Nat} {ao : Option Addr} {n : Nat} {i : Int} (h : It w bi ao n i) : bi < w.heap.size := lt_of_block h.blk
theorem It.cells {w : World} {bi : Nat} {ao : Option Addr} {n : Nat} {i : Int} (h : It w bi ao n i) :
    w.cell? ⟨bi, 0, none⟩ = some (.slice ao n n) ∧ w.cell? ⟨bi, 1, none⟩ = some (.int .i64 i) ∧ w.cell? ⟨bi, 2, none⟩ = some (.int .i64 n) ∧ w.frozen? ⟨bi, 1, none⟩ = false := by
  have hb := h.blk
  refine ⟨?_, ?_, ?_, ?_⟩
  · simp [World.cell?, hb]
  · simp [World.cell?, hb]
  · simp [World.cell?, hb]
  · simp [World.frozen?, hb]
theorem It.of_block {w w' : World} {bi : Nat} {ao : Option Addr} {n : Nat} {i : Int} (h : It w bi ao n i) (e : w'.heap[bi]? = w.heap[bi]?) : It w' bi ao n i := ⟨e.trans h.blk⟩
theorem It.below {w w' : World} {bi : Nat} {ao : Option Addr} {n : Nat} {i : Int} (h : It w bi ao n i) (hb : Below w.heap.size w w') : It w' bi ao n i := h.of_block (hb.block _ h.lt)
theorem Row.of_block {w w' : World} {bv : Nat} {ao : Option Addr} {n : Nat} {xs : List Int} (h : Row w bv ao n xs) (e : bv < w.heap.size → w'.heap[bv]? = w.heap[bv]?) : Row w' bv ao n xs := by
  refine ⟨h.len, h.fit, ?_⟩
  rcases h.blk with h0 | ⟨h1, h2⟩
  · exact Or.inl h0
  · exact Or.inr ⟨h1, (e (lt_of_block h2)).trans h2⟩
theorem Row.below {w w' : World} {bv : Nat} {ao : Option Addr} {n : Nat} {xs : List Int} (h : Row w bv ao n xs) (hb : Below w.heap.size w w') : Row w' bv ao n xs := h.of_block fun hl => hb.block _ hl
theorem Row.only {w w' : World} {bv bi : Nat} {ao : Option Addr} {n : Nat} {xs : List Int} (h : Row w bv ao n xs) (hb : Only bi w w') (hne : bv ≠ bi) : Row w' bv ao n xs := h.of_block fun _ => hb.block _ hne
/-- What a place of the row holds. -/
theorem Row.cell {w : World} {bv : Nat} {ao : Option Addr} {n : Nat} {xs : List Int} (h : Row w bv ao n xs) {k : Nat} (hk : k < n) : ao = some ⟨bv, 0, none⟩ ∧ w.cell? ⟨bv, k, none⟩ = some (.int .u8 (xs.getD k 0)) ∧ w.frozen? ⟨bv, k, none⟩ = false ∧ 0 ≤ xs.getD k 0 ∧ xs.getD k 0 ≤ 255 := by
  have hl := h.len
  rcases h.blk with h0 | ⟨h1, h2⟩
  · omega
  · have hk' : k < xs.length := by omega
    have hm : xs.getD k 0 ∈ xs := by rw [List.getD_eq_getElem?_getD, List.getElem?_eq_getElem hk']; exact List.getElem_mem hk'
    refine ⟨h1, ?_, ?_, (h.fit _ hm).1, (h.fit _ hm).2⟩
    · simp [World.cell?, h2, List.getElem?_eq_getElem hk']
    · simp [World.frozen?, h2]

/-- What a store into cell 1 of an iterator makes of it. -/
theorem It.moved {w : World} {bi : Nat} {ao : Option Addr} {n : Nat} {i : Int} (h : It w bi ao n i) (j : Int) : It (w.setCell ⟨bi, 1, none⟩ (.int .i64 j)) bi ao n j := by
  have hlt := h.lt
  have hb := h.blk
  have h' : w.heap[bi] = .cells #[.slice ao n n, .int .i64 i, .int .i64 n] 37 (0, 0) := by simpa [Array.getElem?_eq_getElem hlt] using hb
  refine ⟨?_⟩
  show (w.heap.modify bi _)[bi]? = _
  rw [Array.getElem?_eq_getElem (by simpa using hlt), Array.getElem_modify_self, h']
  rfl
theorem only_set (w : World) (bi o : Nat) (u : Value) : Only bi w (w.setCell ⟨bi, o, none⟩ u) :=
  ⟨rfl, rfl, rfl, by simp [World.setCell], fun k hk => Below.heap_setCell _ _ _ _ hk⟩

/-! ### Next -/
set_option maxHeartbeats 400000 in
theorem next_raw (bi n : Nat) (ao : Option Addr) (i : Int) (w : World) (h : It w bi ao n i) (h0 : 0 ≤ i) (h1 : i ≤ 1000000) :
    Calls Eccg.prog 13 #[.pointer (some ⟨bi, 0, none⟩)] w fun e w' => e = .returned (.bool (decide (i + 1 ≤ (n : Int)))) ∧ ∃ q, w' = (w.setCell ⟨bi, 1, none⟩ (.int .i64 (i + 1))).drewN q := by
  obtain ⟨c0, c1, c2, f1⟩ := h.cells
  obtain ⟨-, d1, d2, -⟩ := (h.moved (i + 1)).cells
  clear h
  go_enter Eccg.func13, Eccg.ntmps13
  go_wp2
  go_quiet (fail)
  go_wp2
  go_ret
  exact ⟨rfl, _, rfl⟩

theorem It.drewN {w : World} {bi : Nat} {ao : Option Addr} {n : Nat} {i : Int} (h : It w bi ao n i) (q : Nat) : It (w.drewN q) bi ao n i := ⟨h.blk⟩
theorem Only.drewN {bi : Nat} {a w : World} (h : Only bi a w) (q : Nat) : Only bi a (w.drewN q) := ⟨h.os, h.tape, h.output, h.size, h.block⟩

/-- Next where an element is left. -/
theorem next_yes (bi n : Nat) (ao : Option Addr) (i : Int) (w : World) (h : It w bi ao n i) (h0 : 0 ≤ i) (h1 : i + 1 ≤ (n : Int)) (h2 : i ≤ 1000000) :
    Calls Eccg.prog 13 #[.pointer (some ⟨bi, 0, none⟩)] w fun e w' => e = .returned (.bool true) ∧ It w' bi ao n (i + 1) ∧ Only bi w w' := by
  refine (next_raw bi n ao i w h h0 h2).mono ?_
  rintro e w' ⟨rfl, q, rfl⟩
  refine ⟨by rw [decide_eq_true h1], (h.moved (i + 1)).drewN q, (only_set w bi 1 _).drewN q⟩
/-- Next where none is left. -/
theorem next_no (bi n : Nat) (ao : Option Addr) (i : Int) (w : World) (h : It w bi ao n i) (h0 : 0 ≤ i) (h1 : ¬ i + 1 ≤ (n : Int)) (h2 : i ≤ 1000000) :
    Calls Eccg.prog 13 #[.pointer (some ⟨bi, 0, none⟩)] w fun e w' => e = .returned (.bool false) ∧ It w' bi ao n (i + 1) ∧ Only bi w w' := by
  refine (next_raw bi n ao i w h h0 h2).mono ?_
  rintro e w' ⟨rfl, q, rfl⟩
  refine ⟨by rw [decide_eq_false h1], (h.moved (i + 1)).drewN q, (only_set w bi 1 _).drewN q⟩

/-! ### ZZbytesIterate -/
theorem assert_it (a : Option Addr) (w : World) : (Instr.typeAssert (.iface 25 (.pointer a)) 56 25 false).run Eccg.prog w = .ok (.pointer a) w := by kernel_rfl
theorem assert_copy (a : Option Addr) (w : World) : (Instr.typeAssert (.iface 25 (.pointer a)) 62 25 false).run Eccg.prog w = .ok (.pointer a) w := by kernel_rfl
theorem assert_int (a : Option Addr) (w : World) : (Instr.typeAssert (.iface 66 (.pointer a)) 62 66 false).run Eccg.prog w = .ok (.pointer a) w := by kernel_rfl
set_option maxHeartbeats 400000 in
theorem iterate_raw (n : Nat) (ao : Option Addr) (c : Nat) (w : World) :
    Calls Eccg.prog 12 #[.slice ao n c] w fun e w' => e = .returned (.pointer (some ⟨w.heap.size + 1, 0, none⟩)) ∧ ∃ q, w' = ((w.alloc (.cells #[.slice ao n c] 59)).alloc (.cells #[.slice ao n c, .int .i64 0, .int .i64 n] 37)).drewN q := by
  have ha := assert_it
  go_enter Eccg.func12, Eccg.ntmps12
  go_wp2
  go_region
  all_goals go_wp2
  all_goals go_ret
  all_goals exact ⟨rfl, 1, rfl⟩
theorem It.made (w : World) (ao : Option Addr) (n : Nat) (i : Int) : It (w.alloc (.cells #[.slice ao n n, .int .i64 i, .int .i64 n] 37)) w.heap.size ao n i :=
  ⟨heap_alloc_new w _⟩
theorem iterate_any (n : Nat) (ao : Option Addr) (w : World) :
    Calls Eccg.prog 12 #[.slice ao n n] w fun e w' => e = .returned (.pointer (some ⟨w.heap.size + 1, 0, none⟩)) ∧ It w' (w.heap.size + 1) ao n 0 ∧ Below w.heap.size w w' := by
  refine (iterate_raw n ao n w).mono ?_
  rintro e w' ⟨rfl, q, rfl⟩
  have hi := It.made (w.alloc (.cells #[.slice ao n n] 59)) ao n 0
  rw [show (w.alloc (.cells #[.slice ao n n] 59)).heap.size = w.heap.size + 1 from by simp] at hi
  exact ⟨rfl, hi.drewN q, below_drewN (((Below.refl _ _).alloc (Nat.le_refl _) _).alloc (by simp) _) q⟩

/-! ### ZZcopyBytesIterator -/
set_option maxHeartbeats 400000 in
theorem copy_raw (bi n : Nat) (ao : Option Addr) (i : Int) (w : World) (h : It w bi ao n i) :
    Calls Eccg.prog 21 #[.pointer (some ⟨bi, 0, none⟩)] w fun e w' => e = .returned (.pointer (some ⟨w.heap.size, 0, none⟩)) ∧ ∃ q, w' = (w.alloc (.cells #[.slice ao n n, .int .i64 i, .int .i64 n] 37)).drewN q := by
  have ha := assert_copy
  obtain ⟨c0, c1, c2, f1⟩ := h.cells
  clear h
  go_enter Eccg.func21, Eccg.ntmps21
  go_wp2
  go_region
  all_goals go_wp2
  all_goals go_ret
  all_goals exact ⟨rfl, 1, rfl⟩
theorem copy_any (bi n : Nat) (ao : Option Addr) (i : Int) (w : World) (h : It w bi ao n i) :
    Calls Eccg.prog 21 #[.pointer (some ⟨bi, 0, none⟩)] w fun e w' => e = .returned (.pointer (some ⟨w.heap.size, 0, none⟩)) ∧ It w' w.heap.size ao n i ∧ Below w.heap.size w w' := by
  refine (copy_raw bi n ao i w h).mono ?_
  rintro e w' ⟨rfl, q, rfl⟩
  exact ⟨rfl, (It.made w ao n i).drewN q, below_drewN ((Below.refl _ _).alloc (Nat.le_refl _) _) q⟩

/-! ### ZZbytesIterKey -/
set_option maxHeartbeats 400000 in
theorem key_any (bi n : Nat) (ao : Option Addr) (i : Int) (w : World) (h : It w bi ao n i) (h0 : 0 ≤ i) (h1 : i ≤ 1000000) :
    Calls Eccg.prog 22 #[.pointer (some ⟨bi, 0, none⟩)] w fun e w' => e = .returned (.int .i64 (i - 1)) ∧ Below w.heap.size w w' := by
  have ha := assert_int
  obtain ⟨c0, c1, c2, f1⟩ := h.cells
  clear h
  go_enter Eccg.func22, Eccg.ntmps22
  go_wp2
  go_ret
  exact ⟨rfl, (Below.refl _ _).alloc (Nat.le_refl _) _⟩

/-! ### ZZbytesIterValue -/
set_option maxHeartbeats 400000 in
theorem value_raw (bi bv n k : Nat) (x : Int) (w : World) (h : It w bi (some ⟨bv, 0, none⟩) n ((k : Int) + 1)) (hk : (k : Int) < (n : Int)) (hn : n ≤ 65536) (hc : w.cell? ⟨bv, k, none⟩ = some (.int .u8 x)) (h0 : 0 ≤ x) (h1 : x ≤ 255) :
    Calls Eccg.prog 23 #[.pointer (some ⟨bi, 0, none⟩)] w fun e w' => e = .returned (.int .i64 x) ∧ Below w.heap.size w w' := by
  have ha := assert_int
  obtain ⟨c0, c1, c2, f1⟩ := h.cells
  clear h
  go_enter Eccg.func23, Eccg.ntmps23
  go_wp2
  go_region
  all_goals go_wp2
  all_goals go_ret
  all_goals exact ⟨rfl, ((Below.refl _ _).alloc (Nat.le_refl _) _).drew⟩
theorem value_any (bi bv n k : Nat) (ao : Option Addr) (xs : List Int) (i : Int) (w : World) (h : It w bi ao n i) (hr : Row w bv ao n xs) (hi : i = (k : Int) + 1) (hk : k < n) (hn : n ≤ 65536) :
    Calls Eccg.prog 23 #[.pointer (some ⟨bi, 0, none⟩)] w fun e w' => e = .returned (.int .i64 (xs.getD k 0)) ∧ Below w.heap.size w w' := by
  obtain ⟨rfl, hc, -, h0, h1⟩ := hr.cell hk
  subst hi
  exact value_raw bi bv n k _ w h (by omega) hn hc h0 h1
end Go.Proofs.Yoeccw.Iter
