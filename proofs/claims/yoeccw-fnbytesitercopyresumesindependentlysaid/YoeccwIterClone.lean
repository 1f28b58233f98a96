/-
  cloneBytes: it hands back the same bytes in a block of its own; nothing that was there is written.
-/
import Derived.Test.YoeccwIterBase
import Derived.OpenShut
namespace Go.Proofs.Yoeccw.Iter
open Go.RowKit
set_option linter.unusedVariables false

theorem info5 : (Eccg.prog.info? 5).map (fun i => (i.zero, i.size, i.bytes)) = some (some (.int .u8 0), 1, 1) := by kernel_rfl

/-- What the new row holds behind k rounds. -/
def upTo (zs : List Int) (n k : Nat) : List Value := (zs.take k).map (Value.int .u8) ++ List.replicate (n - k) (Value.int .u8 0)
theorem upTo_zero (zs : List Int) (n : Nat) : upTo zs n 0 = List.replicate n (Value.int .u8 0) := by simp [upTo]
theorem upTo_all (zs : List Int) (n : Nat) : upTo zs n n = (zs.take n).map (Value.int .u8) := by simp [upTo]
theorem upTo_succ (zs : List Int) (n k : Nat) (hk : k < n) (hz : n ≤ zs.length) : (upTo zs n k).set k (.int .u8 (zs.getD k 0)) = upTo zs n (k + 1) := by
  have hk' : k < zs.length := by omega
  have hl : (List.map (Value.int IntKind.u8) (zs.take k)).length = k := by simp; omega
  obtain ⟨m, rfl⟩ : ∃ m, n = k + 1 + m := ⟨n - (k + 1), by omega⟩
  unfold upTo
  rw [List.set_append_right _ _ (by omega), hl, show k + 1 + m - k = m + 1 from by omega, show k + 1 + m - (k + 1) = m from by omega, List.replicate_succ, Nat.sub_self, List.set_cons_zero,
    List.take_succ_eq_append_getElem hk', List.getD_eq_getElem?_getD, List.getElem?_eq_getElem hk', List.map_append, List.append_assoc]
  rfl

/-- An owned row that is known whole, as a block. -/
theorem block_of_owns {w : World} {B g n : Nat} {xs : List Value} (h : w.ownsRow B 5 1 (.slice (some ⟨g, 0, none⟩) n n) n xs) : w.heap[g]? = some (.cells xs.toArray 5 (0, 0)) := by
  obtain ⟨h1, h2⟩ := h
  rcases h2 with ⟨h', _⟩ | ⟨g', cap', cur, h', _, hg, _, _, hcs, htake⟩
  · simp at h'
  · simp only [Value.slice.injEq, Option.some.injEq, Addr.mk.injEq, and_true, true_and] at h'
    obtain ⟨rfl, rfl⟩ := h'
    rw [hg, ← htake, List.take_of_length_le (by simp; omega)]

set_option maxHeartbeats 400000 in
theorem clone_nil (w : World) :
    Calls Eccg.prog 11 #[.slice none 0 0] w fun e w' => e = .returned (.slice none 0 0) ∧ w' = w := by
  have hq := fun (W : World) (a : Option Addr) (n c n' c' : Nat) => Lib.run_eql_slice_nil (P := Eccg.prog) W 22 5 a n c n' c' Eccg.underlying22
  go_enter Eccg.func11, Eccg.ntmps11
  go_wp2
  go_ret
  exact ⟨rfl, rfl⟩

set_option maxHeartbeats 400000 in
theorem clone_empty (x : Addr) (cap : Nat) (w : World) :
    Calls Eccg.prog 11 #[.slice (some x) 0 cap] w fun e w' => e = .returned (.slice (some ⟨w.heap.size, 0, none⟩) 0 0) ∧ Below w.heap.size w w' := by
  have hq := fun (W : World) (a : Option Addr) (n c n' c' : Nat) => Lib.run_eql_slice_nil (P := Eccg.prog) W 22 5 a n c n' c' Eccg.underlying22
  obtain ⟨i0, hi, hz0, hz1, hz2⟩ := info_parts info5
  go_enter Eccg.func11, Eccg.ntmps11
  go_wp2_with (at_make; refine wpList_make_full _ rfl _ _ 22 rfl w.heap.size 5 i0 (.int .u8 0) 1 Eccg.underlying22 hi hz0 hz1 .i64 .i64 0 0 0 rfl rfl rfl rfl (by rw [hz2]; omega) (by unfold maxLen; omega) (Nat.le_refl _) ?_; intro w1 hown hgrow)
  have hb : Below w.heap.size w w1 := (Below.refl _ _).grown hgrow (Nat.le_refl _) (by simp)
  clear hown hgrow
  go_loopw [4] (fun i wr => i = .int .i64 0 ∧ Below w.heap.size w wr) (fun _ _ => 0)
  case atStart => exact ⟨rfl, hb⟩
  case round =>
    obtain ⟨rfl, hbr⟩ := hrel
    clear hb
    go_wp2
    go_ret
    exact ⟨rfl, hbr⟩

set_option maxHeartbeats 1000000 in
theorem clone_some (b off len cap : Nat) (zs : List Int) (w : World) (hl : len ≤ zs.length) (hn : len ≤ 65536) (hcell : ∀ i, i < zs.length → w.cell? ⟨b, off + i, none⟩ = some (.int .u8 (zs.getD i 0))) (hb : b < w.heap.size) :
    Calls Eccg.prog 11 #[.slice (some ⟨b, off, none⟩) len cap] w fun e w' => e = .returned (.slice (some ⟨w.heap.size, 0, none⟩) len len) ∧ Below w.heap.size w w' ∧ w'.ownsRow w.heap.size 5 1 (.slice (some ⟨w.heap.size, 0, none⟩) len len) len (upTo zs len len) := by
  have hq := fun (W : World) (a : Option Addr) (n c n' c' : Nat) => Lib.run_eql_slice_nil (P := Eccg.prog) W 22 5 a n c n' c' Eccg.underlying22
  obtain ⟨i0, hi, hz0, hz1, hz2⟩ := info_parts info5
  go_enter Eccg.func11, Eccg.ntmps11
  go_wp2_with (at_make; refine wpList_make_full _ rfl _ _ 22 rfl w.heap.size 5 i0 (.int .u8 0) 1 Eccg.underlying22 hi hz0 hz1 .i64 .i64 len len len rfl rfl rfl rfl (by rw [hz2]; omega) (by unfold maxLen; omega) (Nat.le_refl _) ?_; intro w1 hown hgrow)
  have hbel : Below w.heap.size w w1 := (Below.refl _ _).grown hgrow (Nat.le_refl _) (by simp)
  have hown0 : w1.ownsRow w.heap.size 5 1 (.slice (some ⟨w.heap.size, 0, none⟩) len len) len (upTo zs len 0) := by
    rw [upTo_zero, ← toList_madeCells_one]; simpa [Value.cells] using hown
  clear hown hgrow hi hz0 hz1 hz2
  go_loopw [4] (fun i wr => ∃ k : Nat, k ≤ len ∧ i = .int .i64 k ∧ Below w.heap.size w wr ∧ wr.ownsRow w.heap.size 5 1 (.slice (some ⟨w.heap.size, 0, none⟩) len len) len (upTo zs len k)) (fun i _ => len - (intOf i).toNat)
  case atStart => exact ⟨0, Nat.zero_le _, rfl, hbel, hown0⟩
  case round =>
    clear hbel hown0
    obtain ⟨k, hk, rfl, hbr, hor⟩ := hrel
    by_cases hlt : k < len
    · have hc : wr.cell? ⟨b, off + k, none⟩ = some (.int .u8 (zs.getD k 0)) := (hbr.cell (by exact hb)).trans (hcell k (by omega))
      have hf := hor.frozenAt k
      have hd : ∃ u, wr.cell? ⟨w.heap.size, k, none⟩ = some u := by
        rw [hor.cellAt k (by omega)]
        exact ⟨_, List.getElem?_eq_getElem (by have := hor.1; omega)⟩
      obtain ⟨u, hd⟩ := hd
      have hs := hor.stored k (.int .u8 (zs.getD k 0))
      rw [upTo_succ zs len k hlt hl] at hs
      have R1 := hs.1
      have R2 : Below w.heap.size w (wr.setCell ⟨w.heap.size, k, none⟩ (.int .u8 (zs.getD k 0))) := hbr.setCell (Nat.le_refl _) _
      clear hs hor hbr hcell
      go_wp2
      go_roundw
      case rel => exact ⟨k + 1, by omega, by go_num, R2, R1⟩
      case measure => simp [intOf]; omega
    · obtain rfl : k = len := by omega
      go_wp2
      go_ret
      exact ⟨rfl, hbr, hor⟩

/-- What came in: nil, or a row of bytes (the first 'len' of its 'cap' cells are the slice's elements). -/
def Came (w : World) (a : Option Addr) (len cap : Nat) (zs : List Int) : Prop :=
  (a = none ∧ len = 0 ∧ cap = 0 ∧ zs = []) ∨
  ∃ x, a = some x ∧ len ≤ cap ∧ cap ≤ maxLen ∧ zs.length = cap ∧ (∀ i, i < zs.length → w.cell? (x.add i) = some (.int .u8 (zs.getD i 0))) ∧ ∀ n ∈ zs, (Lit.int .u8 n).wf = true

/-- cloneBytes, whatever came in. -/
theorem clone_any (a : Option Addr) (len cap : Nat) (zs : List Int) (w : World) (h : Came w a len cap zs) (hn : len ≤ 65536) :
    Calls Eccg.prog 11 #[.slice a len cap] w fun e w' => ∃ ao, e = .returned (.slice ao len len) ∧ Below w.heap.size w w' ∧ Row w' w.heap.size ao len (zs.take len) := by
  rcases h with ⟨rfl, rfl, rfl, rfl⟩ | ⟨x, rfl, hl, hm, hz, hcell, hwz⟩
  · refine (clone_nil w).mono ?_
    rintro e w' ⟨rfl, rfl⟩
    exact ⟨none, rfl, Below.refl _ _, rfl, by simp, Or.inl rfl⟩
  · by_cases h0 : len = 0
    · subst h0
      refine (clone_empty x cap w).mono ?_
      rintro e w' ⟨rfl, hb⟩
      exact ⟨_, rfl, hb, by simp, by simp, Or.inl rfl⟩
    · obtain ⟨b, off, spot⟩ := x
      have hc := hcell 0 (by omega)
      have hspot : spot = none := by simpa [Addr.add] using World.cell?_spot hc
      subst hspot
      have hc0 : w.cell? ⟨b, off, none⟩ = some (.int .u8 (zs.getD 0 0)) := by simpa [Addr.add] using hc
      have hb : b < w.heap.size := by
        rcases Nat.lt_or_ge b w.heap.size with h' | h'
        · exact h'
        · simp [World.cell?, Array.getElem?_eq_none h'] at hc0
      refine (clone_some b off len cap zs w (by omega) hn (fun i hi => by rw [← Go.WideShapes.add_plain]; exact hcell i hi) hb).mono ?_
      rintro e w' ⟨rfl, hbel, hown⟩
      rw [upTo_all] at hown
      refine ⟨_, rfl, hbel, by simp; omega, fun y hy => ?_, Or.inr ⟨rfl, block_of_owns hown⟩⟩
      have := hwz y (List.mem_of_mem_take hy)
      exact bounds_u8 this
end Go.Proofs.Yoeccw.Iter
