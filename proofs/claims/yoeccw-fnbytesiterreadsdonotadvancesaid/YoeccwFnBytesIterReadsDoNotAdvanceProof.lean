/-
  THE PROOF OF 'Rows.FnBytesIterReadsDoNotAdvanceSaid' ('github.com/d5/tengo/v2/zzlaws_root_b1.FnBytesIterReadsDoNotAdvance'): the shell given with the seat (made by program), its hole filled: the walk, over the contracts of YoeccwIterBase and YoeccwIterClone. Not trusted: it is checked.
-/
import Derived.Test.YoeccwRows
import Derived.Test.YoeccwIterClone
import Derived.Test.YoeccwIterStore
import Derived.WalkKit
import Derived.ProofKit
import Derived.OpenShut
import Derived.ShutString
import Derived.ChangeOld
import Derived.Below
namespace Go.Proofs.Yoeccw.fnBytesIterReadsDoNotAdvance
open Go.ChangeShapes Go.WideShapes Go.ChangeAt Go.RowKit Go.Proofs.Yoeccw.Iter
open Go.ChangeMaps (open_string shut_string)
set_option linter.unusedVariables false

theorem own : ownKnob Eccg.prog.godebug = none := by kernel_rfl
theorem laidOut : laidOutB Eccg.prog = true := by kernel_rfl

/-- WHAT THE WALK IS TOLD OF A SLICE OF INTEGERS THAT CAME IN: it is nil; or it leads to a row of 'cap' cells, the numbers 'zs' (the first 'len' are its elements, the rest its spare room), each fitting its kind. -/
def IsRow (k : IntKind) (w : World) (a : Option Addr) (len cap : Nat) (zs : List Int) : Prop :=
  (a = none ∧ len = 0 ∧ cap = 0 ∧ zs = []) ∨
  ∃ x, a = some x ∧ len ≤ cap ∧ cap ≤ maxLen ∧ zs.length = cap ∧ (∀ i, i < zs.length → w.cell? (x.add i) = some (.int k (zs.getD i 0))) ∧ ∀ n ∈ zs, (Lit.int k n).wf = true

/-! ### STEP 1: THE WALK: the Go text returns true, AND WRITES NOTHING THAT WAS THERE: 'Below w.heap.size w w'' (Derived/Below.lean: '.refl', '.alloc', '.drew', '.setCell' at a new block, '.trans'). Open each 'IsRow' by 'rcases' AHEAD of 'go_enter'; part every test ahead of the walk. -/
set_option maxHeartbeats 1000000 in
theorem walk (a0 : Option Addr) (len0 cap0 : Nat) (z0 : List Int) (a1 : Int) (w : World) (w0 : IsRow .u8 w a0 len0 cap0 z0) (w1 : (Lit.int .i64 a1).wf = true) :
    Calls Eccg.prog 7 #[.slice a0 len0 cap0, .int .i64 a1] w fun e w' => e = .returned (.bool true) ∧ Below w.heap.size w w' := by
  have hlen : len0 ≤ 9223372036854775807 := by
    rcases w0 with ⟨_, h, _⟩ | ⟨x, _, h, h', _⟩
    · omega
    · unfold maxLen at h'; omega
  by_cases hbig : 65536 < len0
  · clear w0 w1
    go_enter Eccg.func7, Eccg.ntmps7
    go_wp2
    all_goals (go_ret; exact ⟨rfl, Below.refl _ _⟩)
  have hn : len0 ≤ 65536 := by omega
  clear hbig
  by_cases hneg : a1 < 0
  · clear w0 w1
    go_enter Eccg.func7, Eccg.ntmps7
    go_wp2
    go_ret
    exact ⟨rfl, Below.refl _ _⟩
  by_cases hgt : 16 < a1
  · clear w0 w1
    go_enter Eccg.func7, Eccg.ntmps7
    go_wp2
    go_ret
    exact ⟨rfl, Below.refl _ _⟩
  obtain ⟨x, rfl⟩ := Int.eq_ofNat_of_zero_le (show 0 ≤ a1 by omega)
  have hx : x ≤ 16 := by omega
  clear hneg hgt w1 hlen
  have H : Hid (Came w a0 len0 cap0 z0) := w0
  clear w0
  go_enter Eccg.func7, Eccg.ntmps7
  go_wp2_with (first | (go_at_call 11; refine (clone_any _ _ _ z0 _ H.out hn).mono ?_; rintro e w1 ⟨ao, rfl, hb1, hr1⟩) | (go_at_call 12; refine (iterate_any _ _ _).mono ?_; rintro e w2 ⟨rfl, hi2, hb2⟩) | go_in)
  have hbel : Below w.heap.size w w2 := hb1.trans (hb2.mono hb1.size)
  have hsz := hb1.size
  have hr2 := hr1.below hb2
  clear hb1 hb2 hr1 H
  go_loopw [7] (fun k wr => ∃ j : Nat, j ≤ len0 ∧ k = .int .i64 ((j : Int) + 1) ∧ It wr (w1.heap.size + 1) ao len0 j ∧ Row wr w.heap.size ao len0 (z0.take len0) ∧ Below w.heap.size w wr) (fun k _ => len0 + 1 - (intOf k).toNat)
  case atStart => exact ⟨0, Nat.zero_le _, rfl, hi2, hr2, hbel⟩
  case round =>
    clear hi2 hbel hr2
    obtain ⟨j, hj, rfl, hi, hr, hb⟩ := hrel
    by_cases hlt : j < len0
    · obtain ⟨hao, -⟩ := hr.cell (k := j) hlt
      subst hao
      go_wp2_with (go_at_call 13; refine (next_yes _ _ _ _ _ hi (by omega) (by omega) (by omega)).mono ?_; rintro e w3 ⟨rfl, hi3, ho3⟩)
      have hr3 := hr.only ho3 (by omega)
      have hb3 := hb.trans (ho3.below (by omega))
      clear hi hr hb ho3
      go_loopw [8] (fun k wq => ∃ t : Nat, t ≤ x ∧ k = .int .i64 t ∧ It wq (w1.heap.size + 1) (some ⟨w.heap.size, 0, none⟩) len0 ((j : Int) + 1) ∧ Row wq w.heap.size (some ⟨w.heap.size, 0, none⟩) len0 (z0.take len0) ∧ Below w.heap.size w wq) (fun k _ => x - (intOf k).toNat)
      case atStart => exact ⟨0, Nat.zero_le _, rfl, hi3, hr3, hb3⟩
      case round =>
        clear hi3 hr3 hb3
        obtain ⟨t, ht, rfl, hi, hr, hb⟩ := hrel
        by_cases htx : t < x
        · obtain ⟨-, hc, -, hx0, hx1⟩ := hr.cell (k := j) hlt
          generalize (z0.take len0).getD j 0 = X at hc hx0 hx1
          go_wp2_with (go_at_call 22; refine (key_any _ _ _ _ _ hi (by omega) (by omega)).mono ?_; rintro e w4 ⟨rfl, hb4⟩)
          have hi4 := hi.below hb4
          have hr4 := hr.below hb4
          have hsz4 := hb.size
          have hc4 : w4.cell? ⟨w.heap.size, j, none⟩ = some (.int .u8 X) := (hb4.cell (lt_of_cell hc)).trans hc
          have hb4' : Below w.heap.size w w4 := hb.trans (hb4.mono hsz4)
          have hl4 : w.heap.size < w4.heap.size := lt_of_cell hc4
          have hjl : (j : Int) < (len0 : Int) := by omega
          have hj0 : (0 : Int) ≤ (j : Int) := by omega
          have hwj : IntKind.i64.wrap (j : Int) = (j : Int) := wrap_small _ (by omega) (by omega)
          have hwx : IntKind.i64.wrap X = X := wrap_small _ hx0 (by omega)
          clear hi hr hb hb4 hc
          go_region_held3 (fun W => W.cell? ⟨w.heap.size, j, none⟩ = some (.int .u8 X)) (first | go_keep | exact (hb5.cell hl4).trans hc4)
            (first | (go_at_call 23; refine (value_raw _ w.heap.size _ j X _ hi4.drew hjl hn hc4 hx0 hx1).mono ?_; rintro e w5 ⟨rfl, hb5⟩))
          go_wp2
          go_roundw
          case rel => exact ⟨t + 1, by omega, by go_num, hi4.drew.below hb5, hr4.drew.below hb5, hb4'.drew.trans (hb5.mono (Nat.le_of_lt hl4))⟩
          case measure => simp [intOf]; omega
        · go_wp2_with fail
          go_roundw
          case rel => exact ⟨j + 1, by omega, by go_num, by simpa using hi, hr, hb⟩
          case measure => simp [intOf]; omega
    · obtain rfl : j = len0 := by omega
      go_wp2_with (go_at_call 13; refine (next_no _ _ _ _ _ hi (by omega) (by omega) (by omega)).mono ?_; rintro e w3 ⟨rfl, hi3, ho3⟩)
      go_ret
      exact ⟨rfl, hb.trans (ho3.below (by omega))⟩

/-! ### THE ROW's STEP: WRITTEN OUT: LEAVE IT -/
set_option maxRecDepth 100000 in
theorem lifted (os : Os) (started : os.Started) (H : Type) (enc : TypeId × Value → H) :
    ReturnsInHanded {} Eccg.checked os 7 .any (Rows.fnBytesIterReadsDoNotAdvanceSpec.pre6 enc Eccg.prog Eccg.f7 Rows.fnBytesIterReadsDoNotAdvanceRow.domain false) (Rows.fnBytesIterReadsDoNotAdvanceSpec.post enc Eccg.prog Eccg.f7 false true false false) := by
  refine returnsInHanded_of_change (C := Eccg.checked) own started (by kernel_rfl) Eccg.func7
    (ChangeSpec.witness6 (enc := enc) (C := Eccg.checked) false ⟨#[], #[.slice none 0 0, .int .i64 0], []⟩ 8 (by kernel_rfl) (by kernel_rfl) (by kernel_rfl) (by kernel_rfl)) ?_
  intro W base args ds gs before hval0 hW hcnd _
  have hval : ∀ (j : Nat) t v, Eccg.f7.params[j]? = some t → args[j]? = some v → Value.okWide Eccg.prog W .any base t v := hval0
  have hW' := hW
  obtain ⟨p, q, hA0, hV, rfl, hfz, hnd⟩ := hW
  have hA : DataW.TrodAll enc Eccg.prog W 0 (fun _ => true) true Eccg.f7.params.toList args.toList ds p := hA0
  rw [Eccg.params7] at hA hval
  obtain ⟨v0, vs0, d0, ds0, p0, q0, hargs, rfl, rfl, h0, r0⟩ := trodAll_cons hA
  obtain ⟨v1, vs1, d1, ds1, p1, q1, rfl, rfl, rfl, h1, r1⟩ := trodAll_cons r0
  obtain ⟨rfl, rfl, rfl⟩ := trodAll_nil r1
  obtain rfl : args = #[v0, v1] := by cases args; simp_all
  obtain ⟨rfl, rfl⟩ := trodVars_none hV
  obtain ⟨a0, len0, cap0, rfl⟩ := okWide_slice Eccg.underlying22 (hval 0 22 v0 rfl rfl)
  have k0 := h0
  have lt0 : ∀ x ∈ p0, x.block < W.heap.size := by obtain ⟨m, hm⟩ := k0; exact DataW.trod_lt m _ _ _ hm
  obtain ⟨z0, w0⟩ : ∃ zs, IsRow .u8 W a0 len0 cap0 zs := by
    obtain ⟨fuel, hf⟩ := h0
    rcases open_ints Eccg.underlying22 Eccg.underlying5 (by kernel_rfl) hf with ⟨hcs, _⟩ | ⟨x, l, c, zs, hcs, _, hl, hm, hz, _, hcell, hwz⟩
    · simp [Value.cells] at hcs
      obtain ⟨rfl, rfl, rfl⟩ := hcs
      exact ⟨[], .inl ⟨rfl, rfl, rfl, rfl⟩⟩
    · simp [Value.cells] at hcs
      obtain ⟨rfl, rfl, rfl⟩ := hcs
      exact ⟨zs, .inr ⟨_, rfl, hl, hm, by simpa using hz, hcell, hwz⟩⟩
  obtain ⟨a1, rfl, rfl, rfl, w1⟩ := open_int Eccg.underlying3 (hval 1 3 v1 rfl rfl) h1
  clear hA0 hval0
  refine (walk a0 len0 cap0 z0 a1 W w0 w1).mono fun e W' ⟨he, bel⟩ => ?_
  subst he
  exact ⟨_, rfl, _, _, _, [], _, [], hW', trodAll_mk1 (shut_bool Eccg.underlying4 _), (trodAll_cons_mk (Below.trod laidOut (by kernel_rfl) (of_decide_eq_true (by kernel_rfl)) k0 bel lt0) (trodAll_cons_mk (shut_int Eccg.underlying3 w1) trodAll_mk0)), rfl, bel.frame _, fun h => by cases h⟩

theorem over : Rows.fnBytesIterReadsDoNotAdvanceRow.holds Eccg.pinned (OpenSpec.ofChange Rows.fnBytesIterReadsDoNotAdvanceSpec) :=
  OpenClaim.holds_of_wide 7 Eccg.f7 rfl rfl rfl rfl rfl rfl rfl ⟨rfl, rfl, rfl, rfl, rfl⟩ rfl rfl rfl rfl rfl (by kernel_rfl) Eccg.func7 (by kernel_rfl)
    (of_decide_eq_true (by kernel_rfl)) (by unfold Func.isWrapper; first | (rw [if_pos (by decide +kernel)]; kernel_rfl) | (rw [if_neg (by decide +kernel)]; exact ⟨rfl, rfl⟩))
    (fun os started H enc _ => lifted os started H enc)

/-- ████ THE STATEMENT ████ -/
theorem proved : Rows.FnBytesIterReadsDoNotAdvanceSaid := over
end Go.Proofs.Yoeccw.fnBytesIterReadsDoNotAdvance
