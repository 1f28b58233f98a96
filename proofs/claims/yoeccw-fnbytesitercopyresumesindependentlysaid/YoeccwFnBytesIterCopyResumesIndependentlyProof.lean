/-
  THE PROOF OF 'Rows.FnBytesIterCopyResumesIndependentlySaid' ('github.com/d5/tengo/v2/zzlaws_root_b1.FnBytesIterCopyResumesIndependently'): the shell given with the seat (made by program), its hole filled: the walk, over the contracts of YoeccwIterBase and YoeccwIterClone. Not trusted: it is checked.
-/
import Derived.Test.YoeccwRows
import Derived.Test.YoeccwIterClone
import Derived.Test.YoeccwIterAgain
import Derived.WalkKit
import Derived.ProofKit
import Derived.OpenShut
import Derived.ShutString
import Derived.ChangeOld
import Derived.Below
namespace Go.Proofs.Yoeccw.fnBytesIterCopyResumesIndependently
open Go.ChangeShapes Go.WideShapes Go.ChangeAt Go.RowKit Go.Proofs.Yoeccw.Iter
open Go.ChangeMaps (open_string shut_string)
set_option linter.unusedVariables false

theorem own : ownKnob Eccg.prog.godebug = none := by kernel_rfl
theorem laidOut : laidOutB Eccg.prog = true := by kernel_rfl

/-- WHAT THE WALK IS TOLD OF A SLICE OF INTEGERS THAT CAME IN: it is nil; or it leads to a row of 'cap' cells, the numbers 'zs' (the first 'len' are its elements, the rest its spare room), each fitting its kind. -/
def IsRow (k : IntKind) (w : World) (a : Option Addr) (len cap : Nat) (zs : List Int) : Prop :=
  (a = none ∧ len = 0 ∧ cap = 0 ∧ zs = []) ∨
  ∃ x, a = some x ∧ len ≤ cap ∧ cap ≤ maxLen ∧ zs.length = cap ∧ (∀ i, i < zs.length → w.cell? (x.add i) = some (.int k (zs.getD i 0))) ∧ ∀ n ∈ zs, (Lit.int k n).wf = true

/-! ### STEP 1: THE WALK: the Go text returns true, AND WRITES NOTHING THAT WAS THERE: 'Below w.heap.size w w'' (Derived/Below.lean: '.refl', '.alloc', '.drew', '.setCell' at a new block, '.trans'). Open each 'IsRow' by 'rcases' AHEAD of 'go_enter'; part every test ahead of the walk. -/
set_option maxHeartbeats 1000000 in
theorem walk (a0 : Option Addr) (len0 cap0 : Nat) (z0 : List Int) (a1 : Int) (w : World) (w0 : IsRow .u8 w a0 len0 cap0 z0) (w1 : (Lit.int .i64 a1).wf = true) :
    Calls Eccg.prog 5 #[.slice a0 len0 cap0, .int .i64 a1] w fun e w' => e = .returned (.bool true) ∧ Below w.heap.size w w' := by
  have hlen : len0 ≤ 9223372036854775807 := by
    rcases w0 with ⟨_, h, _⟩ | ⟨x, _, h, h', _⟩
    · omega
    · unfold maxLen at h'; omega
  by_cases hbig : 65536 < len0
  · clear w0 w1
    go_enter Eccg.func5, Eccg.ntmps5
    go_wp2
    all_goals (go_ret; exact ⟨rfl, Below.refl _ _⟩)
  have hn : len0 ≤ 65536 := by omega
  clear hbig
  by_cases hneg : a1 < 0
  · clear w0 w1
    go_enter Eccg.func5, Eccg.ntmps5
    go_wp2
    go_ret
    exact ⟨rfl, Below.refl _ _⟩
  by_cases hgt : (len0 : Int) + 2 < a1
  · clear w0 w1
    go_enter Eccg.func5, Eccg.ntmps5
    go_wp2
    go_ret
    exact ⟨rfl, Below.refl _ _⟩
  obtain ⟨x, rfl⟩ := Int.eq_ofNat_of_zero_le (show 0 ≤ a1 by omega)
  have hx : x ≤ len0 + 2 := by omega
  clear hneg hgt w1 hlen
  have H : Hid (Came w a0 len0 cap0 z0) := w0
  clear w0
  go_enter Eccg.func5, Eccg.ntmps5
  go_wp2_with (first | (go_at_call 11; refine (clone_any _ _ _ z0 _ H.out hn).mono ?_; rintro e w1 ⟨ao, rfl, hb1, hr1⟩) | (go_at_call 12; refine (iterate_any _ _ _).mono ?_; rintro e w2 ⟨rfl, hi2, hb2⟩) | go_in)
  have hbel : Below w.heap.size w w2 := hb1.trans (hb2.mono hb1.size)
  have hsz := hb1.size
  have hr2 := hr1.below hb2
  generalize z0.take len0 = xs at hr2 hr1
  clear hb1 hb2 hr1 H
  go_loopw [7] (fun k wr => ∃ j : Nat, j ≤ x ∧ k = .int .i64 j ∧ It wr (w1.heap.size + 1) ao len0 j ∧ Row wr w.heap.size ao len0 xs ∧ Below w.heap.size w wr) (fun k _ => x - (intOf k).toNat)
  case atStart => exact ⟨0, Nat.zero_le _, rfl, hi2, hr2, hbel⟩
  case round =>
    clear hi2 hbel hr2
    obtain ⟨j, hj, rfl, hi, hr, hb⟩ := hrel
    by_cases hlt : j < x
    · go_wp2_with (go_at_call 13; refine (next_any _ _ _ _ _ hi (by omega) (by omega)).mono ?_; rintro e w3 ⟨bb, rfl, hi3, ho3⟩)
      go_roundw
      case rel => exact ⟨j + 1, by omega, by go_num, by simpa using hi3, hr.only ho3 (by omega), hb.trans (ho3.below (by omega))⟩
      case measure => simp [intOf]; omega
    · obtain rfl : j = x := by omega
      go_wp2_with (go_at_call 21; refine (copy_any _ _ _ _ _ hi).mono ?_; rintro e w3 ⟨rfl, hc3, hb3⟩)
      have hi3 := hi.below hb3
      have hr3 := hr.below hb3
      have hs3 := hb.size
      have hs4 := hi.lt
      have hbel : Below w.heap.size w w3 := hb.trans (hb3.mono hs3)
      generalize wr.heap.size = bc at *
      clear hi hr hb hb3
      go_loopw [9] (fun k wq => ∃ t : Nat, t ≤ len0 + 2 ∧ k = .int .i64 t ∧ It wq (w1.heap.size + 1) ao len0 ((j : Int) + (t : Int)) ∧ It wq bc ao len0 j ∧ Row wq w.heap.size ao len0 xs ∧ Below w.heap.size w wq) (fun k _ => len0 + 2 - (intOf k).toNat)
      case atStart => exact ⟨0, Nat.zero_le _, rfl, by simpa using hi3, hc3, hr3, hbel⟩
      case round =>
        clear hi3 hc3 hr3 hbel
        obtain ⟨t, ht, rfl, hi, hc, hr, hb⟩ := hrel
        by_cases htl : t < len0 + 2
        · go_wp2_with (go_at_call 13; refine (next_any _ _ _ _ _ hi (by omega) (by omega)).mono ?_; rintro e w4 ⟨bb, rfl, hi4, ho4⟩)
          go_roundw
          case rel => exact ⟨t + 1, by omega, by go_num, hi4.at_place (by omega), hc.only ho4 (by omega), hr.only ho4 (by omega), hb.trans (ho4.below (by omega))⟩
          case measure => simp [intOf]; omega
        · go_wp2_with fail
          clear hi htl ht
          go_loopw [10] (fun k wz => ∃ s : Nat, j + s ≤ len0 + 2 ∧ k = .int .i64 ((s : Int) + 1) ∧ It wz bc ao len0 ((j : Int) + (s : Int)) ∧ Row wz w.heap.size ao len0 xs ∧ Below w.heap.size w wz) (fun k _ => len0 + 3 - (intOf k).toNat)
          case atStart => exact ⟨0, by omega, rfl, by simpa using hc, hr, hb⟩
          case round =>
            clear hc hr hb
            obtain ⟨s, hs, rfl, hc, hr, hb⟩ := hrel
            by_cases hsl : j + s + 1 ≤ len0 + 2
            · by_cases hle : j + s + 1 ≤ len0
              · obtain ⟨hao, hcell, -, hx0, hx1⟩ := hr.cell (k := j + s) (by omega)
                subst hao
                generalize xs.getD (j + s) 0 = X at hcell hx0 hx1
                obtain ⟨p, hp⟩ : ∃ p, j + s = p := ⟨_, rfl⟩
                rw [hp] at hcell
                have hp1 : j + s ≤ p := by omega
                have hp2 : p ≤ j + s := by omega
                clear hp
                have hdt : decide ((j : Int) + ((s : Int) + 1) ≤ (len0 : Int)) = true := decide_eq_true (by omega)
                go_wp2_with (first | (go_at_call 13; refine (next_yes _ _ _ _ _ hc (by omega) (by omega) (by omega)).mono ?_; rintro e w5 ⟨rfl, hc5, ho5⟩) | (go_at_call 22; refine (key_any _ _ _ _ _ hc5 (by omega) (by omega)).mono ?_; rintro e w6 ⟨rfl, hb6⟩))
                have hs5 := ho5.size
                have hc6 : It w6 bc (some ⟨w.heap.size, 0, none⟩) len0 ((p : Int) + 1) := (hc5.below hb6).at_place (by omega)
                have hr6 := (hr.only ho5 (by omega)).below hb6
                have hb6' : Below w.heap.size w w6 := (hb.trans (ho5.below (by omega))).trans (hb6.mono (by have := hb.size; omega))
                have hcell6 : w6.cell? ⟨w.heap.size, p, none⟩ = some (.int .u8 X) := (hb6.cell (by have := lt_of_cell hcell; show w.heap.size < _; omega)).trans ((World.cell?_of_block (w := wr) (a := ⟨w.heap.size, p, none⟩) (ho5.block _ (by show w.heap.size ≠ bc; omega))).trans hcell)
                have hl6 : w.heap.size < w6.heap.size := lt_of_cell hcell6
                have hpl : (p : Int) < (len0 : Int) := by omega
                have hp0 : (0 : Int) ≤ (p : Int) := by omega
                have hwp1 : IntKind.i64.wrap ((j : Int) + ((s : Int) + 1)) = (p : Int) + 1 := by rw [show (j : Int) + ((s : Int) + 1) = (p : Int) + 1 from by omega]; exact wrap_small _ (by omega) (by omega)
                have hwp : IntKind.i64.wrap (p : Int) = (p : Int) := wrap_small _ (by omega) (by omega)
                have hwx : IntKind.i64.wrap X = X := wrap_small _ hx0 (by omega)
                clear hc hr hb hb6 hcell hc5 ho5 hdt
                go_region_held3 (fun W => W.cell? ⟨w.heap.size, p, none⟩ = some (.int .u8 X)) (first | go_keep | exact (hb7.cell hl6).trans hcell6)
                  (first | (go_at_call 23; refine (value_raw _ w.heap.size _ p X _ hc6.drew hpl hn hcell6 hx0 hx1).mono ?_; rintro e w7 ⟨rfl, hb7⟩))
                clear hwp1
                go_wp2_with fail
                go_roundw
                case rel => exact ⟨s + 1, by omega, by go_num, (hc6.drew.below hb7).at_place (by omega), hr6.drew.below hb7, hb6'.drew.trans (hb7.mono (Nat.le_of_lt hl6))⟩
                case measure => simp [intOf]; omega
              · go_wp2_with (go_at_call 13; refine (next_no _ _ _ _ _ hc (by omega) (by omega) (by omega)).mono ?_; rintro e w5 ⟨rfl, hc5, ho5⟩)
                go_roundw
                case rel => exact ⟨s + 1, by omega, by go_num, hc5.at_place (by omega), hr.only ho5 (by omega), hb.trans (ho5.below (by omega))⟩
                case measure => simp [intOf]; omega
            · go_wp2_with fail
              go_ret
              exact ⟨rfl, hb⟩

/-! ### THE ROW's STEP: WRITTEN OUT: LEAVE IT -/
set_option maxRecDepth 100000 in
theorem lifted (os : Os) (started : os.Started) (H : Type) (enc : TypeId × Value → H) :
    ReturnsInHanded {} Eccg.checked os 5 .any (Rows.fnBytesIterCopyResumesIndependentlySpec.pre6 enc Eccg.prog Eccg.f5 Rows.fnBytesIterCopyResumesIndependentlyRow.domain false) (Rows.fnBytesIterCopyResumesIndependentlySpec.post enc Eccg.prog Eccg.f5 false true false false) := by
  refine returnsInHanded_of_change (C := Eccg.checked) own started (by kernel_rfl) Eccg.func5
    (ChangeSpec.witness6 (enc := enc) (C := Eccg.checked) false ⟨#[], #[.slice none 0 0, .int .i64 0], []⟩ 8 (by kernel_rfl) (by kernel_rfl) (by kernel_rfl) (by kernel_rfl)) ?_
  intro W base args ds gs before hval0 hW hcnd _
  have hval : ∀ (j : Nat) t v, Eccg.f5.params[j]? = some t → args[j]? = some v → Value.okWide Eccg.prog W .any base t v := hval0
  have hW' := hW
  obtain ⟨p, q, hA0, hV, rfl, hfz, hnd⟩ := hW
  have hA : DataW.TrodAll enc Eccg.prog W 0 (fun _ => true) true Eccg.f5.params.toList args.toList ds p := hA0
  rw [Eccg.params5] at hA hval
  obtain ⟨v0, vs0, d0, ds0, p0, q0, hargs, rfl, rfl, h0, r0⟩ := trodAll_cons hA
  obtain ⟨v1, vs1, d1, ds1, p1, q1, rfl, rfl, rfl, h1, r1⟩ := trodAll_cons r0
  obtain ⟨rfl, rfl, rfl⟩ := trodAll_nil r1
  obtain rfl : args = #[v0, v1] := by cases args; simp_all
  obtain ⟨rfl, rfl⟩ := trodVars_none hV
  obtain ⟨a0, len0, cap0, rfl⟩ := okWide_slice Eccg.underlying22 (hval 0 22 v0 rfl rfl)
  have k0 := h0
  have lt0 : ∀ x ∈ p0, x.block < W.heap.size := by obtain ⟨m, hm⟩ := k0; exact DataW.trod_lt m _ _ _ hm
  obtain ⟨z0, w0⟩ : ∃ zs, IsRow .u8 W a0 len0 cap0 zs := by
    obtain ⟨fuel, hf⟩ := h0
    rcases open_ints Eccg.underlying22 Eccg.underlying5 (by kernel_rfl) hf with ⟨hcs, _⟩ | ⟨x, l, c, zs, hcs, _, hl, hm, hz, _, hcell, hwz⟩
    · simp [Value.cells] at hcs
      obtain ⟨rfl, rfl, rfl⟩ := hcs
      exact ⟨[], .inl ⟨rfl, rfl, rfl, rfl⟩⟩
    · simp [Value.cells] at hcs
      obtain ⟨rfl, rfl, rfl⟩ := hcs
      exact ⟨zs, .inr ⟨_, rfl, hl, hm, by simpa using hz, hcell, hwz⟩⟩
  obtain ⟨a1, rfl, rfl, rfl, w1⟩ := open_int Eccg.underlying3 (hval 1 3 v1 rfl rfl) h1
  clear hA0 hval0
  refine (walk a0 len0 cap0 z0 a1 W w0 w1).mono fun e W' ⟨he, bel⟩ => ?_
  subst he
  exact ⟨_, rfl, _, _, _, [], _, [], hW', trodAll_mk1 (shut_bool Eccg.underlying4 _), (trodAll_cons_mk (Below.trod laidOut (by kernel_rfl) (of_decide_eq_true (by kernel_rfl)) k0 bel lt0) (trodAll_cons_mk (shut_int Eccg.underlying3 w1) trodAll_mk0)), rfl, bel.frame _, fun h => by cases h⟩

theorem over : Rows.fnBytesIterCopyResumesIndependentlyRow.holds Eccg.pinned (OpenSpec.ofChange Rows.fnBytesIterCopyResumesIndependentlySpec) :=
  OpenClaim.holds_of_wide 5 Eccg.f5 rfl rfl rfl rfl rfl rfl rfl ⟨rfl, rfl, rfl, rfl, rfl⟩ rfl rfl rfl rfl rfl (by kernel_rfl) Eccg.func5 (by kernel_rfl)
    (of_decide_eq_true (by kernel_rfl)) (by unfold Func.isWrapper; first | (rw [if_pos (by decide +kernel)]; kernel_rfl) | (rw [if_neg (by decide +kernel)]; exact ⟨rfl, rfl⟩))
    (fun os started H enc _ => lifted os started H enc)

/-- ████ THE STATEMENT ████ -/
theorem proved : Rows.FnBytesIterCopyResumesIndependentlySaid := over
end Go.Proofs.Yoeccw.fnBytesIterCopyResumesIndependently
