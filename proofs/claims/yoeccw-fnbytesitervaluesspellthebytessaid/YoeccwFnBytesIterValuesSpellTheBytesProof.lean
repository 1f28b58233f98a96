/-
  THE PROOF OF 'Rows.FnBytesIterValuesSpellTheBytesSaid' ('github.com/d5/tengo/v2/zzlaws_root_b1.FnBytesIterValuesSpellTheBytes'): the shell given with the seat (made by program), its hole filled: the walk, over the contracts of YoeccwIterBase and YoeccwIterClone. Not trusted: it is checked.
-/
import Derived.Test.YoeccwRows
import Derived.Test.YoeccwIterClone
import Derived.Test.YoeccwIterOut
import Derived.WalkKit
import Derived.ProofKit
import Derived.OpenShut
import Derived.ShutString
import Derived.ChangeOld
import Derived.Below
namespace Go.Proofs.Yoeccw.fnBytesIterValuesSpellTheBytes
open Go.ChangeShapes Go.WideShapes Go.ChangeAt Go.RowKit Go.Proofs.Yoeccw.Iter
open Go.ChangeMaps (open_string shut_string)
set_option linter.unusedVariables false

theorem own : ownKnob Eccg.prog.godebug = none := by kernel_rfl
theorem laidOut : laidOutB Eccg.prog = true := by kernel_rfl

/-- WHAT THE WALK IS TOLD OF A SLICE OF INTEGERS THAT CAME IN: it is nil; or it leads to a row of 'cap' cells, the numbers 'zs' (the first 'len' are its elements, the rest its spare room), each fitting its kind. -/
def IsRow (k : IntKind) (w : World) (a : Option Addr) (len cap : Nat) (zs : List Int) : Prop :=
  (a = none ∧ len = 0 ∧ cap = 0 ∧ zs = []) ∨
  ∃ x, a = some x ∧ len ≤ cap ∧ cap ≤ maxLen ∧ zs.length = cap ∧ (∀ i, i < zs.length → w.cell? (x.add i) = some (.int k (zs.getD i 0))) ∧ ∀ n ∈ zs, (Lit.int k n).wf = true

/-! ### STEP 1: THE WALK: the Go text returns true, AND WRITES NOTHING THAT WAS THERE: 'Below w.heap.size w w'' (Derived/Below.lean: '.refl', '.alloc', '.drew', '.setCell' at a new block, '.trans'). Open each 'IsRow' by 'rcases' AHEAD of 'go_enter'; part every test ahead of the walk. -/
set_option maxHeartbeats 1000000 in
theorem walk (a0 : Option Addr) (len0 cap0 : Nat) (z0 : List Int) (w : World) (w0 : IsRow .u8 w a0 len0 cap0 z0) :
    Calls Eccg.prog 8 #[.slice a0 len0 cap0] w fun e w' => e = .returned (.bool true) ∧ Below w.heap.size w w' := by
  have hlen : len0 ≤ 9223372036854775807 := by
    rcases w0 with ⟨_, h, _⟩ | ⟨x, _, h, h', _⟩
    · omega
    · unfold maxLen at h'; omega
  by_cases hbig : 65536 < len0
  · clear w0
    go_enter Eccg.func8, Eccg.ntmps8
    go_wp2
    all_goals (go_ret; exact ⟨rfl, Below.refl _ _⟩)
  have hn : len0 ≤ 65536 := by omega
  clear hbig hlen
  have H : Hid (Came w a0 len0 cap0 z0) := w0
  clear w0
  obtain ⟨i0, hi, hz0, hz1, hz2⟩ := info_parts info5
  go_enter Eccg.func8, Eccg.ntmps8
  go_wp2_with (first | (go_at_call 11; refine (clone_any _ _ _ z0 _ H.out hn).mono ?_; rintro e w1 ⟨ao, rfl, hb1, hr1⟩) | (go_at_call 12; refine (iterate_any _ _ _).mono ?_; rintro e w2 ⟨rfl, hi2, hb2⟩) | (at_make; refine wpList_make_own _ rfl _ _ 22 rfl w2.heap.size 5 i0 (.int .u8 0) 1 Eccg.underlying22 hi hz0 hz1 .i64 .i64 len0 len0 rfl rfl rfl (by rw [hz2]; omega) (by unfold maxLen; omega) (Nat.le_refl _) ?_; intro w3 hown hgrow) | go_in)
  have hsz := hb1.size
  have hsz2 := hi2.lt
  have hr3 := (hr1.below hb2).grown_none hgrow
  have hi3 := hi2.grown_none hgrow
  have hbel : Below w.heap.size w w3 := (hb1.trans (hb2.mono hb1.size)).grown hgrow (by omega) (by simp)
  have ho3 : Out w3 w2.heap.size len0 0 (z0.take len0) := hown
  have hxl := hr3.len
  generalize z0.take len0 = xs at hr1 hr3 ho3 hxl
  generalize hbo : w2.heap.size = bo at *
  clear hb1 hb2 hr1 H hgrow hown hi2 hbo
  go_loopw [5, 6] (fun out k wr => ∃ j : Nat, j ≤ len0 ∧ k = .int .i64 j ∧ out = .slice (some ⟨bo, 0, none⟩) j len0 ∧ It wr (w1.heap.size + 1) ao len0 j ∧ Row wr w.heap.size ao len0 xs ∧ Out wr bo len0 j xs ∧ Below w.heap.size w wr) (fun _ k _ => len0 - (intOf k).toNat)
  case atStart => exact ⟨0, Nat.zero_le _, rfl, rfl, hi3, hr3, ho3, hbel⟩
  case round =>
    clear hi3 hr3 ho3 hbel
    obtain ⟨j, hj, rfl, rfl, hit, hr, ho, hb⟩ := hrel
    by_cases hlt : j < len0
    · obtain ⟨hao, hc, -, hx0, hx1⟩ := hr.cell (k := j) hlt
      subst hao
      obtain ⟨X, hX⟩ : ∃ X, xs.getD j 0 = X := ⟨_, rfl⟩
      rw [hX] at hc hx0 hx1
      have HX : Hid (xs.getD j 0 = X) := hX
      have hwx : IntKind.u8.wrap X = X := wrap_byte X hx0 hx1
      clear hX
      go_wp2_with (first | (go_at_call 13; refine (next_yes _ _ _ _ _ hit (by omega) (by omega) (by omega)).mono ?_; rintro e w4 ⟨rfl, hi4, hn4⟩) | (go_at_call 23; refine (value_raw _ w.heap.size _ j X _ hi4 (by omega) hn (((hr.only hn4 (by omega)).cell hlt).2.1.trans (by rw [HX.out])) hx0 hx1).mono ?_; rintro e w5 ⟨rfl, hb5⟩) | (at_builtin; refine wpList_append_fits _ rfl _ _ 22 rfl bo 5 i0 1 Eccg.underlying22 hi hz1 bo j len0 ((xs.take j).map (Value.int .u8)) rfl (((ho.only hn4 (by omega)).below hb5).alloc _) ⟨w5.heap.size, 0, none⟩ 1 1 [.int .u8 X] rfl rfl (cell_one_new _ _ _) (by intro u hu; simp at hu; subst hu; rfl) (by omega) ?_; intro w6 hown6 hgrow6))
      have hs5 := hb5.size
      have hs4 := hn4.size
      have hso := ho.lt
      have ho6 : Out w6 bo len0 (j + 1) xs := Out.more HX.out (by omega) hown6
      have hi6 : It w6 (w1.heap.size + 1) (some ⟨w.heap.size, 0, none⟩) len0 ((j : Int) + 1) := ((hi4.below hb5).alloc _).grown hgrow6 (by omega)
      have hr6 : Row w6 w.heap.size (some ⟨w.heap.size, 0, none⟩) len0 xs := (((hr.only hn4 (by omega)).below hb5).alloc _).grown hgrow6 (by omega)
      have hb6 : Below w.heap.size w w6 := (((hb.trans (hn4.below (by omega))).trans (hb5.mono (by omega))).alloc (by omega) _).grown hgrow6 (by simp; omega) (by intro k hk; have := Option.some.inj hk; omega)
      go_roundw
      case rel => exact ⟨j + 1, by omega, by go_num, rfl, by simpa using hi6, hr6, ho6, hb6⟩
      case measure => simp [intOf]; omega
    · obtain rfl : j = len0 := by omega
      go_wp2_with (go_at_call 13; refine (next_no _ _ _ _ _ hit (by omega) (by omega) (by omega)).mono ?_; rintro e w4 ⟨rfl, hi4, hn4⟩)
      have hr4 := hr.only hn4 (by omega)
      have ho4 := ho.only hn4 (by omega)
      have hb4 := hb.trans (hn4.below (by omega))
      clear hr ho hb hit hi4 hn4
      go_loopw [8] (fun k wq => ∃ t : Nat, t ≤ j ∧ k = .int .i64 t ∧ Row wq w.heap.size ao j xs ∧ Out wq bo j j xs ∧ Below w.heap.size w wq) (fun k _ => j - (intOf k).toNat)
      case atStart => exact ⟨0, Nat.zero_le _, rfl, hr4, ho4, hb4⟩
      case round =>
        clear hr4 ho4 hb4
        obtain ⟨t, ht, rfl, hr, ho, hb⟩ := hrel
        by_cases htj : t < j
        · obtain ⟨hao, hc, -⟩ := hr.cell (k := t) htj
          have hd := ho.cell htj (by omega)
          subst hao
          generalize xs.getD t 0 = X at hc hd
          have htl : (t : Int) < (j : Int) := by omega
          go_wp2_with fail
          go_quiet (fail)
          go_wp2_with fail
          go_roundw
          case rel => exact ⟨t + 1, by omega, by go_num, hr.drewN _, ho.drewN _, below_drewN hb _⟩
          case measure => simp [intOf]; omega
        · go_wp2_with fail
          go_ret
          exact ⟨rfl, hb⟩

/-! ### THE ROW's STEP: WRITTEN OUT: LEAVE IT -/
set_option maxRecDepth 100000 in
theorem lifted (os : Os) (started : os.Started) (H : Type) (enc : TypeId × Value → H) :
    ReturnsInHanded {} Eccg.checked os 8 .any (Rows.fnBytesIterValuesSpellTheBytesSpec.pre6 enc Eccg.prog Eccg.f8 Rows.fnBytesIterValuesSpellTheBytesRow.domain false) (Rows.fnBytesIterValuesSpellTheBytesSpec.post enc Eccg.prog Eccg.f8 false true false false) := by
  refine returnsInHanded_of_change (C := Eccg.checked) own started (by kernel_rfl) Eccg.func8
    (ChangeSpec.witness6 (enc := enc) (C := Eccg.checked) false ⟨#[], #[.slice none 0 0], []⟩ 8 (by kernel_rfl) (by kernel_rfl) (by kernel_rfl) (by kernel_rfl)) ?_
  intro W base args ds gs before hval0 hW hcnd _
  have hval : ∀ (j : Nat) t v, Eccg.f8.params[j]? = some t → args[j]? = some v → Value.okWide Eccg.prog W .any base t v := hval0
  have hW' := hW
  obtain ⟨p, q, hA0, hV, rfl, hfz, hnd⟩ := hW
  have hA : DataW.TrodAll enc Eccg.prog W 0 (fun _ => true) true Eccg.f8.params.toList args.toList ds p := hA0
  rw [Eccg.params8] at hA hval
  obtain ⟨v0, vs0, d0, ds0, p0, q0, hargs, rfl, rfl, h0, r0⟩ := trodAll_cons hA
  obtain ⟨rfl, rfl, rfl⟩ := trodAll_nil r0
  obtain rfl : args = #[v0] := by cases args; simp_all
  obtain ⟨rfl, rfl⟩ := trodVars_none hV
  obtain ⟨a0, len0, cap0, rfl⟩ := okWide_slice Eccg.underlying22 (hval 0 22 v0 rfl rfl)
  have k0 := h0
  have lt0 : ∀ x ∈ p0, x.block < W.heap.size := by obtain ⟨m, hm⟩ := k0; exact DataW.trod_lt m _ _ _ hm
  obtain ⟨z0, w0⟩ : ∃ zs, IsRow .u8 W a0 len0 cap0 zs := by
    obtain ⟨fuel, hf⟩ := h0
    rcases open_ints Eccg.underlying22 Eccg.underlying5 (by kernel_rfl) hf with ⟨hcs, _⟩ | ⟨x, l, c, zs, hcs, _, hl, hm, hz, _, hcell, hwz⟩
    · simp [Value.cells] at hcs
      obtain ⟨rfl, rfl, rfl⟩ := hcs
      exact ⟨[], .inl ⟨rfl, rfl, rfl, rfl⟩⟩
    · simp [Value.cells] at hcs
      obtain ⟨rfl, rfl, rfl⟩ := hcs
      exact ⟨zs, .inr ⟨_, rfl, hl, hm, by simpa using hz, hcell, hwz⟩⟩
  clear hA0 hval0
  refine (walk a0 len0 cap0 z0 W w0).mono fun e W' ⟨he, bel⟩ => ?_
  subst he
  exact ⟨_, rfl, _, _, _, [], _, [], hW', trodAll_mk1 (shut_bool Eccg.underlying4 _), (trodAll_cons_mk (Below.trod laidOut (by kernel_rfl) (of_decide_eq_true (by kernel_rfl)) k0 bel lt0) trodAll_mk0), rfl, bel.frame _, fun h => by cases h⟩

theorem over : Rows.fnBytesIterValuesSpellTheBytesRow.holds Eccg.pinned (OpenSpec.ofChange Rows.fnBytesIterValuesSpellTheBytesSpec) :=
  OpenClaim.holds_of_wide 8 Eccg.f8 rfl rfl rfl rfl rfl rfl rfl ⟨rfl, rfl, rfl, rfl, rfl⟩ rfl rfl rfl rfl rfl (by kernel_rfl) Eccg.func8 (by kernel_rfl)
    (of_decide_eq_true (by kernel_rfl)) (by unfold Func.isWrapper; first | (rw [if_pos (by decide +kernel)]; kernel_rfl) | (rw [if_neg (by decide +kernel)]; exact ⟨rfl, rfl⟩))
    (fun os started H enc _ => lifted os started H enc)

/-- ████ THE STATEMENT ████ -/
theorem proved : Rows.FnBytesIterValuesSpellTheBytesSaid := over
end Go.Proofs.Yoeccw.fnBytesIterValuesSpellTheBytes
