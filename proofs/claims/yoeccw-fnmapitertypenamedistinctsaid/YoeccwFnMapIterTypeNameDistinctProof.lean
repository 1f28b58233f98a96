/-
  THE PROOF OF 'Rows.FnMapIterTypeNameDistinctSaid' ('github.com/d5/tengo/v2/zzlaws_root_b1.FnMapIterTypeNameDistinct'): the shell given with the seat (made by program), its hole filled. Not trusted: it is checked.
-/
import Derived.Test.YoeccwRows
import Derived.WalkKit
import Derived.ProofKit
import Derived.OpenShut
import Derived.ShutString
namespace Go.Proofs.Yoeccw.fnMapIterTypeNameDistinct
open Go.ChangeShapes Go.WideShapes Go.ChangeAt Go.RowKit
open Go.ChangeMaps (open_string shut_string)
set_option linter.unusedVariables false      -- a walk need not use every 'w<i>' (that an integer argument fits its kind)

theorem own : ownKnob Eccg.prog.godebug = none := by kernel_rfl

/-! ### STEP 1: THE WALK: the Go text returns true. 'Grown w w'': the world has at most new blocks (Derived/RowKit3.lean). Part the cases AHEAD of 'go_enter' where a test parts the walk; take each callee by a contract of your own. -/
theorem walk  (w : World) :
    Calls Eccg.prog 4 #[] w fun e w' => e = .returned (.bool true) ∧ Grown w w' := by
  go_enter Eccg.func4, Eccg.ntmps4
  go_wp2
  go_ret
  exact ⟨rfl, by repeat (first | exact Grown.refl _ | apply Grown.drew | apply Grown.alloc)⟩

/-! ### THE ROW's STEP: WRITTEN OUT: LEAVE IT -/
set_option maxRecDepth 100000 in
theorem lifted (os : Os) (started : os.Started) (H : Type) (enc : TypeId × Value → H) :
    ReturnsInHanded {} Eccg.checked os 4 .any (Rows.fnMapIterTypeNameDistinctSpec.pre6 enc Eccg.prog Eccg.f4 Rows.fnMapIterTypeNameDistinctRow.domain false) (Rows.fnMapIterTypeNameDistinctSpec.post enc Eccg.prog Eccg.f4 false true false false) := by
  refine returnsInHanded_of_change (C := Eccg.checked) own started (by kernel_rfl) Eccg.func4
    (ChangeSpec.witness6 (enc := enc) (C := Eccg.checked) false ⟨#[], #[], []⟩ 8 (by kernel_rfl) (by kernel_rfl) (by kernel_rfl) (by kernel_rfl)) ?_
  intro W base args ds gs before hval0 hW hcnd _
  have hval : ∀ (j : Nat) t v, Eccg.f4.params[j]? = some t → args[j]? = some v → Value.okWide Eccg.prog W .any base t v := hval0
  have hW' := hW
  obtain ⟨p, q, hA0, hV, rfl, hfz, hnd⟩ := hW
  have hA : DataW.TrodAll enc Eccg.prog W 0 (fun _ => true) true Eccg.f4.params.toList args.toList ds p := hA0
  rw [Eccg.params4] at hA hval
  obtain ⟨rfl, rfl, rfl⟩ := trodAll_none hA
  obtain ⟨rfl, rfl⟩ := trodVars_none hV
  clear hA0 hval0
  simp only [List.append_nil] at hW'
  refine (walk  W).mono fun e W' ⟨he, hg⟩ => ?_
  subst he
  exact ⟨_, rfl, post_of_same (pa := []) (pv := []) hW' (fun _ _ _ => (trodAll_cons_mk (shut_bool Eccg.underlying4 _) trodAll_mk0)) (fun sp _ => rfl) (fun _ _ => rfl) rfl
    (hg.frame _) hg.2.1 (ok_one (by kernel_rfl) rfl (okWide_bool_mk Eccg.underlying4 _))⟩

theorem over : Rows.fnMapIterTypeNameDistinctRow.holds Eccg.pinned (OpenSpec.ofChange Rows.fnMapIterTypeNameDistinctSpec) :=
  OpenClaim.holds_of_wide 4 Eccg.f4 rfl rfl rfl rfl rfl rfl rfl ⟨rfl, rfl, rfl, rfl, rfl⟩ rfl rfl rfl rfl rfl (by kernel_rfl) Eccg.func4 (by kernel_rfl)
    (of_decide_eq_true (by kernel_rfl)) (by unfold Func.isWrapper; first | (rw [if_pos (by decide +kernel)]; kernel_rfl) | (rw [if_neg (by decide +kernel)]; exact ⟨rfl, rfl⟩))
    (fun os started H enc _ => lifted os started H enc)

/-- ████ THE STATEMENT ████ -/
theorem proved : Rows.FnMapIterTypeNameDistinctSaid :=
  over
end Go.Proofs.Yoeccw.fnMapIterTypeNameDistinct
