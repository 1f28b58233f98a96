/-
  Next, whatever it answers; an iterator beside another that is moved.
-/
import Derived.Test.YoeccwIterStore
namespace Go.Proofs.Yoeccw.Iter
open Go.RowKit
set_option linter.unusedVariables false

theorem next_any (bi n : Nat) (ao : Option Addr) (i : Int) (w : World) (h : It w bi ao n i) (h0 : 0 ≤ i) (h2 : i ≤ 1000000) :
    Calls Eccg.prog 13 #[.pointer (some ⟨bi, 0, none⟩)] w fun e w' => ∃ b, e = .returned (.bool b) ∧ It w' bi ao n (i + 1) ∧ Only bi w w' := by
  refine (next_raw bi n ao i w h h0 h2).mono ?_
  rintro e w' ⟨rfl, q, rfl⟩
  exact ⟨_, rfl, (h.moved (i + 1)).drewN q, (only_set w bi 1 _).drewN q⟩
theorem It.only {w w' : World} {bi bc : Nat} {ao : Option Addr} {n : Nat} {i : Int} (h : It w bc ao n i) (hb : Only bi w w') (hne : bc ≠ bi) : It w' bc ao n i := h.of_block (hb.block _ hne)
theorem It.at_place {w : World} {bi : Nat} {ao : Option Addr} {n : Nat} {i j : Int} (h : It w bi ao n i) (e : i = j) : It w bi ao n j := e ▸ h
end Go.Proofs.Yoeccw.Iter
