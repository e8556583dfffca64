/- For every text and every list of texts laws.FnTexts returns true, and both read behind the call as before it. No condition. -/
import Derived.Test.YtnlmmkmbgjgdbaaRow
import Derived.Test.YtnlmmkmbgjgdbaaFnTextsWalk
namespace Go.Proofs.Ytnlmmkmbgjgdbaa
open Go.ChangeShapes Go.WideShapes Go.ChangeAt Go.RowKit
open Go.ChangeMaps (open_string)
set_option linter.unusedVariables false
set_option linter.unusedSimpArgs false

set_option maxRecDepth 100000 in
theorem fnTexts_lifted (os : Os) (started : os.Started) (H : Type) (enc : TypeId × Value → H) :
    ReturnsInHanded {} Try.checked os 3 .any (Rows.fnTextsSpec.pre6 enc Try.prog Try.f3 Rows.fnTextsRow.domain false) (Rows.fnTextsSpec.post enc Try.prog Try.f3 false true false false) := by
  refine returnsInHanded_of_change (C := Try.checked) Try.own started (by kernel_rfl) Try.func3
    (ChangeSpec.witness6 (enc := enc) (C := Try.checked) false ⟨#[], #[.string ⟨#[]⟩, .slice none 0 0], []⟩ 8 (by kernel_rfl) (by kernel_rfl) (by kernel_rfl) (by kernel_rfl)) ?_
  intro W base args ds gs before hval0 hW _ _
  have hval : ∀ (j : Nat) t v, Try.f3.params[j]? = some t → args[j]? = some v → Value.okWide Try.prog W .any base t v := hval0
  have hpost := fun W' => law_post (W' := W') Try.laidOut (by kernel_rfl) (tb := 4) rfl Try.underlying4 rfl (fun ds h => by match ds, h with | [_, _], _ => rfl) hW
  obtain ⟨p, q, hA0, hV, rfl, hfz, hnd⟩ := hW
  have hA : DataW.TrodAll enc Try.prog W 0 (fun _ => true) true Try.f3.params.toList args.toList ds p := hA0
  clear hA0 hval0
  rw [Try.params3] at hA hval
  obtain ⟨v0, vs0, d0, ds0, p0, q0, hargs, rfl, rfl, h0, hr0⟩ := trodAll_cons hA
  obtain ⟨v1, vs1, d1, ds1, p1, q1, rfl, rfl, rfl, h1, hr1⟩ := trodAll_cons hr0
  obtain ⟨rfl, rfl, rfl⟩ := trodAll_nil hr1
  obtain rfl : args = #[v0, v1] := by cases args; simp_all
  obtain ⟨a0, rfl, rfl, rfl, hs0⟩ := open_string Try.underlying9 (hval 0 9 v0 rfl rfl) h0
  obtain ⟨a1, ht1, hz1⟩ := open_texts Try.underlying22 Try.underlying9 (by kernel_rfl) (hval 1 22 v1 rfl rfl) h1
  refine (fnTexts_all a0 v1 a1 W ht1 hs0).mono fun e W' ⟨he, hb⟩ => ?_
  subst he
  exact ⟨_, rfl, hpost W' hb⟩

theorem fnTexts_holds : Rows.FnTextsSaid :=
  OpenClaim.holds_of_wide 3 Try.f3 rfl rfl rfl rfl rfl rfl rfl ⟨rfl, rfl, rfl, rfl, rfl⟩ rfl rfl rfl rfl rfl (by kernel_rfl) Try.func3 (by kernel_rfl)
    (of_decide_eq_true (by kernel_rfl)) (by unfold Func.isWrapper; first | (rw [if_pos (by decide +kernel)]; kernel_rfl) | (rw [if_neg (by decide +kernel)]; exact ⟨rfl, rfl⟩))
    (fun os started H enc _ => fnTexts_lifted os started H enc)
#print axioms fnTexts_holds
end Go.Proofs.Ytnlmmkmbgjgdbaa
