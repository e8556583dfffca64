/- For every list of texts laws.FnStrip returns true, and the list reads behind the call as before it. No condition. -/
import Derived.Test.YtnlmmkmbgjgdbaaRow
import Derived.Test.YtnlmmkmbgjgdbaaFnStripWalk
namespace Go.Proofs.Ytnlmmkmbgjgdbaa
open Go.ChangeShapes Go.WideShapes Go.ChangeAt Go.RowKit
open Go.ChangeMaps (open_string)
set_option linter.unusedVariables false
set_option linter.unusedSimpArgs false

set_option maxRecDepth 100000 in
theorem fnStrip_lifted (os : Os) (started : os.Started) (H : Type) (enc : TypeId × Value → H) :
    ReturnsInHanded {} Try.checked os 4 .any (Rows.fnStripSpec.pre6 enc Try.prog Try.f4 Rows.fnStripRow.domain false) (Rows.fnStripSpec.post enc Try.prog Try.f4 false true false false) := by
  refine returnsInHanded_of_change (C := Try.checked) Try.own started (by kernel_rfl) Try.func4
    (ChangeSpec.witness6 (enc := enc) (C := Try.checked) false ⟨#[], #[.slice none 0 0], []⟩ 8 (by kernel_rfl) (by kernel_rfl) (by kernel_rfl) (by kernel_rfl)) ?_
  intro W base args ds gs before hval0 hW _ _
  have hval : ∀ (j : Nat) t v, Try.f4.params[j]? = some t → args[j]? = some v → Value.okWide Try.prog W .any base t v := hval0
  have hpost := fun W' => law_post (W' := W') Try.laidOut (by kernel_rfl) (tb := 4) rfl Try.underlying4 rfl (fun ds h => by match ds, h with | [_], _ => rfl) hW
  obtain ⟨p, q, hA0, hV, rfl, hfz, hnd⟩ := hW
  have hA : DataW.TrodAll enc Try.prog W 0 (fun _ => true) true Try.f4.params.toList args.toList ds p := hA0
  clear hA0 hval0
  rw [Try.params4] at hA hval
  obtain ⟨v0, vs0, d0, ds0, p0, q0, hargs, rfl, rfl, h0, hr0⟩ := trodAll_cons hA
  obtain ⟨rfl, rfl, rfl⟩ := trodAll_nil hr0
  obtain rfl : args = #[v0] := by cases args; simp_all
  obtain ⟨a0, ht0, hz0⟩ := open_texts Try.underlying22 Try.underlying9 (by kernel_rfl) (hval 0 22 v0 rfl rfl) h0
  refine (fnStrip_any v0 a0 W ht0).mono fun e W' ⟨he, hb⟩ => ?_
  subst he
  exact ⟨_, rfl, hpost W' hb⟩

theorem fnStrip_holds : Rows.FnStripSaid :=
  OpenClaim.holds_of_wide 4 Try.f4 rfl rfl rfl rfl rfl rfl rfl ⟨rfl, rfl, rfl, rfl, rfl⟩ rfl rfl rfl rfl rfl (by kernel_rfl) Try.func4 (by kernel_rfl)
    (of_decide_eq_true (by kernel_rfl)) (by unfold Func.isWrapper; first | (rw [if_pos (by decide +kernel)]; kernel_rfl) | (rw [if_neg (by decide +kernel)]; exact ⟨rfl, rfl⟩))
    (fun os started H enc _ => fnStrip_lifted os started H enc)
#print axioms fnStrip_holds
end Go.Proofs.Ytnlmmkmbgjgdbaa
