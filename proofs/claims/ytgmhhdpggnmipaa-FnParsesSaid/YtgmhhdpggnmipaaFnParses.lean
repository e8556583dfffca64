/- laws.FnParses holds. -/
import Derived.Test.YtgmhhdpggnmipaaRow
import Derived.Test.YtgmhhdpggnmipaaMpb
namespace Go.Proofs.Ytgmhhdpggnmipaa.E
open Go.ChangeShapes Go.WideShapes Go.ChangeAt Go.RowKit
open Go.ChangeMaps (open_string)
set_option linter.unusedVariables false
set_option linter.unusedSimpArgs false

set_option maxRecDepth 100000 in
theorem fnParses_lifted (os : Os) (started : os.Started) (H : Type) (enc : TypeId × Value → H) :
    ReturnsInHanded {} Try.checked os 11 .any (Rows.fnParsesSpec.pre6 enc Try.prog Try.f11 Rows.fnParsesRow.domain false) (Rows.fnParsesSpec.post enc Try.prog Try.f11 false true false false) := by
  refine returnsInHanded_of_change (C := Try.checked) Try.own started (by kernel_rfl) Try.func11
    (ChangeSpec.witness6 (enc := enc) (C := Try.checked) false ⟨#[], #[.agg #[.slice none 0 0, .bool false, .bool false, .int .i64 0], .slice none 0 0], []⟩ 8 (by kernel_rfl) (by kernel_rfl) (by kernel_rfl) (by kernel_rfl)) ?_
  intro W base args ds gs before hval0 hW _ _
  have hval : ∀ (j : Nat) t v, Try.f11.params[j]? = some t → args[j]? = some v → Value.okWide Try.prog W .any base t v := hval0
  have hpost := fun W' => law_post (W' := W') Try.laidOut (by kernel_rfl) (tb := 4) rfl Try.underlying4 rfl (fun ds h => by match ds, h with | [_, _], _ => rfl) hW
  obtain ⟨p, q, hA0, hV, rfl, hfz, hnd⟩ := hW
  have hA : DataW.TrodAll enc Try.prog W 0 (fun _ => true) true Try.f11.params.toList args.toList ds p := hA0
  clear hA0 hval0
  rw [Try.params11] at hA hval
  obtain ⟨v0, vs0, d0, ds0, p0, q0, hargs, rfl, rfl, h0, hr0⟩ := trodAll_cons hA
  obtain ⟨v1, vs1, d1, ds1, p1, q1, rfl, rfl, rfl, h1, hr1⟩ := trodAll_cons hr0
  obtain ⟨rfl, rfl, rfl⟩ := trodAll_nil hr1
  obtain rfl : args = #[v0, v1] := by cases args; simp_all
  obtain ⟨F0, A0, c0, pl0, un0, k0, rfl, hA0, hl0, hc0, hm0⟩ := open_set Try.underlying24 (by kernel_rfl) rfl rfl rfl rfl (by kernel_rfl) (by kernel_rfl) (by kernel_rfl) (by kernel_rfl) Try.underlying22 Try.underlying4 Try.underlying4 Try.underlying3 Try.underlying47 (by kernel_rfl) rfl rfl rfl rfl (by kernel_rfl) (by kernel_rfl) (by kernel_rfl) (by kernel_rfl) Try.underlying9 Try.underlying9 Try.underlying9 Try.underlying25 Try.underlying9 (by kernel_rfl) (hval 0 24 v0 rfl rfl) h0
  obtain ⟨a1, ht1⟩ := open_lists Try.underlying68 (by kernel_rfl) Try.underlying25 Try.underlying9 (by kernel_rfl) (hval 1 68 v1 rfl rfl) h1
  refine (fnParses_any hA0 hl0 hc0 hm0 pl0 un0 k0 ht1).mono fun e W' ⟨he, hb⟩ => ?_
  subst he
  exact ⟨_, rfl, hpost W' hb⟩

theorem fnParses_holds : Rows.FnParsesSaid :=
  OpenClaim.holds_of_wide 11 Try.f11 rfl rfl rfl rfl rfl rfl rfl ⟨rfl, rfl, rfl, rfl, rfl⟩ rfl rfl rfl rfl rfl (by kernel_rfl) Try.func11 (by kernel_rfl)
    (of_decide_eq_true (by kernel_rfl)) (by unfold Func.isWrapper; first | (rw [if_pos (by decide +kernel)]; kernel_rfl) | (rw [if_neg (by decide +kernel)]; exact ⟨rfl, rfl⟩))
    (fun os started H enc _ => fnParses_lifted os started H enc)
#print axioms fnParses_holds
end Go.Proofs.Ytgmhhdpggnmipaa.E
