/- spec.Bare: is an argument no flag? -/
import Derived.Test.YtgmhhdpggnmipaaKit
import Derived.Test.YtgmhhdpggnmipaaParts
import Derived.Test.YtgmhhdpggnmipaaPar
import Derived.Test.YtgmhhdpggnmipaaPQx6
namespace Go.Proofs.Ytgmhhdpggnmipaa.E
open Go.RowKit Go.Proofs
open Go.Proofs.Ytgmhhdpggnmipaa.PQ Go.Proofs.YtgmhhdpggnmipaaW.PrintWords
set_option linter.unusedVariables false
set_option linter.unusedSimpArgs false
theorem ba_loop (s : ByteArray) : ∀ (d i : Nat) (r : List UInt8), s.size - i = d → ByteArray.toList.loop s i r = r.reverse ++ s.data.toList.drop i := by
  intro d
  induction d with
  | zero =>
    intro i r h
    unfold ByteArray.toList.loop
    have hl : s.data.toList.length = s.size := by simp
    rw [if_neg (by omega), List.drop_eq_nil_of_le (by omega), List.append_nil]
  | succ d ih =>
    intro i r h
    unfold ByteArray.toList.loop
    have hl : s.data.toList.length = s.size := by simp
    have hi : i < s.size := by omega
    have hi2 : i < s.data.size := hi
    have hd := List.drop_eq_getElem_cons (l := s.data.toList) (i := i) (by omega)
    rw [if_pos hi, ih (i + 1) _ (by omega), hd]
    have e : s.get! i = s.data.toList[i]'(by omega) := by
      show s.data[i]! = _
      rw [getElem!_pos s.data i hi2, Array.getElem_toList]
    rw [e]
    simp
theorem ba_toList (s : ByteArray) : s.toList = s.data.toList := by
  unfold ByteArray.toList
  rw [ba_loop s s.size 0 [] (by omega)]
  simp
theorem bare_f (t : Txt) : spec_Bare.f (mkT t) = some (bareB t) := by
  unfold spec_Bare.f bareB
  rw [ba_toList, mkT_list]
  cases t with
  | nil => rfl
  | cons c r =>
    rw [if_neg (by simp), if_pos (by rw [mkT_size]; simp only [List.length_cons]; omega)]
    have e : bt (mkT (c :: r)) 0 = (c.toNat : Int) := by
      unfold bt
      simp [mkT]
      first
        | done
        | rfl
    rw [e]
    by_cases h : c = 45
    · subst h
      rw [if_pos (by decide)]
      simp [Bool.beq_eq_decide_eq]
    · have h2 : ¬ (c.toNat : Int) = 45 := fun q => h (UInt8.toNat_inj.1 (by show c.toNat = 45; omega))
      rw [if_neg h2]
      simp [h]
theorem bare_c (t : Txt) (w : World) : Calls Try.prog 32 #[.string (mkT t)] w fun e w' => e = .returned (.bool (bareB t)) ∧ Below w.heap.size w w' :=
  (spec_Bare.calls (mkT t) _ w (bare_f t)).mono fun e w' ⟨he, hd⟩ => ⟨he, hd.below⟩
end Go.Proofs.Ytgmhhdpggnmipaa.E
