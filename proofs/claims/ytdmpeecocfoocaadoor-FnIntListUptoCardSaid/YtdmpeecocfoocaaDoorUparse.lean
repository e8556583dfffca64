/- internal/strconv.ParseUint and strconv.ParseUint at base 0, whole, over this seat's program. -/
import Derived.Test.YtdmpeecocfoocaaDoorPuCx
import Derived.Test.YtdmpeecocfoocaaDoorPuCo
import Derived.Test.YtdmpeecocfoocaaDoorPuCb
import Derived.Test.YtdmpeecocfoocaaDoorPuCz
import Derived.Test.YtdmpeecocfoocaaDoorPuCy
import Derived.Test.YtdmpeecocfoocaaDoorPuCd
import Derived.Test.YtdmpeecocfoocaaDoorUok
import Derived.Test.YtdmpeecocfoocaaDoorLaid
namespace Go.Proofs.YtdmpeecocfoocaaDoor.E
open Go.RowKit Go.Proofs
open Go.Lib (NumEnd)
set_option linter.unusedVariables false
set_option linter.unusedSimpArgs false

theorem getD_at {t : ByteArray} {k : Nat} (h : k < t.size) : t.data.toList.getD k 0 = t[k] := by
  rw [bget h, List.getD_eq_getElem?_getD, List.getElem?_eq_getElem (by simpa using h)]
  rfl
theorem size_len (t : ByteArray) : t.data.toList.length = t.size := by simp

theorem uok_walk (t : ByteArray) (hne : 0 < t.size) (hmax : t.size ≤ 9223372036854775806) (hm : ¬ t[0].toNat = 45 ∧ ¬ t[0].toNat = 43) (w : World) :
    Calls Tryd.prog 123 #[.string t] w fun e w' => e = .returned (.bool (uok t.data.toList)) ∧ w = w' := by
  by_cases h0 : t[0].toNat = 48
  · by_cases h2 : 2 ≤ t.size
    · have hn : 1 < t.size := by omega
      by_cases hx : lowB t[1].toNat = 120
      · have e : uok t.data.toList = uoScan true 48 (t.data.toList.drop 2) := by
          unfold uok; rw [getD_at hne, getD_at hn, size_len, if_pos ⟨h0, h2, .inr (.inr hx)⟩, decide_eq_true hx]
        rw [e]; exact uok_x t hne hmax h0 h2 hx w
      by_cases ho : lowB t[1].toNat = 111
      · have e : uok t.data.toList = uoScan false 48 (t.data.toList.drop 2) := by
          unfold uok; rw [getD_at hne, getD_at hn, size_len, if_pos ⟨h0, h2, .inr (.inl ho)⟩, decide_eq_false hx]
        rw [e]; exact uok_o t hne hmax h0 h2 ho w
      by_cases hb : lowB t[1].toNat = 98
      · have e : uok t.data.toList = uoScan false 48 (t.data.toList.drop 2) := by
          unfold uok; rw [getD_at hne, getD_at hn, size_len, if_pos ⟨h0, h2, .inl hb⟩, decide_eq_false hx]
        rw [e]; exact uok_b t hne hmax h0 h2 hb w
      have e : uok t.data.toList = uoScan false 94 (t.data.toList.drop 0) := by
        unfold uok; rw [getD_at hne, getD_at hn, size_len, if_neg (fun h => h.2.2.elim hb (fun h => h.elim ho hx))]; rfl
      rw [e]; exact uok_n t hne hmax h0 h2 ⟨hb, ho, hx⟩ w
    · have e : uok t.data.toList = uoScan false 94 (t.data.toList.drop 0) := by
        unfold uok; rw [size_len, if_neg (fun h => h2 h.2.1)]; rfl
      rw [e]; exact uok_s t hne hmax h0 (by omega) w
  · have e : uok t.data.toList = uoScan false 94 (t.data.toList.drop 0) := by
      unfold uok; rw [getD_at hne, if_neg (fun h => h0 h.1)]; rfl
    rw [e]
    by_cases h2 : 2 ≤ t.size
    · exact uok_e t hne hmax h0 hm h2 w
    · exact uok_f t hne hmax h0 hm h2 w

def puEnd (ok : Bool) : NumEnd (Nat × Bool) → NumEnd Nat
  | .ok (n, us) => if us && !ok then Go.Lib.NumEnd.syntax else .ok n
  | Go.Lib.NumEnd.syntax => Go.Lib.NumEnd.syntax
  | .range => .range
/-- What ParseUint says of a text at base 0, of numbers up to M. -/
def puV (M : Nat) (l : List UInt8) : NumEnd Nat := if l = [] then Go.Lib.NumEnd.syntax else puEnd (uok l) (puScan (preB l).1 M 0 false (l.drop (preB l).2))

theorem puScan_le {B M : Nat} : ∀ (l : List UInt8) (acc : Nat) (us : Bool) (r : Nat × Bool), acc ≤ M → puScan B M acc us l = .ok r → r.1 ≤ M
  | [], acc, us, r, ha, h => by rw [puScan] at h; cases h; exact ha
  | c :: l, acc, us, r, ha, h => by
    rw [puScan] at h
    split at h
    · exact puScan_le l _ _ r ha h
    · split at h
      · cases h
      · rename_i h1 h2
        split at h
        · cases h
        · rename_i h3
          refine puScan_le l _ _ r ?_ h
          have : 0 ≤ dig0 c.toNat := by
            unfold dig0 at h2 ⊢
            (repeat' split at *) <;> omega
          omega
theorem puV_le {M : Nat} {l : List UInt8} {n : Nat} (h : puV M l = .ok n) : n ≤ M := by
  unfold puV at h
  split at h
  · cases h
  · generalize hr : puScan (preB l).1 M 0 false (l.drop (preB l).2) = r at h
    rcases r with ⟨m, us⟩ | _ | _
    · unfold puEnd at h
      simp only at h
      split at h
      · cases h
      · cases h; exact puScan_le _ 0 false _ (Nat.zero_le _) hr
    · cases h
    · cases h

theorem puTup_eq (T : TypeId) (M : Int) (ok : Bool) (r : NumEnd (Nat × Bool)) : puTup T M ok r = Lib.uintTupleM T M (puEnd ok r) := by
  rcases r with ⟨n, us⟩ | _ | _
  · cases us <;> cases ok <;> rfl
  · rfl
  · rfl

theorem inner_any (t : ByteArray) (hmax : t.size ≤ 9223372036854775806) (nb M : Nat) (hb : 1 ≤ nb ∧ nb ≤ 64) (hM : M ≤ 18446744073709551615) (hmv : IntKind.u64.wrap (IntKind.u64.wrap (2 ^ nb) - 1) = (M : Int)) (w : World) :
    Calls Tryd.prog 112 #[.string t, .int .i64 0, .int .i64 nb] w fun e w' => e = .returned (Lib.uintTupleM 162 M (puV M t.data.toList)) ∧ Below w.heap.size w w' := by
  by_cases hne : 0 < t.size
  · have hnil : t.data.toList ≠ [] := fun h => by have := size_len t; rw [h] at this; simp at this; omega
    have HX : ∀ k B, preB t.data.toList = (B, k) → Lib.uintTupleM 162 (M : Int) (puV M t.data.toList) = puTup 162 M (uok t.data.toList) (puScan B M 0 false ((t.extract k t.size).data.toList)) := by
      intro k B h
      rw [puTup_eq]; unfold puV
      rw [if_neg hnil, h, extract_list, ← size_len t, List.take_length]
    by_cases h0 : t[0].toNat = 48
    · have hu := fun W => uok_walk t hne hmax (by omega) W
      by_cases h3 : 3 ≤ t.size
      · have hn : 1 < t.size := by omega
        obtain ⟨i1, i2, i3⟩ := lowB_is ⟨t[1].toNat, t[1].toNat_lt⟩
        simp only at i1 i2 i3
        by_cases hbb : lowB t[1].toNat = 98
        · rw [HX 2 2 (by unfold preB; rw [getD_at hne, getD_at hn, size_len, if_pos h0, if_pos ⟨h3, i1.1 hbb⟩])]
          exact pu_b nb M hb hM hmv t hne hmax h0 h3 hbb w _ hu
        have nb1 := fun h => hbb (i1.2 h)
        by_cases ho : lowB t[1].toNat = 111
        · rw [HX 2 8 (by unfold preB; rw [getD_at hne, getD_at hn, size_len, if_pos h0, if_neg (fun h => nb1 h.2), if_pos ⟨h3, i2.1 ho⟩])]
          exact pu_o nb M hb hM hmv t hne hmax h0 h3 ho w _ hu
        have nb2 := fun h => ho (i2.2 h)
        by_cases hx : lowB t[1].toNat = 120
        · rw [HX 2 16 (by unfold preB; rw [getD_at hne, getD_at hn, size_len, if_pos h0, if_neg (fun h => nb1 h.2), if_neg (fun h => nb2 h.2), if_pos ⟨h3, i3.1 hx⟩])]
          exact pu_x nb M hb hM hmv t hne hmax h0 h3 hx w _ hu
        have nb3 := fun h => hx (i3.2 h)
        rw [HX 1 8 (by unfold preB; rw [getD_at hne, getD_at hn, size_len, if_pos h0, if_neg (fun h => nb1 h.2), if_neg (fun h => nb2 h.2), if_neg (fun h => nb3 h.2)])]
        exact pu_z nb M hb hM hmv t hne hmax h0 h3 ⟨hbb, ho, hx⟩ w _ hu
      · rw [HX 1 8 (by unfold preB; rw [getD_at hne, size_len, if_pos h0, if_neg (fun h => h3 h.1), if_neg (fun h => h3 h.1), if_neg (fun h => h3 h.1)])]
        exact pu_y nb M hb hM hmv t hne hmax h0 (by omega) w _ hu
    · rw [HX 0 10 (by unfold preB; rw [getD_at hne, if_neg h0])]
      have e : t.extract 0 t.size = t := ba_ext (by rw [extract_list, ← size_len t, List.take_length]; rfl)
      rw [e]
      exact pu_d nb M hb hM hmv t hne hmax h0 w _ (fun hm W => uok_walk t hne hmax hm W)
  · have ht : t = ⟨#[]⟩ := ByteArray.ext (Array.eq_empty_of_size_eq_zero (by show t.size = 0; omega))
    subst ht
    refine (Tryd.internal_strconv_ParseUint_empty 0 nb w).mono fun e w' ⟨he, hw⟩ => ⟨he.trans rfl, by rw [hw]; exact Below.refl _ _⟩

/-- The number that strconv.ParseUint gives, and whether there is an error. -/
def gotU (M : Nat) : NumEnd Nat → Nat
  | .ok n => n
  | Go.Lib.NumEnd.syntax => 0
  | .range => M
def badU : NumEnd Nat → Bool
  | .ok _ => false
  | _ => true
def UintGot (M : Nat) (p : NumEnd Nat) (w : World) (e : Ending) (w' : World) : Prop :=
  ∃ E : Value, e = .returned (.tuple #[.int .u64 (gotU M p), E]) ∧ ((badU p = false ∧ E = .nilIface) ∨ (badU p = true ∧ ∃ T q, E = .iface T q)) ∧ Below w.heap.size w w'
theorem gotU_le {M : Nat} (l : List UInt8) : gotU M (puV M l) ≤ M := by
  cases h : puV M l with
  | ok n => exact puV_le h
  | range => exact Nat.le_refl _
  | _ => exact Nat.zero_le _

/-- strconv.ParseUint at base 0: the number and whether there is an error. -/
theorem parseUint0 (t : ByteArray) (hmax : t.size ≤ 281474976710656) (nb M : Nat) (hb : 1 ≤ nb ∧ nb ≤ 64) (hM : M ≤ 18446744073709551615) (hmv : IntKind.u64.wrap (IntKind.u64.wrap (2 ^ nb) - 1) = (M : Int)) (w : World) (he1 : ErrCell 0 w) (he2 : ErrCell 1 w) :
    Calls Tryd.prog 100 #[.string t, .int .i64 0, .int .i64 nb] w fun e w' => UintGot M (puV M t.data.toList) w e w' := by
  have H0 := inner_any t (by omega) nb M hb hM hmv w
  have hle := fun n h => puV_le (M := M) (l := t.data.toList) (n := n) h
  generalize hr : puV M t.data.toList = r at H0 hle
  have E1 := Lib.hid he1
  have E2 := Lib.hid he2
  clear he1 he2 hmv hr
  unfold UintGot
  rcases r with n | _ | _
  · skip
    simp only [Lib.uintTupleM] at H0
    have H := Lib.hid H0
    have hn := Lib.hid (hle n rfl)
    clear hle H0
    go_enter Tryd.func100, Tryd.ntmps100
    go_wp2_with (go_at_call 112; refine (H.out).mono ?_; rintro e w1 ⟨rfl, hb1⟩)
    go_ret2
    exact ⟨.nilIface, rfl, .inl ⟨rfl, rfl⟩, hb1⟩
  · skip
    simp only [Lib.uintTupleM] at H0
    have H := Lib.hid H0
    clear hle H0
    go_enter Tryd.func100, Tryd.ntmps100
    go_wp2_with (first
      | (go_at_call 112; refine (H.out).mono ?_; rintro e w1 ⟨rfl, hb1⟩)
      | (go_at_call 108; obtain ⟨ev, hv, hev⟩ := E1.out.below hb1; refine (Tryd.strconv_toError_syntax _ t 0 nb ev _ hmax hv hev).mono ?_; rintro e w2 ⟨N, rfl, _, _, hb2⟩))
    go_ret2
    exact ⟨_, rfl, .inr ⟨rfl, _, _, rfl⟩, below_step hb1 hb2⟩
  · skip
    simp only [Lib.uintTupleM] at H0
    have H := Lib.hid H0
    clear hle H0
    go_enter Tryd.func100, Tryd.ntmps100
    go_wp2_with (first
      | (go_at_call 112; refine (H.out).mono ?_; rintro e w1 ⟨rfl, hb1⟩)
      | (go_at_call 108; obtain ⟨ev, hv, hev⟩ := E2.out.below hb1; refine (Tryd.strconv_toError_range _ t 0 nb ev _ hmax hv hev).mono ?_; rintro e w2 ⟨N, rfl, _, _, hb2⟩))
    go_ret2
    exact ⟨_, rfl, .inr ⟨rfl, _, _, rfl⟩, below_step hb1 hb2⟩
end Go.Proofs.YtdmpeecocfoocaaDoor.E
