/- The contract of spec.without29, over this seat's program. -/
import Derived.Test.YtdmpeecocfoocaaDoorNumA
import Derived.Deep.DeepCutAuto
import Derived.Lib.BufferRead
import Derived.Lib.SlBytesRow
namespace Go.Proofs.YtdmpeecocfoocaaDoor.E
open Go.RowKit Go.Proofs
set_option linter.unusedVariables false
set_option linter.unusedSimpArgs false

/-- A list of bytes as a text. -/
theorem conv_bytes {w : World} {A : Option Addr} {n c : Nat} {L : List UInt8} (hr : RowAt w A (byteVals L)) (hn : n = L.length) :
    (convert 132 9 (.slice A n c)).run Tryd.prog w = .ok (.string ⟨L.toArray⟩) w := by
  subst hn
  cases L with
  | nil =>
    cases A with
    | none => exact Lib.run_convert_nil_bytes w 132 9 5 c Tryd.underlying132 Tryd.underlying5 Tryd.underlying9
    | some a => simp only [List.length_nil]; rw [run_convert_bytes_string w 132 9 5 (some a) 0 c Tryd.underlying132 Tryd.underlying5 Tryd.underlying9]; simp [Conv.bytesToString]; rfl
  | cons x r =>
    obtain ⟨g, rfl, _⟩ := hr 0 (.int .u8 (x.toNat : Int)) rfl
    have hb : Lib.Bytes w g 0 ⟨(x :: r).toArray⟩ := by
      intro i hi
      have h1 : (byteVals (x :: r))[i]? = some (.int .u8 (((⟨(x :: r).toArray⟩ : ByteArray)[i]).toNat : Int)) := by
        rw [bget hi]
        have h2 : i < (x :: r).length := hi
        unfold byteVals
        rw [List.getElem?_map, List.getElem?_eq_getElem h2]
        rfl
      obtain ⟨g', e, hc⟩ := hr _ _ h1
      simp only [Option.some.injEq, Addr.mk.injEq] at e
      obtain ⟨rfl, _, _⟩ := e
      rw [Nat.zero_add]
      exact hc
    exact Lib.run_convert_whole w 132 5 9 Tryd.underlying132 Tryd.underlying5 Tryd.underlying9 g 0 ⟨(x :: r).toArray⟩ hb c

theorem hexS_iff (s : ByteArray) : hexS s.data.toList ↔ ∃ h : 2 ≤ s.size, s[0].toNat = 48 ∧ (s[1].toNat = 120 ∨ s[1].toNat = 88) := by
  unfold hexS
  rw [size_len]
  constructor
  · rintro ⟨h, a, b⟩
    rw [getD_at (by omega)] at a b
    exact ⟨h, a, b⟩
  · rintro ⟨h, a, b⟩
    rw [getD_at (by omega), getD_at (by omega)]
    exact ⟨h, a, b⟩
theorem baseS_iff (s : ByteArray) : baseS s.data.toList ↔ ∃ h : 2 ≤ s.size, s[0].toNat = 48 ∧ 10 ≤ digV 36 s[1].toNat := by
  unfold baseS
  rw [size_len]
  constructor
  · rintro ⟨h, a, b⟩
    rw [getD_at (by omega)] at a b
    exact ⟨h, a, b⟩
  · rintro ⟨h, a, b⟩
    rw [getD_at (by omega), getD_at (by omega)]
    exact ⟨h, a, b⟩

theorem bare_snoc {s : ByteArray} {k : Nat} (h : k < s.size) (h95 : ¬ s[k].toNat = 95) : bare (s.data.toList.take (k + 1)) = bare (s.data.toList.take k) ++ [s[k]] := by
  unfold bare
  rw [List.take_succ_eq_append_getElem (by simpa using h), List.filter_append, ← bget h, List.filter_cons_of_pos (by simpa using h95)]
  rfl
theorem bare_snoc95 {s : ByteArray} {k : Nat} (h : k < s.size) (h95 : s[k].toNat = 95) : bare (s.data.toList.take (k + 1)) = bare (s.data.toList.take k) := by
  unfold bare
  rw [List.take_succ_eq_append_getElem (by simpa using h), List.filter_append, ← bget h, List.filter_cons_of_neg (by simpa using h95)]
  simp
theorem good_other {s : ByteArray} {k : Nat} (h : k < s.size) (h95 : ((s[k].toNat : Int) != 95) = true) : good29 s.data.toList k := by
  intro e
  rw [getD_at h] at e
  rw [e] at h95
  cases h95
theorem Tryd.infoB8 : (Tryd.prog.info? 5).map (fun i => (i.zero, i.size, i.bytes)) = some (some (.int .u8 0), 1, 1) := by kernel_rfl
def WoEnd (s : ByteArray) (w : World) (e : Ending) (w' : World) : Prop := e = .returned (.tuple #[.string (if w29 s.data.toList = true then ⟨(bare s.data.toList).toArray⟩ else ⟨#[]⟩), .bool (w29 s.data.toList)]) ∧ Below w.heap.size w w'

set_option maxRecDepth 100000 in
set_option maxHeartbeats 3200000 in
theorem without_any (s : ByteArray) (hs : s.size ≤ 2147483647) (w : World) :
    Calls Tryd.prog 83 #[.string s] w (WoEnd s w) := by
  have hs' : (s.size : Int) ≤ 2147483647 := by omega
  obtain ⟨ti, hi, hz0, hz1, hz2⟩ := info_parts Tryd.infoB8
  go_enter Tryd.func83, Tryd.ntmps83
  go_upto_region 2 with (fail)
  go_cut [5] (fun s5 wx => s5 = .bool (decide (hexS s.data.toList)) ∧ wx = w.alloc (.cells #[] 5))
  case first =>
    by_cases h2 : 2 ≤ s.size
    · have i2 : (2 : Int) ≤ (s.size : Int) := by omega
      have n0 : 0 < s.size := by omega
      have n1 : 1 < s.size := by omega
      by_cases h48 : s[0].toNat = 48
      · have c0 : ((s[0].toNat : Int) == 48) = true := by rw [h48]; rfl
        by_cases h120 : s[1].toNat = 120
        · have c1 : ((s[1].toNat : Int) == 120) = true := by rw [h120]; rfl
          have HF : Hid (decide (hexS s.data.toList) = true) := decide_eq_true ((hexS_iff s).2 ⟨h2, h48, .inl h120⟩)
          clear h48 h120
          go_wp2_with (fail)
          go_meet
          exact ⟨by rw [HF.out], rfl⟩
        · have c1 : ((s[1].toNat : Int) == 120) = false := byte_beq (k := 120) (by omega) (fun h => h120 (by rw [h]; rfl))
          by_cases h88 : s[1].toNat = 88
          · have c2 : ((s[1].toNat : Int) == 88) = true := by rw [h88]; rfl
            have HF : Hid (decide (hexS s.data.toList) = true) := decide_eq_true ((hexS_iff s).2 ⟨h2, h48, .inr h88⟩)
            clear h48 h120 h88
            go_wp2_with (fail)
            go_meet
            exact ⟨by rw [HF.out], rfl⟩
          · have c2 : ((s[1].toNat : Int) == 88) = false := byte_beq (k := 88) (by omega) (fun h => h88 (by rw [h]; rfl))
            have HF : Hid (decide (hexS s.data.toList) = false) := decide_eq_false (fun h => by obtain ⟨_, _, h | h⟩ := (hexS_iff s).1 h; exact h120 h; exact h88 h)
            clear h48 h120 h88
            go_wp2_with (fail)
            go_meet
            exact ⟨by rw [HF.out], rfl⟩
      · have c0 : ((s[0].toNat : Int) == 48) = false := byte_beq (k := 48) (by omega) (fun h => h48 (by rw [h]; rfl))
        have HF : Hid (decide (hexS s.data.toList) = false) := decide_eq_false (fun h => by obtain ⟨_, h, _⟩ := (hexS_iff s).1 h; exact h48 h)
        clear h48
        go_wp2_with (fail)
        go_meet
        exact ⟨by rw [HF.out], rfl⟩
    · have i2 : ¬ (2 : Int) ≤ (s.size : Int) := by omega
      have HF : Hid (decide (hexS s.data.toList) = false) := decide_eq_false (fun h => by obtain ⟨h, _⟩ := (hexS_iff s).1 h; exact h2 h)
      go_wp2_with (fail)
      go_meet
      exact ⟨by rw [HF.out], rfl⟩
  case rest =>
    obtain ⟨rfl, rfl⟩ := hcut
    have HD := fun m hm w => Lib.hid (digit_walk m 36 hm (by omega) w)
    go_upto_region 3 with (fail)
    go_cut [6] (fun s6 wx => s6 = .bool (decide (baseS s.data.toList)) ∧ wx = w.alloc (.cells #[] 5))
    case first =>
      by_cases h2 : 2 ≤ s.size
      · have i2 : (2 : Int) ≤ (s.size : Int) := by omega
        have n0 : 0 < s.size := by omega
        have n1 : 1 < s.size := by omega
        by_cases h48 : s[0].toNat = 48
        · have c0 : ((s[0].toNat : Int) == 48) = true := by rw [h48]; rfl
          have HD1 := fun w => HD s[1].toNat s[1].toNat_lt w
          by_cases hd : 10 ≤ digV 36 s[1].toNat
          · have HF : Hid (decide (baseS s.data.toList) = true) := decide_eq_true ((baseS_iff s).2 ⟨h2, h48, hd⟩)
            clear h48 HD
            go_wp2_with (go_at_call 98; refine ((HD1 _).out).mono ?_; rintro e w1 ⟨rfl, rfl⟩)
            go_meet
            exact ⟨by rw [HF.out]; congr 1; simpa using hd, rfl⟩
          · have HF : Hid (decide (baseS s.data.toList) = false) := decide_eq_false (fun h => by obtain ⟨_, _, h⟩ := (baseS_iff s).1 h; exact hd h)
            clear h48 HD
            go_wp2_with (go_at_call 98; refine ((HD1 _).out).mono ?_; rintro e w1 ⟨rfl, rfl⟩)
            go_meet
            exact ⟨by rw [HF.out]; congr 1; simpa using hd, rfl⟩
        · have c0 : ((s[0].toNat : Int) == 48) = false := byte_beq (k := 48) (by omega) (fun h => h48 (by rw [h]; rfl))
          have HF : Hid (decide (baseS s.data.toList) = false) := decide_eq_false (fun h => by obtain ⟨_, h, _⟩ := (baseS_iff s).1 h; exact h48 h)
          clear h48
          go_wp2_with (fail)
          go_meet
          exact ⟨by rw [HF.out], rfl⟩
      · have i2 : ¬ (2 : Int) ≤ (s.size : Int) := by omega
        have HF : Hid (decide (baseS s.data.toList) = false) := decide_eq_false (fun h => by obtain ⟨h, _⟩ := (baseS_iff s).1 h; exact h2 h)
        go_wp2_with (fail)
        go_meet
        exact ⟨by rw [HF.out], rfl⟩
    case rest =>
      obtain ⟨rfl, rfl⟩ := hcut
      generalize hH : decide (hexS s.data.toList) = H
      generalize hB : decide (baseS s.data.toList) = B
      have HH := Lib.hid hH
      have HB := Lib.hid hB
      clear hH hB
      have HMADE : Hid ((w.alloc (.cells #[] 5)).ownsRow w.heap.size 5 1 (.slice (some ⟨w.heap.size, 0, none⟩) 0 0) 0 []) := World.ownsRow_made (base := w.heap.size) (e := 5) (size := 1) w #[] 0 (Nat.le_refl _) (Nat.zero_le _) rfl
      go_wp2
      go_loopw [4, 45] (fun v i wr => ∃ k : Nat, k ≤ s.size ∧ i = .int .i64 k ∧ wr.ownsRow w.heap.size 5 1 v (bare (s.data.toList.take k)).length (byteVals (bare (s.data.toList.take k))) ∧ Below w.heap.size w wr ∧ Hid (∀ j, j < k → good29 s.data.toList j)) (fun _ i _ => s.size - (intOf i).toNat)
      case atStart => exact ⟨0, Nat.zero_le _, rfl, by simpa [bare, byteVals] using HMADE.out, (Below.refl _ _).alloc (Nat.le_refl _) _, fun j hj => by omega⟩
      case round =>
        obtain ⟨k, hk, rfl, hown, hbel, HG⟩ := hrel
        by_cases hlt : k < s.size
        · by_cases h95 : s[k].toNat = 95
          · have c0 : ((s[k].toNat : Int) != 95) = false := by rw [h95]; rfl
            have HU := fun m hm w => Lib.hid (digit_walk m 16 hm (by omega) w)
            go_upto_region 9 with (fail)
            go_cut [8] (fun s8 wx => s8 = .bool (decide (aheadP s.data.toList k)) ∧ wx = wr)
            case first =>
              cases k with
              | zero =>
                have HF : Hid (decide (aheadP s.data.toList 0) = false) := decide_eq_false (by rintro (⟨h, _⟩ | ⟨h, _⟩ | ⟨h, _⟩) <;> omega)
                clear c0 h95 hown
                go_wp2_with (fail)
                go_meet
                exact ⟨by rw [HF.out], rfl⟩
              | succ m =>
                have hm : m < s.size := by omega
                have hm0 : (0 : Int) ≤ (m : Int) := Int.natCast_nonneg _
                have hm1 : (m : Int) + 1 < (s.size : Int) := by omega
                have HU1 := fun w => HU s[m].toNat s[m].toNat_lt w
                have hga : (s.data.toList.getD (m + 1 - 1) 0).toNat = s[m].toNat := by rw [Nat.add_sub_cancel, getD_at hm]
                clear c0 h95 hown HU
                by_cases dd : decD s[m].toNat
                · have e1 : (48 : Int) ≤ (s[m].toNat : Int) := by have := dd.1; omega
                  have e2 : (s[m].toNat : Int) ≤ 57 := by have := dd.2; omega
                  have HF : Hid (decide (aheadP s.data.toList (m + 1)) = true) := decide_eq_true (.inl ⟨by omega, by rw [hga]; exact dd⟩)
                  clear dd hga
                  go_wp2_with (fail)
                  go_meet
                  exact ⟨by rw [HF.out], rfl⟩
                by_cases d1 : s[m].toNat < 48
                · have e1 : ¬ (48 : Int) ≤ (s[m].toNat : Int) := by omega
                  cases H with
                  | true =>
                    have hh : hexS s.data.toList := by have := HH.out; simpa using this
                    by_cases m1 : m = 1
                    · subst m1
                      cases B with
                      | true =>
                        have hb : baseS s.data.toList := by have := HB.out; simpa using this
                        have HF : Hid (decide (aheadP s.data.toList (1 + 1)) = true) := decide_eq_true (.inr (.inr ⟨rfl, hb⟩))
                        clear dd hga hh hb d1
                        go_wp2_with (fail)
                        go_meet
                        exact ⟨by rw [HF.out] <;> (congr 1 <;> simp <;> omega), rfl⟩
                      | false =>
                        have hb : ¬ baseS s.data.toList := by have := HB.out; simpa using this
                        have HF : Hid (decide (aheadP s.data.toList (1 + 1)) = false) := decide_eq_false (by rintro (⟨_, h⟩ | ⟨h, _⟩ | ⟨_, h⟩); (rw [hga] at h; exact dd h); omega; exact hb h)
                        clear dd hga hh hb d1
                        go_wp2_with (fail)
                        go_meet
                        exact ⟨by rw [HF.out] <;> (congr 1 <;> simp <;> omega), rfl⟩
                    · have q1 : (((m : Int) + 1) == 2) = false := by simp; omega
                      by_cases m2 : 2 ≤ m
                      · have q2 : (2 : Int) < (m : Int) + 1 := by omega
                        by_cases dg : 0 ≤ digV 16 s[m].toNat
                        · have HF : Hid (decide (aheadP s.data.toList (m + 1)) = true) := decide_eq_true (.inr (.inl ⟨by omega, hh, by rw [hga]; exact dg⟩))
                          clear dd hga hh m1 d1
                          go_wp2_with (go_at_call 98; refine ((HU1 _).out).mono ?_; rintro e w1 ⟨rfl, rfl⟩)
                          go_meet
                          exact ⟨by rw [HF.out] <;> (congr 1 <;> simp <;> omega), rfl⟩
                        · have HF : Hid (decide (aheadP s.data.toList (m + 1)) = false) := decide_eq_false (by rintro (⟨_, h⟩ | ⟨_, _, h⟩ | ⟨h, _⟩); (rw [hga] at h; exact dd h); (rw [hga] at h; exact dg h); omega)
                          have dg' : digV 16 s[m].toNat < 0 := by omega
                          clear dd hga hh m1 d1 dg
                          go_wp2_with (go_at_call 98; refine ((HU1 _).out).mono ?_; rintro e w1 ⟨rfl, rfl⟩)
                          go_meet
                          exact ⟨by rw [HF.out] <;> (congr 1 <;> simp <;> omega), rfl⟩
                      · have q2 : ¬ (2 : Int) < (m : Int) + 1 := by omega
                        have HF : Hid (decide (aheadP s.data.toList (m + 1)) = false) := decide_eq_false (by rintro (⟨_, h⟩ | ⟨h, _⟩ | ⟨h, _⟩); (rw [hga] at h; exact dd h); omega; omega)
                        clear dd hga hh m1 d1
                        go_wp2_with (fail)
                        go_meet
                        exact ⟨by rw [HF.out] <;> (congr 1 <;> simp <;> omega), rfl⟩
                  | false =>
                    have hh : ¬ hexS s.data.toList := by have := HH.out; simpa using this
                    by_cases m1 : m = 1
                    · subst m1
                      cases B with
                      | true =>
                        have hb : baseS s.data.toList := by have := HB.out; simpa using this
                        have HF : Hid (decide (aheadP s.data.toList (1 + 1)) = true) := decide_eq_true (.inr (.inr ⟨rfl, hb⟩))
                        clear dd hga hh hb d1
                        go_wp2_with (fail)
                        go_meet
                        exact ⟨by rw [HF.out] <;> (congr 1 <;> simp <;> omega), rfl⟩
                      | false =>
                        have hb : ¬ baseS s.data.toList := by have := HB.out; simpa using this
                        have HF : Hid (decide (aheadP s.data.toList (1 + 1)) = false) := decide_eq_false (by rintro (⟨_, h⟩ | ⟨h, _⟩ | ⟨_, h⟩); (rw [hga] at h; exact dd h); omega; exact hb h)
                        clear dd hga hh hb d1
                        go_wp2_with (fail)
                        go_meet
                        exact ⟨by rw [HF.out] <;> (congr 1 <;> simp <;> omega), rfl⟩
                    · have q1 : (((m : Int) + 1) == 2) = false := by simp; omega
                      have HF : Hid (decide (aheadP s.data.toList (m + 1)) = false) := decide_eq_false (by rintro (⟨_, h⟩ | ⟨_, h, _⟩ | ⟨h, _⟩); (rw [hga] at h; exact dd h); exact hh h; omega)
                      clear dd hga hh m1 d1
                      go_wp2_with (fail)
                      go_meet
                      exact ⟨by rw [HF.out] <;> (congr 1 <;> simp <;> omega), rfl⟩
                · have e1 : (48 : Int) ≤ (s[m].toNat : Int) := by omega
                  have e2 : ¬ (s[m].toNat : Int) ≤ 57 := by unfold decD at dd; omega
                  cases H with
                  | true =>
                    have hh : hexS s.data.toList := by have := HH.out; simpa using this
                    by_cases m1 : m = 1
                    · subst m1
                      cases B with
                      | true =>
                        have hb : baseS s.data.toList := by have := HB.out; simpa using this
                        have HF : Hid (decide (aheadP s.data.toList (1 + 1)) = true) := decide_eq_true (.inr (.inr ⟨rfl, hb⟩))
                        clear dd hga hh hb d1
                        go_wp2_with (fail)
                        go_meet
                        exact ⟨by rw [HF.out] <;> (congr 1 <;> simp <;> omega), rfl⟩
                      | false =>
                        have hb : ¬ baseS s.data.toList := by have := HB.out; simpa using this
                        have HF : Hid (decide (aheadP s.data.toList (1 + 1)) = false) := decide_eq_false (by rintro (⟨_, h⟩ | ⟨h, _⟩ | ⟨_, h⟩); (rw [hga] at h; exact dd h); omega; exact hb h)
                        clear dd hga hh hb d1
                        go_wp2_with (fail)
                        go_meet
                        exact ⟨by rw [HF.out] <;> (congr 1 <;> simp <;> omega), rfl⟩
                    · have q1 : (((m : Int) + 1) == 2) = false := by simp; omega
                      by_cases m2 : 2 ≤ m
                      · have q2 : (2 : Int) < (m : Int) + 1 := by omega
                        by_cases dg : 0 ≤ digV 16 s[m].toNat
                        · have HF : Hid (decide (aheadP s.data.toList (m + 1)) = true) := decide_eq_true (.inr (.inl ⟨by omega, hh, by rw [hga]; exact dg⟩))
                          clear dd hga hh m1 d1
                          go_wp2_with (go_at_call 98; refine ((HU1 _).out).mono ?_; rintro e w1 ⟨rfl, rfl⟩)
                          go_meet
                          exact ⟨by rw [HF.out] <;> (congr 1 <;> simp <;> omega), rfl⟩
                        · have HF : Hid (decide (aheadP s.data.toList (m + 1)) = false) := decide_eq_false (by rintro (⟨_, h⟩ | ⟨_, _, h⟩ | ⟨h, _⟩); (rw [hga] at h; exact dd h); (rw [hga] at h; exact dg h); omega)
                          have dg' : digV 16 s[m].toNat < 0 := by omega
                          clear dd hga hh m1 d1 dg
                          go_wp2_with (go_at_call 98; refine ((HU1 _).out).mono ?_; rintro e w1 ⟨rfl, rfl⟩)
                          go_meet
                          exact ⟨by rw [HF.out] <;> (congr 1 <;> simp <;> omega), rfl⟩
                      · have q2 : ¬ (2 : Int) < (m : Int) + 1 := by omega
                        have HF : Hid (decide (aheadP s.data.toList (m + 1)) = false) := decide_eq_false (by rintro (⟨_, h⟩ | ⟨h, _⟩ | ⟨h, _⟩); (rw [hga] at h; exact dd h); omega; omega)
                        clear dd hga hh m1 d1
                        go_wp2_with (fail)
                        go_meet
                        exact ⟨by rw [HF.out] <;> (congr 1 <;> simp <;> omega), rfl⟩
                  | false =>
                    have hh : ¬ hexS s.data.toList := by have := HH.out; simpa using this
                    by_cases m1 : m = 1
                    · subst m1
                      cases B with
                      | true =>
                        have hb : baseS s.data.toList := by have := HB.out; simpa using this
                        have HF : Hid (decide (aheadP s.data.toList (1 + 1)) = true) := decide_eq_true (.inr (.inr ⟨rfl, hb⟩))
                        clear dd hga hh hb d1
                        go_wp2_with (fail)
                        go_meet
                        exact ⟨by rw [HF.out] <;> (congr 1 <;> simp <;> omega), rfl⟩
                      | false =>
                        have hb : ¬ baseS s.data.toList := by have := HB.out; simpa using this
                        have HF : Hid (decide (aheadP s.data.toList (1 + 1)) = false) := decide_eq_false (by rintro (⟨_, h⟩ | ⟨h, _⟩ | ⟨_, h⟩); (rw [hga] at h; exact dd h); omega; exact hb h)
                        clear dd hga hh hb d1
                        go_wp2_with (fail)
                        go_meet
                        exact ⟨by rw [HF.out] <;> (congr 1 <;> simp <;> omega), rfl⟩
                    · have q1 : (((m : Int) + 1) == 2) = false := by simp; omega
                      have HF : Hid (decide (aheadP s.data.toList (m + 1)) = false) := decide_eq_false (by rintro (⟨_, h⟩ | ⟨_, h, _⟩ | ⟨h, _⟩); (rw [hga] at h; exact dd h); exact hh h; omega)
                      clear dd hga hh m1 d1
                      go_wp2_with (fail)
                      go_meet
                      exact ⟨by rw [HF.out] <;> (congr 1 <;> simp <;> omega), rfl⟩
            case rest =>
              obtain ⟨rfl, rfl⟩ := hcut
              go_upto_region 10 with (fail)
              go_cut [9] (fun s9 wx => s9 = .bool (decide (behindP s.data.toList k)) ∧ wx = wc)
              case first =>
                by_cases hk1 : k + 1 < s.size
                · have hm1 : (k : Int) + 1 < (s.size : Int) := by omega
                  have hm0 : (0 : Int) ≤ (k : Int) + 1 := by omega
                  have HU1 := fun w => HU s[k + 1].toNat s[k + 1].toNat_lt w
                  have hgb : (s.data.toList.getD (k + 1) 0).toNat = s[k + 1].toNat := by rw [getD_at hk1]
                  have hlen1 : k + 1 < s.data.toList.length := by rw [size_len]; exact hk1
                  clear c0 h95 hown HU
                  by_cases dd : decD s[k + 1].toNat
                  · have e1 : (48 : Int) ≤ (s[k + 1].toNat : Int) := by have := dd.1; omega
                    have e2 : (s[k + 1].toNat : Int) ≤ 57 := by have := dd.2; omega
                    have HF : Hid (decide (behindP s.data.toList k) = true) := decide_eq_true ⟨hlen1, .inl (by rw [hgb]; exact dd)⟩
                    clear dd hgb
                    go_wp2_with (fail)
                    go_meet
                    exact ⟨by rw [HF.out], rfl⟩
                  by_cases d1 : s[k + 1].toNat < 48
                  · have e1 : ¬ (48 : Int) ≤ (s[k + 1].toNat : Int) := by omega
                    cases H with
                    | true =>
                      have hh : hexS s.data.toList := by have := HH.out; simpa using this
                      by_cases dg : 0 ≤ digV 16 s[k + 1].toNat
                      · have HF : Hid (decide (behindP s.data.toList k) = true) := decide_eq_true ⟨hlen1, .inr ⟨hh, by rw [hgb]; exact dg⟩⟩
                        clear dd hgb hh d1
                        go_wp2_with (go_at_call 98; refine ((HU1 _).out).mono ?_; rintro e w1 ⟨rfl, rfl⟩)
                        go_meet
                        exact ⟨by rw [HF.out] <;> (congr 1 <;> simp <;> omega), rfl⟩
                      · have HF : Hid (decide (behindP s.data.toList k) = false) := decide_eq_false (by rintro ⟨_, h | ⟨_, h⟩⟩; (rw [hgb] at h; exact dd h); (rw [hgb] at h; exact dg h))
                        have dg' : digV 16 s[k + 1].toNat < 0 := by omega
                        clear dd hgb hh d1 dg
                        go_wp2_with (go_at_call 98; refine ((HU1 _).out).mono ?_; rintro e w1 ⟨rfl, rfl⟩)
                        go_meet
                        exact ⟨by rw [HF.out] <;> (congr 1 <;> simp <;> omega), rfl⟩
                    | false =>
                      have hh : ¬ hexS s.data.toList := by have := HH.out; simpa using this
                      have HF : Hid (decide (behindP s.data.toList k) = false) := decide_eq_false (by rintro ⟨_, h | ⟨h, _⟩⟩; (rw [hgb] at h; exact dd h); exact hh h)
                      clear dd hgb hh d1
                      go_wp2_with (fail)
                      go_meet
                      exact ⟨by rw [HF.out] <;> (congr 1 <;> simp <;> omega), rfl⟩
                  · have e1 : (48 : Int) ≤ (s[k + 1].toNat : Int) := by omega
                    have e2 : ¬ (s[k + 1].toNat : Int) ≤ 57 := by unfold decD at dd; omega
                    cases H with
                    | true =>
                      have hh : hexS s.data.toList := by have := HH.out; simpa using this
                      by_cases dg : 0 ≤ digV 16 s[k + 1].toNat
                      · have HF : Hid (decide (behindP s.data.toList k) = true) := decide_eq_true ⟨hlen1, .inr ⟨hh, by rw [hgb]; exact dg⟩⟩
                        clear dd hgb hh d1
                        go_wp2_with (go_at_call 98; refine ((HU1 _).out).mono ?_; rintro e w1 ⟨rfl, rfl⟩)
                        go_meet
                        exact ⟨by rw [HF.out] <;> (congr 1 <;> simp <;> omega), rfl⟩
                      · have HF : Hid (decide (behindP s.data.toList k) = false) := decide_eq_false (by rintro ⟨_, h | ⟨_, h⟩⟩; (rw [hgb] at h; exact dd h); (rw [hgb] at h; exact dg h))
                        have dg' : digV 16 s[k + 1].toNat < 0 := by omega
                        clear dd hgb hh d1 dg
                        go_wp2_with (go_at_call 98; refine ((HU1 _).out).mono ?_; rintro e w1 ⟨rfl, rfl⟩)
                        go_meet
                        exact ⟨by rw [HF.out] <;> (congr 1 <;> simp <;> omega), rfl⟩
                    | false =>
                      have hh : ¬ hexS s.data.toList := by have := HH.out; simpa using this
                      have HF : Hid (decide (behindP s.data.toList k) = false) := decide_eq_false (by rintro ⟨_, h | ⟨h, _⟩⟩; (rw [hgb] at h; exact dd h); exact hh h)
                      clear dd hgb hh d1
                      go_wp2_with (fail)
                      go_meet
                      exact ⟨by rw [HF.out] <;> (congr 1 <;> simp <;> omega), rfl⟩
                · have hm1 : ¬ (k : Int) + 1 < (s.size : Int) := by omega
                  have HF : Hid (decide (behindP s.data.toList k) = false) := decide_eq_false (by rintro ⟨h, _⟩; rw [size_len] at h; exact hk1 h)
                  clear c0 h95 hown HU
                  go_wp2_with (fail)
                  go_meet
                  exact ⟨by rw [HF.out], rfl⟩
              case rest =>
                obtain ⟨rfl, rfl⟩ := hcut
                generalize hA : decide (aheadP s.data.toList k) = bA
                generalize hBh : decide (behindP s.data.toList k) = bB
                have HA := Lib.hid hA
                have HBh := Lib.hid hBh
                have H95 := Lib.hid h95
                have HTK := Lib.hid (bare_snoc95 hlt h95)
                have HNO : Hid (bA = false ∨ bB = false → w29 s.data.toList = false) := by
                  intro hor
                  rw [Bool.eq_false_iff]
                  intro hw
                  obtain ⟨g1, g2⟩ := w29_iff.1 hw k (by rw [size_len]; exact hlt) (by rw [getD_at hlt]; exact h95)
                  rcases hor with h | h
                  · have := HA.out; rw [h] at this; exact absurd g1 (by simpa using this)
                  · have := HBh.out; rw [h] at this; exact absurd g2 (by simpa using this)
                have hs0 := hown.lt
                clear hA hBh h95 c0 HU
                cases bA with
                | false =>
                  have HW : Hid (w29 s.data.toList = false) := HNO.out (.inl rfl)
                  cases bB with
                  | false =>
                    go_wp2
                    go_ret2
                    exact ⟨by rw [HW.out]; rfl, hbel⟩
                  | true =>
                    go_wp2
                    go_ret2
                    exact ⟨by rw [HW.out]; rfl, hbel⟩
                | true =>
                  cases bB with
                  | false =>
                    have HW : Hid (w29 s.data.toList = false) := HNO.out (.inr rfl)
                    go_wp2
                    go_ret2
                    exact ⟨by rw [HW.out]; rfl, hbel⟩
                  | true =>
                    go_wp2
                    go_roundw
                    case rel => exact ⟨k + 1, by omega, by go_num, by rw [HTK.out]; exact hown, hbel, fun j hj => by
                      by_cases e : j = k
                      · subst e
                        intro _
                        exact ⟨by simpa using HA.out, by simpa using HBh.out⟩
                      · exact HG.out j (by omega)⟩
                    case measure => simp [intOf]; omega
          · have c0 : ((s[k].toNat : Int) != 95) = true := by simp; omega
            have hlen : (bare (s.data.toList.take k)).length ≤ k := Nat.le_trans (List.length_filter_le _ _) (by simp; omega)
            have HBS : Hid (bare (s.data.toList.take (k + 1)) = bare (s.data.toList.take k) ++ [s[k]]) := bare_snoc hlt h95
            have hs0 := hown.lt
            generalize bare (s.data.toList.take k) = L at hown hlen HBS
            clear h95
            go_wp2_with (at_builtin; refine wpList_append_own _ rfl (.tmp 52) (.tmp 56) 132 rfl w.heap.size 5 ti _ 1 1 Tryd.underlying132 hi hz0 hz1 hz2 rfl (by decide) _ L.length _ rfl (hown.alloc _) ⟨wr.heap.size, 0, none⟩ 1 1 [.int .u8 (s[k].toNat : Int)] rfl rfl (World.news_of_block (cs := #[.int .u8 (s[k].toNat : Int)]) (t := 5) (fr := (0, 0)) (heap_alloc_new wr _)) (by simp [Value.oneCell']) (by unfold maxLen; omega) (by omega) (by have := hbel.size; simp; omega) ?_; intro v2 w2 hown2 hgrow hlt2)
            have hb2 : Below w.heap.size w w2 := (hbel.alloc hbel.size _).grown hgrow (by have := hbel.size; simp; omega) (fun b hb => (hs0 b hb).1)
            go_roundw
            case rel => exact ⟨k + 1, by omega, by go_num, by rw [HBS.out]; simpa [byteVals] using hown2, hb2, fun j hj => by by_cases e : j = k; (subst e; exact good_other hlt ‹_›); exact HG.out j (by omega)⟩
            case measure => simp [intOf]; omega
        · have HK : Hid (k = s.size) := by show k = _; omega
          have hown1 : wr.ownsRow w.heap.size 5 1 u4 (bare s.data.toList).length (byteVals (bare s.data.toList)) := by
            have e := HK.out
            rw [e, List.take_of_length_le (by simp)] at hown
            exact hown
          have HW : Hid (w29 s.data.toList = true) := w29_iff.2 (fun j hj => HG.out j (by have := HK.out; rw [size_len] at hj; omega))
          clear hown
          obtain ⟨A', c, rfl, hrow⟩ := own_row hown1
          have hcv := conv_bytes (c := c) hrow rfl
          clear hrow hown1
          go_wp2
          go_ret2
          exact ⟨by rw [HW.out]; rfl, hbel⟩
end Go.Proofs.YtdmpeecocfoocaaDoor.E
