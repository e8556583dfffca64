/- The contract of spec.Bytes16, over this seat's program. -/
import Derived.Test.YtnlmmkmbgjgdbaaDoorUnblank
import Derived.Test.YtnlmmkmbgjgdbaaDoorDigit
import Derived.Lib.HexFns2
import Derived.IntWalk
namespace Go.Proofs.YtnlmmkmbgjgdbaaDoor.E
open Go.RowKit
set_option linter.unusedVariables false
set_option linter.unusedSimpArgs false

def dig16 (c : UInt8) : Int := digV 16 c.toNat

theorem dropWhile_len (p : UInt8 → Bool) (l : List UInt8) : (l.dropWhile p).length ≤ l.length := by
  induction l with
  | nil => simp
  | cons x r ih => rw [List.dropWhile_cons]; split <;> simp <;> omega

theorem trim_len (l : List UInt8) : (Lib.trimSpace l).length ≤ l.length := by
  unfold Lib.trimSpace
  rw [List.length_reverse]
  have h1 := dropWhile_len Lib.isSp (l.dropWhile Lib.isSp).reverse
  have h2 := dropWhile_len Lib.isSp l
  rw [List.length_reverse] at h1
  omega

def hxOk : Lib.Hx.Out → Bool
  | .ok => true
  | _ => false

theorem odd_bad : ∀ {l : List UInt8}, l.length % 2 = 1 → hxOk (Lib.Hx.decode l).2 = false
  | [], h => by simp at h
  | [c], _ => by
    rw [Lib.Hx.decode_one]
    by_cases hc : 15 < Lib.Hx.v c
    · rw [if_pos hc]; rfl
    · rw [if_neg hc]; rfl
  | p :: q :: t, h => by
    rw [Lib.Hx.decode_two]
    by_cases hp : 15 < Lib.Hx.v p
    · rw [if_pos hp]; rfl
    rw [if_neg hp]
    by_cases hq : 15 < Lib.Hx.v q
    · rw [if_pos hq]; rfl
    rw [if_neg hq]
    exact odd_bad (l := t) (by simp at h; omega)

theorem digit16 (c : UInt8) (w : World) :
    Calls Tryd.prog 23 #[.int .u8 (c.toNat : Int), .int .u64 16] w fun e w' => e = .returned (.int .i64 (dig16 c)) ∧ w' = w :=
  (digit_walk c.toNat 16 (UInt8.toNat_lt c) (by omega) w).mono fun _ _ h => ⟨h.1, h.2.symm⟩

theorem dig16_all : ∀ n : Fin 256, dig16 (UInt8.ofNat n) = if 15 < Lib.Hx.v (UInt8.ofNat n) then -1 else (Lib.Hx.v (UInt8.ofNat n) : Int) := by decide +kernel

theorem dig16_eq (c : UInt8) : dig16 c = if 15 < Lib.Hx.v c then -1 else (Lib.Hx.v c : Int) := by
  have h := dig16_all ⟨c.toNat, UInt8.toNat_lt c⟩
  simpa using h

theorem dig16_lt (c : UInt8) : -1 ≤ dig16 c ∧ dig16 c ≤ 15 := by rw [dig16_eq]; split <;> omega

/-- How spec.Bytes16 means a text: 0 open, 1 fits, 2 wrong; and what it is then. -/
def hexOk (s : ByteArray) : Bool := hxOk (Lib.Hx.decode (Lib.trimSpace s.data.toList)).2
def hexN (s : ByteArray) : Int := if asciiL s.data.toList = false then 0 else if hexOk s = true then 1 else 2
def hexB (s : ByteArray) : List UInt8 := (Lib.Hx.decode (Lib.trimSpace s.data.toList)).1

/-- The slice that spec.Bytes16 tells. -/
def HexTold (w' : World) (s : ByteArray) (A : Option Addr) (n c : Nat) : Prop := hexN s = 1 → n = (hexB s).length ∧ RowAt w' A (byteVals (hexB s)) ∧ n ≤ c ∧ (A = none → c = 0)

theorem hex_val {a b : Nat} (ha : (a : Int) ≤ 15) (hb : (b : Int) ≤ 15) : [Value.int .u8 (16 * (a : Int) + (b : Int))] = byteVals [UInt8.ofNat (a * 16 + b)] := by
  have e : (UInt8.ofNat (a * 16 + b)).toNat = a * 16 + b := UInt8.toNat_ofNat_of_lt' (by simp [UInt8.size]; omega)
  simp only [byteVals, List.map_cons, List.map_nil, e]
  congr 2
  omega

theorem own_slice {w : World} {base : Nat} {e : TypeId} {size : Nat} {v : Value} {n : Nat} {xs : List Value} (h : w.ownsRow base e size v n xs) : ∃ A c, v = .slice A n c ∧ RowAt w A xs ∧ n ≤ c ∧ (A = none → c = 0) := by
  have h0 := h
  rcases h.2 with ⟨rfl, rfl⟩ | ⟨g, cap, cur, rfl, hb, hg, hn, hm, hs, ht⟩
  · obtain ⟨A, c, e, hr⟩ := own_row h0
    simp only [Value.slice.injEq] at e
    obtain ⟨rfl, _, rfl⟩ := e
    exact ⟨none, 0, rfl, hr, Nat.le_refl _, fun _ => rfl⟩
  · obtain ⟨A, c, e, hr⟩ := own_row h0
    simp only [Value.slice.injEq] at e
    obtain ⟨rfl, _, rfl⟩ := e
    exact ⟨_, _, rfl, hr, hn, fun h => by cases h⟩

/-- What spec.Bytes16 leaves. -/
def HexPost (s : ByteArray) (w : World) (e : Ending) (w' : World) : Prop := ∃ A n c, e = .returned (.tuple #[.slice A n c, .int .i64 (hexN s)]) ∧ HexTold w' s A n c ∧ Below w.heap.size w w'

theorem hexPost_no {s : ByteArray} {w : World} {k : Int} (h : hexN s = k) (hk : k ≠ 1) {e : Ending} (he : e = .returned (.tuple #[.slice none 0 0, .int .i64 k])) {w' : World} (hb : Below w.heap.size w w') : HexPost s w e w' :=
  ⟨none, 0, 0, by rw [h]; exact he, fun h1 => absurd (h.symm.trans h1) hk, hb⟩

theorem Tryd.infoB : (Tryd.prog.info? 5).map (fun i => (i.zero, i.size, i.bytes)) = some (some (.int .u8 0), 1, 1) := by kernel_rfl

theorem at_list {t : ByteArray} {j : Nat} (h : j < t.size) : t.data.toList[j]? = some t[j] := by
  rw [List.getElem?_eq_getElem (by simpa using h), bget h]

set_option maxRecDepth 100000 in
set_option maxHeartbeats 1600000 in
theorem bytes16_any (s : ByteArray) (w : World) (hs : s.size ≤ 2147483647) :
    Calls Tryd.prog 10 #[.string s] w (HexPost s w) := by
  have HU := Lib.hid (unblanked_any s w (by omega))
  obtain ⟨ti, hi, hz0, hz1, hz2⟩ := info_parts Tryd.infoB
  cases ha : asciiL s.data.toList with
  | false =>
    rw [ha] at HU
    have HN : Hid (hexN s = 0) := by simp [Hid, hexN, ha]
    clear ha
    go_enter Tryd.func10, Tryd.ntmps10
    go_wp2_with (go_at_call 22; refine HU.out.mono ?_; rintro e w' ⟨rfl, rfl⟩)
    go_ret2
    exact hexPost_no HN.out (by decide) rfl (Below.refl _ _)
  | true =>
    have HT : Hid (unbText s = unblank s) := by simp [Hid, unbText, ha]
    rw [ha, HT.out] at HU
    have HTL := Lib.hid (unblank_list s)
    generalize unblank s = t at HU HTL
    have htz : t.size ≤ 2147483647 := by
      have h1 : t.data.toList.length = t.size := by simp
      have h2 : s.data.toList.length = s.size := by simp
      have h3 := trim_len s.data.toList
      rw [← HTL.out] at h3
      omega
    clear HT
    by_cases hodd : t.size % 2 = 1
    · have HN : Hid (hexN s = 2) := by
        have : hexOk s = false := by unfold hexOk; rw [← HTL.out]; exact odd_bad (by simpa using hodd)
        simp [Hid, hexN, ha, this]
      have c1 : (t.size : Int) % 2 = 1 := by omega
      clear ha
      go_enter Tryd.func10, Tryd.ntmps10
      go_wp2_with (go_at_call 22; refine HU.out.mono ?_; rintro e w' ⟨rfl, rfl⟩)
      go_ret2
      exact hexPost_no HN.out (by decide) rfl (Below.refl _ _)
    · have c1 : (t.size : Int) % 2 = 0 := by omega
      have HA := Lib.hid ha
      clear ha
      go_enter Tryd.func10, Tryd.ntmps10
      go_wp2_with (go_at_call 22; refine HU.out.mono ?_; rintro e w' ⟨rfl, rfl⟩)
      clear c1
      go_loopw [6, 7] (fun v i wr => ∃ (q k : Nat) (pre : List UInt8), q ≤ t.size ∧ i = .int .i64 q ∧ Hid (q = 2 * k ∧ Lib.Hx.Mid t.data.toList k pre) ∧ wr.ownsRow w.heap.size 5 1 v k (byteVals pre) ∧ Below w.heap.size w wr) (fun _ i _ => t.size - (intOf i).toNat)
      case atStart => exact ⟨0, 0, [], by omega, rfl, ⟨rfl, Lib.Hx.mid_zero _⟩, World.ownsRow_made w #[] 0 (Nat.le_refl _) (Nat.zero_le _) rfl, (Below.refl _ _).alloc (Nat.le_refl _) _⟩
      case round =>
        obtain ⟨q, k, pre, hk, rfl, HM, hown, hbel⟩ := hrel
        by_cases hlt : q < t.size
        · have hlt2 : q + 1 < t.size := by have := HM.out.1; omega
          have i1 : (q : Int) < (t.size : Int) := by omega
          have i2 : (q : Int) + 1 < (t.size : Int) := by omega
          have HP : Hid (t.data.toList[2 * k]? = some t[q] ∧ t.data.toList[2 * k + 1]? = some t[q + 1]) := by
            have e := HM.out.1
            exact ⟨by rw [← e]; exact at_list hlt, by rw [← e]; exact at_list hlt2⟩
          by_cases hp : 15 < Lib.Hx.v t[q]
          · have d1 : dig16 t[q] = -1 := by rw [dig16_eq, if_pos hp]
            have HN : Hid (hexN s = 2) := by
              have h2 := Lib.Hx.mid_bad1 HM.out.2 _ _ HP.out.1 HP.out.2 hp
              have : hexOk s = false := by unfold hexOk; rw [← HTL.out, h2]; rfl
              simp [Hid, hexN, HA.out, this]
            have s1 : IntKind.i64.wrap ((q : Int) + 1) = (q : Int) + 1 := IntWalk.i64_in _ (by omega)
            have s2 : (0 : Int) ≤ (q : Int) + 1 := by omega
            have s3 : ((q : Int) + 1).toNat = q + 1 := by omega
            go_wp2_with fail
            go_quiet ((go_at_call 23; exact Calls.quiet_of_same (digit16 _ _)))
            clear s1
            go_wp2
            go_ret2
            exact hexPost_no HN.out (by decide) rfl (bdrew hbel _)
          · have d1 : dig16 t[q] = (Lib.Hx.v t[q] : Int) := by rw [dig16_eq, if_neg hp]
            have s1 : IntKind.i64.wrap ((q : Int) + 1) = (q : Int) + 1 := IntWalk.i64_in _ (by omega)
            have s2 : (0 : Int) ≤ (q : Int) + 1 := by omega
            have s3 : ((q : Int) + 1).toNat = q + 1 := by omega
            by_cases hp2 : 15 < Lib.Hx.v t[q + 1]
            · have d2 : dig16 t[q + 1] = -1 := by rw [dig16_eq, if_pos hp2]
              have HN : Hid (hexN s = 2) := by
                have h2 := Lib.Hx.mid_bad2 HM.out.2 _ _ HP.out.1 HP.out.2 hp hp2
                have : hexOk s = false := by unfold hexOk; rw [← HTL.out, h2]; rfl
                simp [Hid, hexN, HA.out, this]
              have p1 : ¬ ((Lib.Hx.v t[q] : Int) < 0) := by omega
              go_wp2_with fail
              go_quiet ((go_at_call 23; exact Calls.quiet_of_same (digit16 _ _)))
              clear s1
              go_wp2
              go_ret2
              exact hexPost_no HN.out (by decide) rfl (bdrew hbel _)
            · have d2 : dig16 t[q + 1] = (Lib.Hx.v t[q + 1] : Int) := by rw [dig16_eq, if_neg hp2]
              have p1 : ¬ ((Lib.Hx.v t[q] : Int) < 0) := by omega
              have p2 : ¬ ((Lib.Hx.v t[q + 1] : Int) < 0) := by omega
              have p3 : (Lib.Hx.v t[q] : Int) ≤ 15 := by omega
              have p4 : (Lib.Hx.v t[q + 1] : Int) ≤ 15 := by omega
              have HM2 := Lib.hid (Lib.Hx.mid_step HM.out.2 _ _ HP.out.1 HP.out.2 hp hp2)
              go_wp2_with fail
              go_quiet ((go_at_call 23; exact Calls.quiet_of_same (digit16 _ _)))
              clear s1
              have hown1 : (wr.drewN nq).ownsRow w.heap.size 5 1 u6 k (byteVals pre) := hown
              have hbel1 := bdrew hbel nq
              generalize wr.drewN nq = wq at hown1 hbel1 ⊢
              clear hown hbel
              have hsz := hbel1.size
              have HV : Hid ([Value.int .u8 (16 * (Lib.Hx.v t[q] : Int) + (Lib.Hx.v t[q + 1] : Int))] = byteVals [UInt8.ofNat (Lib.Hx.v t[q] * 16 + Lib.Hx.v t[q + 1])]) := hex_val p3 p4
              go_wp2_with (at_builtin; refine wpList_append_own _ rfl (.tmp 43) (.tmp 49) 26 rfl w.heap.size 5 ti _ 1 1 Tryd.underlying26 hi hz0 hz1 hz2 rfl (by decide) _ k _ rfl (hown1.alloc _) ⟨wq.heap.size, 0, none⟩ 1 1 [.int .u8 (16 * (Lib.Hx.v t[q] : Int) + (Lib.Hx.v t[q + 1] : Int))] rfl rfl (World.news_of_block (cs := #[.int .u8 (16 * (Lib.Hx.v t[q] : Int) + (Lib.Hx.v t[q + 1] : Int))]) (t := 5) (fr := (0, 0)) (heap_alloc_new wq _)) (by simp [Value.oneCell']) ?c3 ?c4 ?c5 ?_; rotate_left 3; intro v' w1 hown2 hgrow _)
              case c3 => have := HM.out.1; unfold maxLen; omega
              case c4 => have := HM.out.1; omega
              case c5 => simp; omega
              have hbel2 : Below w.heap.size w w1 := (hbel1.alloc (by omega) _).grown hgrow (by simp; omega) (fun b hb => (hown1.lt b hb).1)
              rw [HV.out] at hown2
              have hown3 : w1.ownsRow w.heap.size 5 1 v' (k + 1) (byteVals (pre ++ [UInt8.ofNat (Lib.Hx.v t[q] * 16 + Lib.Hx.v t[q + 1])])) := by
                unfold byteVals at hown2 ⊢; rw [List.map_append]; exact hown2
              clear hown2
              go_wp2
              go_roundw
              case rel => exact ⟨q + 2, k + 1, _, by omega, by go_num, ⟨by have := HM.out.1; omega, HM2.out⟩, hown3, hbel2⟩
              case measure => simp [intOf]; omega
        · have HN : Hid (hexN s = 1 ∧ hexB s = pre) := by
            obtain ⟨e, m1, m2, m3⟩ := HM.out
            have hl : t.data.toList.length = t.size := by simp
            have hd : t.data.toList.drop (2 * k) = [] := List.drop_eq_nil_of_le (by omega)
            rw [hd, Lib.Hx.decode_nil] at m2 m3
            have h1 : hexB s = pre := by unfold hexB; rw [← HTL.out, m2, List.append_nil]
            have : hexOk s = true := by unfold hexOk; rw [← HTL.out, m3]; rfl
            exact ⟨by simp [hexN, HA.out, this], h1⟩
          have hl := HM.out.2.1
          obtain ⟨A, c, rfl, hrow, hc, hA⟩ := own_slice hown
          go_wp2
          go_ret2
          exact ⟨A, k, c, by rw [HN.out.1]; rfl, fun _ => by rw [HN.out.2]; exact ⟨hl.symm, hrow, hc, hA⟩, hbel⟩
end Go.Proofs.YtnlmmkmbgjgdbaaDoor.E
