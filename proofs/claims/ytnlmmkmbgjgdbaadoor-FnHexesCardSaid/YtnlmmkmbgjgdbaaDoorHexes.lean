/- The walk of laws.FnHexes, over this seat's program. -/
import Derived.Test.YtnlmmkmbgjgdbaaDoorHexV
import Derived.Lib.BufferRead
import Derived.Lib.SlBytesRow
namespace Go.Proofs.YtnlmmkmbgjgdbaaDoor.E
open Go.RowKit Go.Proofs
set_option linter.unusedVariables false
set_option linter.unusedSimpArgs false

theorem hexN_cases (s : ByteArray) : hexN s = 0 ∨ (hexN s = 1 ∧ hexGood s = true ∧ hexGot s = hexB s) ∨ (hexN s = 2 ∧ hexGood s = false) := by
  unfold hexN
  cases ha : asciiL s.data.toList with
  | false => exact .inl (by simp)
  | true =>
    have e : trimT s = Lib.trimSpace s.data.toList := by simp [trimT, ha]
    have e2 : hexGood s = hexOk s := by unfold hexGood hexOk; rw [e]
    have e3 : hexGot s = hexB s := by unfold hexGot hexB; rw [e]
    cases ho : hexOk s with
    | true => exact .inr (.inl ⟨by simp, by rw [e2, ho], e3⟩)
    | false => exact .inr (.inr ⟨by simp, by rw [e2, ho]⟩)

/-- A list of bytes as a text. -/
theorem conv_bytes {w : World} {A : Option Addr} {n c : Nat} {L : List UInt8} (hr : RowAt w A (byteVals L)) (hn : n = L.length) :
    (convert 26 9 (.slice A n c)).run Tryd.prog w = .ok (.string ⟨L.toArray⟩) w := by
  subst hn
  cases L with
  | nil =>
    cases A with
    | none => exact Lib.run_convert_nil_bytes w 26 9 5 c Tryd.underlying26 Tryd.underlying5 Tryd.underlying9
    | some a => simp only [List.length_nil]; rw [run_convert_bytes_string w 26 9 5 (some a) 0 c Tryd.underlying26 Tryd.underlying5 Tryd.underlying9]; simp [Conv.bytesToString]; rfl
  | cons x r =>
    obtain ⟨g, rfl, _⟩ := hr 0 (.int .u8 (x.toNat : Int)) rfl
    have hb : Lib.Bytes w g 0 ⟨(x :: r).toArray⟩ := by
      intro i hi
      have h1 : (byteVals (x :: r))[i]? = some (.int .u8 (((⟨(x :: r).toArray⟩ : ByteArray)[i]).toNat : Int)) := by
        rw [bget hi]
        have h2 : i < (x :: r).length := hi
        unfold byteVals
        rw [List.getElem?_map, List.getElem?_eq_getElem h2]
        rfl
      obtain ⟨g', e, hc⟩ := hr _ _ h1
      simp only [Option.some.injEq, Addr.mk.injEq] at e
      obtain ⟨rfl, _, _⟩ := e
      rw [Nat.zero_add]
      exact hc
    exact Lib.run_convert_whole w 26 5 9 Tryd.underlying26 Tryd.underlying5 Tryd.underlying9 g 0 ⟨(x :: r).toArray⟩ hb c

theorem heard_w0 (b : Bool) (w : World) : Calls Tryd.prog 18 #[.int .i64 0, .bool b] w fun e w' => e = .returned (.bool true) ∧ w = w' := by
  go_enter Tryd.func18, Tryd.ntmps18
  go_wp2
  go_ret
  exact ⟨rfl, rfl⟩
theorem heard_w1 (w : World) : Calls Tryd.prog 18 #[.int .i64 1, .bool false] w fun e w' => e = .returned (.bool true) ∧ w = w' := by
  go_enter Tryd.func18, Tryd.ntmps18
  go_wp2
  go_ret
  exact ⟨rfl, rfl⟩
theorem heard_w2 (w : World) : Calls Tryd.prog 18 #[.int .i64 2, .bool true] w fun e w' => e = .returned (.bool true) ∧ w = w' := by
  go_enter Tryd.func18, Tryd.ntmps18
  go_wp2
  go_ret
  exact ⟨rfl, rfl⟩

theorem law_kept {w wr w2 : World} {u v : Value} {T : TypeId} (hb2 : Below w.heap.size w wr) (hb : Below (wr.alloc (.cells #[u, v] T)).heap.size (wr.alloc (.cells #[u, v] T)) w2) : Below w.heap.size w w2 ∧ w2.cell? ⟨wr.heap.size, 0, none⟩ = some u ∧ w2.cell? ⟨wr.heap.size, 1, none⟩ = some v :=
  ⟨below_step hb2 (((Below.refl wr.heap.size wr).alloc (Nat.le_refl _) _).trans (hb.mono (by simp))), cell_kept hb (by simp), cell_kept hb (by simp)⟩

theorem law_convs {w2 : World} {base n1 n2 c1 c2 : Nat} {A1 A2 : Option Addr} {L1 L2 L3 : List UInt8} (ho : w2.ownsRow base 5 1 (.slice A1 n1 c1) n1 (byteVals L1)) (h1 : L1 = L2) (h2 : L2 = L3) (h3 : n2 = L3.length ∧ RowAt w2 A2 (byteVals L3) ∧ n2 ≤ c2 ∧ (A2 = none → c2 = 0)) :
    (convert 26 9 (.slice A1 n1 c1)).run Tryd.prog w2 = .ok (.string ⟨L3.toArray⟩) w2 ∧ (convert 26 9 (.slice A2 n2 c2)).run Tryd.prog w2 = .ok (.string ⟨L3.toArray⟩) w2 := by
  subst h1; subst h2
  obtain ⟨A', c', ea, hr1, _, _⟩ := own_slice ho
  simp only [Value.slice.injEq] at ea
  obtain ⟨rfl, _, rfl⟩ := ea
  have hn1 : n1 = L1.length := by have := ho.1; simpa [byteVals] using this.symm
  exact ⟨conv_bytes hr1 hn1, conv_bytes h3.2.1 h3.1⟩

set_option maxRecDepth 100000 in
set_option maxHeartbeats 3200000 in
theorem bytesAs_any (B : Option Addr) (cb : Nat) (cs : List Value) (A : Option Addr) (cap : Nat) (xs : List ByteArray) (base : Nat) (w : World) (hcs : cs.length = xs.length * 2) (hat : RowAt w B cs) (hrow : HexRow w base xs xs.length cs) (hx : StrsAt w A xs) (hm : xs.length ≤ 2147483647) (hs : ∀ j, j < xs.length → (tx xs j).size ≤ 2147483647) :
    Calls Tryd.prog 8 #[.slice B xs.length cb, .slice A xs.length cap, .func (.func 10) #[] #[]] w fun e w' => e = .returned (.bool true) ∧ Below w.heap.size w w' := by
  have HS := Lib.hid hs
  clear hs
  go_enter Tryd.func8, Tryd.ntmps8
  go_wp2
  go_loopw [18] (fun i wr => ∃ k : Nat, k ≤ xs.length ∧ i = .int .i64 k ∧ Below w.heap.size w wr) (fun i _ => xs.length - (intOf i).toNat)
  case atStart => exact ⟨0, Nat.zero_le _, rfl, Below.refl _ _⟩
  case round =>
    obtain ⟨k, hk, rfl, hb2⟩ := hrel
    by_cases hlt : k < xs.length
    · obtain ⟨ba, oa, rfl, hc0⟩ := hx k hlt
      obtain ⟨A1, n1, c1, L1, s0, s1, ho, hL⟩ := hrow k hlt
      rw [Nat.mul_comm] at s0 s1
      obtain ⟨g, rfl, e0⟩ := hat _ _ s0
      obtain ⟨g', eg, e1⟩ := hat _ _ s1
      obtain rfl : g = g' := by simpa using eg
      have d0 := cell_kept hb2 e0
      have d1 := cell_kept hb2 e1
      have hc := cell_kept hb2 hc0
      have i0 : (0 : Int) ≤ (k : Int) := Int.natCast_nonneg _
      have i1 : (k : Int) < (xs.length : Int) := by omega
      clear s0 s1 e0 e1 eg
      have H := Lib.hid (fun W => bytes16_any (tx xs k) W (HS.out k hlt))
      rcases hexN_cases (tx xs k) with hn | ⟨hn, hg, hh⟩ | ⟨hn, hg⟩
      · have HN := Lib.hid hn
        clear hn
        have hc1 : ∀ o, (wr.alloc o).cell? ⟨ba, oa + k, none⟩ = some (.string (tx xs k)) := fun o => cell_kept ((Below.refl _ _).alloc (Nat.le_refl _) o) hc
        go_wp2_with (go_at_call 10; refine (H.out _).mono ?_; rintro e w2 ⟨A2, n2, c2, rfl, _, hb3⟩; rw [HN.out]; obtain ⟨hbw, x0, x1⟩ := law_kept hb2 hb3; clear hb3)
        go_wp2_with (go_at_call 18; refine (heard_w0 _ _).mono ?_; rintro e w4 ⟨rfl, rfl⟩)
        go_roundw
        case rel => exact ⟨k + 1, by omega, by go_num, hbw⟩
        case measure => simp [intOf]; omega
      · have HN := Lib.hid hn
        have hl1 := Lib.hid (hL hg)
        rw [hg] at d0
        clear hn hg hL
        have HH := Lib.hid hh
        clear hh
        have hc1 : ∀ o, (wr.alloc o).cell? ⟨ba, oa + k, none⟩ = some (.string (tx xs k)) := fun o => cell_kept ((Below.refl _ _).alloc (Nat.le_refl _) o) hc
        have HO := Lib.hid ho
        clear ho
        go_wp2_with (go_at_call 10; refine (H.out _).mono ?_; rintro e w2 ⟨A2, n2, c2, rfl, ht2, hb3⟩; rw [HN.out]; obtain ⟨hbw, x0, x1⟩ := law_kept hb2 hb3; obtain ⟨k1, k2⟩ := law_convs (c1 := c1) (own_kept HO.out hbw) hl1.out HH.out (ht2 HN.out); clear hb3 ht2)
        go_wp2_with (go_at_call 18; refine (heard_w1 _).mono ?_; rintro e w4 ⟨rfl, rfl⟩)
        go_roundw
        case rel => exact ⟨k + 1, by omega, by go_num, hbw⟩
        case measure => simp [intOf]; omega
      · have HN := Lib.hid hn
        rw [hg] at d0
        clear hn hg
        have hc1 : ∀ o, (wr.alloc o).cell? ⟨ba, oa + k, none⟩ = some (.string (tx xs k)) := fun o => cell_kept ((Below.refl _ _).alloc (Nat.le_refl _) o) hc
        go_wp2_with (go_at_call 10; refine (H.out _).mono ?_; rintro e w2 ⟨A2, n2, c2, rfl, _, hb3⟩; rw [HN.out]; obtain ⟨hbw, x0, x1⟩ := law_kept hb2 hb3; clear hb3)
        go_wp2_with (go_at_call 18; refine (heard_w2 _).mono ?_; rintro e w4 ⟨rfl, rfl⟩)
        go_roundw
        case rel => exact ⟨k + 1, by omega, by go_num, hbw⟩
        case measure => simp [intOf]; omega
    · go_wp2
      go_ret
      exact ⟨rfl, hb2⟩

set_option maxHeartbeats 1600000 in
theorem fnHexes_any (d : Value) (L : List UInt8) (v : Value) (xs : List ByteArray) (w : World) (hd : BytesIn w d L) (h : Texts w v xs) (hdl : L.length ≤ 9223372036854775807) (ht : TrimTabs w) (he : SureErr 1 w) :
    Calls Tryd.prog 4 #[d, v] w fun e w' => e = .returned (.bool true) ∧ Below w.heap.size w w' := by
  obtain ⟨A, cap, rfl, hx, hcap, hm, hA⟩ := h
  have hd0 := hd
  obtain ⟨B, cb, rfl, hLc, hB, hBn⟩ := hd
  clear hBn hB
  by_cases hbig : 2147483647 < L.length
  · have c1 : decide ((2147483647 : Int) < (L.length : Int)) = true := by simp; omega
    go_enter Tryd.func4, Tryd.ntmps4
    go_wp2
    go_ret
    exact ⟨rfl, Below.refl _ _⟩
  have c1 : decide ((2147483647 : Int) < (L.length : Int)) = false := by simp; omega
  have hf := fits2_any A cap xs w hx (by omega)
  cases hr : fits2 xs with
  | false =>
    rw [hr] at hf
    go_enter Tryd.func4, Tryd.ntmps4
    go_wp2_with (go_at_call 6; refine hf.mono ?_; rintro e w' ⟨rfl, rfl⟩)
    go_ret
    exact ⟨rfl, Below.refl _ _⟩
  | true =>
    rw [hr] at hf
    have HF := Lib.hid (fits2_iff.1 hr)
    have H1 := Lib.hid (hexValue_any _ L A cap xs w hd0 (by omega) hx (fits2_iff.1 hr).1 (fits2_iff.1 hr).2 ht he)
    clear hr hd0 ht he
    go_enter Tryd.func4, Tryd.ntmps4
    go_wp2_with (first
      | (go_at_call 6; refine hf.mono ?_; rintro e w' ⟨rfl, rfl⟩)
      | (go_at_call 9; refine (H1.out).mono ?_; rintro e w1 ⟨A1, c1, cs, rfl, hcs, hat, hrow, hb1⟩; have H2 := Lib.hid (bytesAs_any A1 c1 cs A cap xs _ w1 hcs hat hrow (strsAt_below hx hb1) HF.out.1 HF.out.2); clear hcs)
      | (go_at_call 8; refine (H2.out).mono ?_; rintro e w2 ⟨rfl, hb2⟩))
    go_ret
    exact ⟨rfl, below_step hb1 hb2⟩
end Go.Proofs.YtnlmmkmbgjgdbaaDoor.E
