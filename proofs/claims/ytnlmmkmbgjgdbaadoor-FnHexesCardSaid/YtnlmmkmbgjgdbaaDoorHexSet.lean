/- The contracts of the value of bytes: its door and Set, over this seat's program. -/
import Derived.Test.YtnlmmkmbgjgdbaaDoorBytes16
import Derived.Test.YtnlmmkmbgjgdbaaDoorShelf
import Derived.Test.YtnlmmkmbgjgdbaaDoorLaid
import Derived.Lib.LaidU8
namespace Go.Proofs.YtnlmmkmbgjgdbaaDoor.E
open Go.RowKit Go.Proofs
set_option linter.unusedVariables false
set_option linter.unusedSimpArgs false

/-- Go's tables of blanks, as the text lays them. -/
def TrimTabs (w : World) : Prop := Lib.TabIs Tryd.prog w "strings.asciiSpace" .u8 Lib.asciiSpaceTab ∧ Lib.Utf8Tabs 5 6 w ∧ Lib.WhiteTab 2 w
theorem TrimTabs.below {w w' : World} (h : TrimTabs w) (hb : Below w.heap.size w w') : TrimTabs w' :=
  ⟨Joins.tab_stays (g := 0) (by kernel_rfl) h.1 hb (Nat.le_refl _), Utf8Tabs_below h.2.1 hb, WhiteTab_below h.2.2 hb⟩

theorem trimTabs_of_laid {l : List (String × DataW Unit)} {W : World} (h : laidMetH Tryd.prog l W) (D1 D2 D3 D4 : DataW Unit) (h1 : (l.filter fun x => x.1 == "strings.asciiSpace") = [("strings.asciiSpace", D1)]) (h2 : (l.filter fun x => x.1 == "unicode/utf8.first") = [("unicode/utf8.first", D2)])
    (h3 : (l.filter fun x => x.1 == "unicode/utf8.acceptRanges") = [("unicode/utf8.acceptRanges", D3)]) (h4 : (l.filter fun x => x.1 == "unicode.White_Space") = [("unicode.White_Space", D4)]) (n3 : D3.handleName?.isSome = false) (n4 : D4.handleName?.isSome = false)
    (e1 : D1 = Lib.tabData .u8 Lib.asciiSpaceTab) (e2 : D2 = Lib.firstData) (e3 : D3 = Lib.acceptData) (e4 : D4 = Lib.whiteData) (U : U8Extra Tryd.prog Tryd.lays260_ren) (X : WhiteExtra Tryd.prog Tryd.lays199_ren) : TrimTabs W := by
  subst e1; subst e2
  refine ⟨?_, ?_, ?_⟩
  · exact tab_of_laid h h1 (g := 0) (by kernel_rfl) (t := 114) (by kernel_rfl) Tryd.underlying114 Tryd.underlying5 (by kernel_rfl) (by kernel_rfl)
  · have r3 := var_reads (laid_only h _ _ h2 rfl)
    have r4 := var_reads (laid_only h _ _ h3 n3)
    rw [e3] at r4
    exact utf8Tabs_of_reads Tryd.lays260 U r3 r4
  · have r6 := var_reads (laid_only h _ _ h4 n4)
    rw [e4] at r6
    exact whiteTab_of_reads Tryd.lays199 X r6

theorem Tryd.u8x : U8Extra Tryd.prog Tryd.lays260_ren := ⟨by kernel_rfl, by kernel_rfl, by kernel_rfl, by kernel_rfl, by kernel_rfl, by kernel_rfl, by kernel_rfl⟩
theorem Tryd.wsx : WhiteExtra Tryd.prog Tryd.lays199_ren := ⟨by kernel_rfl, by kernel_rfl, by kernel_rfl, by kernel_rfl, by kernel_rfl, by kernel_rfl, by kernel_rfl, by kernel_rfl⟩

theorem trimLeftD_len : ∀ (f : Nat) (l : List UInt8), (Lib.trimLeftD f l).length ≤ l.length
  | 0, l => by simp [Lib.trimLeftD]
  | f + 1, l => by
    unfold Lib.trimLeftD
    split
    · simp
    split
    · have := trimLeftD_len f (l.drop (Lib.decodeL l).2)
      rw [List.length_drop] at this
      omega
    · omega
theorem trimRightD_len : ∀ (f : Nat) (l : List UInt8), (Lib.trimRightD f l).length ≤ l.length
  | 0, l => by simp [Lib.trimRightD]
  | f + 1, l => by
    unfold Lib.trimRightD
    split
    · simp
    split
    · have := trimRightD_len f (l.take (l.length - (Lib.decodeLastL l).2))
      rw [List.length_take] at this
      omega
    · omega

/-- What strings.TrimSpace gives. -/
def trimT (s : ByteArray) : List UInt8 := if asciiL s.data.toList = true then Lib.trimSpace s.data.toList else Lib.trimSpaceD s.data.toList
def trimB (s : ByteArray) : ByteArray := ⟨(trimT s).toArray⟩
theorem trimB_list (s : ByteArray) : (trimB s).data.toList = trimT s := by simp [trimB]
theorem trimB_size (s : ByteArray) : (trimB s).size ≤ s.size := by
  have h1 : (trimB s).data.toList.length = (trimB s).size := by simp
  have h2 : s.data.toList.length = s.size := by simp
  rw [trimB_list] at h1
  have : (trimT s).length ≤ s.data.toList.length := by
    unfold trimT
    split
    · exact trim_len _
    · unfold Lib.trimSpaceD
      exact Nat.le_trans (trimRightD_len _ _) (trimLeftD_len _ _)
  omega

theorem trimSpace_walk (s : ByteArray) (w : World) (hs : s.size ≤ 9223372036854775807) (ht : TrimTabs w) :
    Calls Tryd.prog 31 #[.string s] w fun e w' => e = .returned (.string (trimB s)) ∧ Below w.heap.size w w' := by
  by_cases ha : asciiL s.data.toList = true
  · have hT : trimB s = ⟨(Lib.trimSpace s.data.toList).toArray⟩ := by simp [trimB, trimT, ha]
    rw [hT]
    refine (Tryd.strings_TrimSpace s w hs (fun j b hj => ?_) ht.1).mono fun e w' h => ⟨h.1, by rw [h.2]; exact bytes_below _ _ _⟩
    have := List.all_eq_true.1 ha b (List.mem_of_getElem? hj)
    simpa using this
  · have hT : trimB s = ⟨(Lib.trimSpaceD s.data.toList).toArray⟩ := by simp [trimB, trimT, ha]
    rw [hT]
    exact (Tryd.strings_TrimSpace_any s w hs ht.1 ht.2.1 ht.2.2)

/-- How a text is decoded: well or not, and to what. -/
def hexGood (s : ByteArray) : Bool := hxOk (Lib.Hx.decode (trimT s)).2
def hexGot (s : ByteArray) : List UInt8 := (Lib.Hx.decode (trimT s)).1

theorem decode_len : ∀ (l : List UInt8), (Lib.Hx.decode l).1.length ≤ l.length
  | [] => by rw [Lib.Hx.decode_nil]; simp
  | [c] => by rw [Lib.Hx.decode_one]; split <;> simp
  | p :: q :: t => by
    rw [Lib.Hx.decode_two]
    have := decode_len t
    split
    · simp
    split
    · simp
    simp only [List.length_cons]
    omega

theorem hexGot_len (s : ByteArray) : (hexGot s).length ≤ s.size := by
  have h1 := decode_len (trimT s)
  have h2 := trimB_size s
  have h3 : (trimB s).data.toList.length = (trimB s).size := by simp
  rw [trimB_list] at h3
  unfold hexGot
  omega

theorem newHex_any (a : Addr) (v u : Value) (b : Option Addr) (n c : Nat) (hv : v = .slice b n c) (b' : Option Addr) (n' c' : Nat) (hu : u = .slice b' n' c') (w : World) (hc : w.cell? a = some u) (hf : w.frozen? a = false) :
    Calls Tryd.prog 29 #[v, .pointer (some a)] w fun e w' => e = .returned (.pointer (some a)) ∧ w' = w.setCell a v := by
  subst hv; subst hu
  go_enter Tryd.func29, Tryd.ntmps29
  go_wp2
  go_ret
  exact ⟨rfl, rfl⟩

theorem zzHex_any (a : Addr) (b : Option Addr) (n c : Nat) (b' : Option Addr) (n' c' : Nat) (w : World) (hc : w.cell? a = some (.slice b' n' c')) (hf : w.frozen? a = false) :
    Calls Tryd.prog 20 #[.slice b n c, .pointer (some a)] w fun e w' => e = .returned (.pointer (some a)) ∧ w' = w.setCell a (.slice b n c) := by
  go_enter Tryd.func20, Tryd.ntmps20
  go_wp2_with (go_at_call 29; refine (newHex_any a _ _ b n c rfl b' n' c' rfl _ hc hf).mono ?_; rintro e w' ⟨rfl, rfl⟩)
  go_ret
  exact ⟨rfl, rfl⟩

theorem own_base {w : World} {base base' : Nat} {e : TypeId} {size : Nat} {v : Value} {n : Nat} {xs : List Value} (h : w.ownsRow base e size v n xs) (hb : base' ≤ base) : w.ownsRow base' e size v n xs := by
  refine ⟨h.1, ?_⟩
  rcases h.2 with hn | ⟨g, cap, cur, hv, hg, r⟩
  · exact .inl hn
  · exact .inr ⟨g, cap, cur, hv, Nat.le_trans hb hg, r⟩

/-- What Set of a value of bytes leaves. -/
def HexSet (s : ByteArray) (a : Addr) (w : World) (e : Ending) (w' : World) : Prop := ∃ E, e = .returned E ∧
  ((hexGood s = true ∧ E = .nilIface ∧ ∃ A c w1, Below w.heap.size w w1 ∧ w1.ownsRow w.heap.size 5 1 (.slice A (hexGot s).length c) (hexGot s).length (byteVals (hexGot s)) ∧ w' = w1.setCell a (.slice A (hexGot s).length c)) ∨
  (hexGood s = false ∧ (∃ t v, E = .iface t v) ∧ Below w.heap.size w w'))

set_option maxRecDepth 100000 in
set_option maxHeartbeats 800000 in
theorem setHex_any (a : Addr) (s : ByteArray) (b' : Option Addr) (n' c' : Nat) (w : World) (hc : w.cell? a = some (.slice b' n' c')) (hf : w.frozen? a = false) (hs : s.size ≤ 2147483647) (ht : TrimTabs w) (he : SureErr 1 w) :
    Calls Tryd.prog 21 #[.pointer (some a), .string s] w (HexSet s a w) := by
  have H1 := Lib.hid (trimSpace_walk s w (by omega) ht)
  have H2 := Lib.hid (show (trimB s).size ≤ 281474976710656 by have := trimB_size s; omega)
  have HE := Lib.hid he
  clear he ht
  cases hd : (Lib.Hx.decode (trimT s)).2 with
  | ok =>
    have HG : Hid (hexGood s = true) := by rw [Hid, hexGood, hd]; rfl
    have HD := Lib.hid hd
    clear hd
    go_enter Tryd.func21, Tryd.ntmps21
    go_wp2_with (go_at_call 31; refine H1.out.mono ?_; rintro e w1 ⟨rfl, hb1⟩)
    obtain ⟨te, pe, hev⟩ := HE.out.below hb1
    have h3 := Tryd.hex_DecodeString_owns (trimB s) w1 (.iface te pe) hev H2.out
    rw [trimB_list, HD.out] at h3
    refine h3.mono ?_
    clear h3 hev
    rintro e w2 ⟨v, rfl, hown, hb2⟩
    obtain ⟨A, c, rfl, _, _, _⟩ := own_slice hown
    have hb := below_step hb1 hb2
    have hc1 := cell_kept hb hc
    have hf1 := frozen_kept hb hc hf
    have HO := Lib.hid hown
    have HW := Lib.hid hb1.size
    simp only [Lib.Hx.errVal]
    go_wp2
    go_ret
    exact ⟨_, rfl, .inl ⟨HG.out, rfl, A, c, w2, hb, own_base HO.out HW.out, rfl⟩⟩
  | bad x =>
    have HG : Hid (hexGood s = false) := by rw [Hid, hexGood, hd]; rfl
    have HD := Lib.hid hd
    clear hd
    go_enter Tryd.func21, Tryd.ntmps21
    go_wp2_with (go_at_call 31; refine H1.out.mono ?_; rintro e w1 ⟨rfl, hb1⟩)
    obtain ⟨te, pe, hev⟩ := HE.out.below hb1
    have h3 := Tryd.hex_DecodeString_owns (trimB s) w1 (.iface te pe) hev H2.out
    rw [trimB_list, HD.out] at h3
    refine h3.mono ?_
    clear h3 hev
    rintro e w2 ⟨v, rfl, hown, hb2⟩
    have hb := below_step hb1 hb2
    simp only [Lib.Hx.errVal]
    go_wp2
    go_ret
    exact ⟨_, rfl, .inr ⟨HG.out, ⟨_, _, rfl⟩, hb⟩⟩
  | odd =>
    have HG : Hid (hexGood s = false) := by rw [Hid, hexGood, hd]; rfl
    have HD := Lib.hid hd
    clear hd
    go_enter Tryd.func21, Tryd.ntmps21
    go_wp2_with (go_at_call 31; refine H1.out.mono ?_; rintro e w1 ⟨rfl, hb1⟩)
    obtain ⟨te, pe, hev⟩ := HE.out.below hb1
    have h3 := Tryd.hex_DecodeString_owns (trimB s) w1 (.iface te pe) hev H2.out
    rw [trimB_list, HD.out] at h3
    refine h3.mono ?_
    clear h3 hev
    rintro e w2 ⟨v, rfl, hown, hb2⟩
    have hb := below_step hb1 hb2
    simp only [Lib.Hx.errVal]
    go_wp2
    go_ret
    exact ⟨_, rfl, .inr ⟨HG.out, ⟨_, _, rfl⟩, hb⟩⟩
end Go.Proofs.YtnlmmkmbgjgdbaaDoor.E
