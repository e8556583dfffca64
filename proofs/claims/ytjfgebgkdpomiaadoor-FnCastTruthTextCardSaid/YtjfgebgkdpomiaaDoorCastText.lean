/- What a text says of true and false; cast.ToBoolE of a string; the walk of laws.FnCastTruthText, over this seat's program. Written by gen_casttext.py. -/
import Derived.Test.YtjfgebgkdpomiaaDoorCastBool
import Derived.Test.YtjfgebgkdpomiaaDoorShelf
import Derived.Test.YtjfgebgkdpomiaaDoorLaid
namespace Go.Proofs.YtjfgebgkdpomiaaDoor.E
open Go.RowKit Go.Proofs
set_option linter.unusedVariables false
set_option linter.unusedSimpArgs false

def saysV (s : ByteArray) : Bool := (Lib.parseBool s.data.toList).getD false
def saysOk (s : ByteArray) : Bool := (Lib.parseBool s.data.toList).isSome

theorem says_0 (s : ByteArray) (w : World)  (h0 : (s.toList == [49]) = true) :
    Calls Tryd.prog 12 #[.string s] w fun e w' => e = .returned (.tuple #[.bool true, .bool true]) ∧ w = w' := by
  go_enter Tryd.func12, Tryd.ntmps12
  go_wp2
  go_ret2
  exact ⟨rfl, rfl⟩

theorem says_1 (s : ByteArray) (w : World) (h0 : (s.toList == [49]) = false) (h1 : (s.toList == [116]) = true) :
    Calls Tryd.prog 12 #[.string s] w fun e w' => e = .returned (.tuple #[.bool true, .bool true]) ∧ w = w' := by
  go_enter Tryd.func12, Tryd.ntmps12
  go_wp2
  go_ret2
  exact ⟨rfl, rfl⟩

theorem says_2 (s : ByteArray) (w : World) (h0 : (s.toList == [49]) = false) (h1 : (s.toList == [116]) = false) (h2 : (s.toList == [84]) = true) :
    Calls Tryd.prog 12 #[.string s] w fun e w' => e = .returned (.tuple #[.bool true, .bool true]) ∧ w = w' := by
  go_enter Tryd.func12, Tryd.ntmps12
  go_wp2
  go_ret2
  exact ⟨rfl, rfl⟩

theorem says_3 (s : ByteArray) (w : World) (h0 : (s.toList == [49]) = false) (h1 : (s.toList == [116]) = false) (h2 : (s.toList == [84]) = false) (h3 : (s.toList == [116, 114, 117, 101]) = true) :
    Calls Tryd.prog 12 #[.string s] w fun e w' => e = .returned (.tuple #[.bool true, .bool true]) ∧ w = w' := by
  go_enter Tryd.func12, Tryd.ntmps12
  go_wp2
  go_ret2
  exact ⟨rfl, rfl⟩

theorem says_4 (s : ByteArray) (w : World) (h0 : (s.toList == [49]) = false) (h1 : (s.toList == [116]) = false) (h2 : (s.toList == [84]) = false) (h3 : (s.toList == [116, 114, 117, 101]) = false) (h4 : (s.toList == [84, 82, 85, 69]) = true) :
    Calls Tryd.prog 12 #[.string s] w fun e w' => e = .returned (.tuple #[.bool true, .bool true]) ∧ w = w' := by
  go_enter Tryd.func12, Tryd.ntmps12
  go_wp2
  go_ret2
  exact ⟨rfl, rfl⟩

theorem says_5 (s : ByteArray) (w : World) (h0 : (s.toList == [49]) = false) (h1 : (s.toList == [116]) = false) (h2 : (s.toList == [84]) = false) (h3 : (s.toList == [116, 114, 117, 101]) = false) (h4 : (s.toList == [84, 82, 85, 69]) = false) (h5 : (s.toList == [84, 114, 117, 101]) = true) :
    Calls Tryd.prog 12 #[.string s] w fun e w' => e = .returned (.tuple #[.bool true, .bool true]) ∧ w = w' := by
  go_enter Tryd.func12, Tryd.ntmps12
  go_wp2
  go_ret2
  exact ⟨rfl, rfl⟩

theorem says_6 (s : ByteArray) (w : World) (h0 : (s.toList == [49]) = false) (h1 : (s.toList == [116]) = false) (h2 : (s.toList == [84]) = false) (h3 : (s.toList == [116, 114, 117, 101]) = false) (h4 : (s.toList == [84, 82, 85, 69]) = false) (h5 : (s.toList == [84, 114, 117, 101]) = false) (h6 : (s.toList == [48]) = true) :
    Calls Tryd.prog 12 #[.string s] w fun e w' => e = .returned (.tuple #[.bool false, .bool true]) ∧ w = w' := by
  go_enter Tryd.func12, Tryd.ntmps12
  go_wp2
  go_ret2
  exact ⟨rfl, rfl⟩

theorem says_7 (s : ByteArray) (w : World) (h0 : (s.toList == [49]) = false) (h1 : (s.toList == [116]) = false) (h2 : (s.toList == [84]) = false) (h3 : (s.toList == [116, 114, 117, 101]) = false) (h4 : (s.toList == [84, 82, 85, 69]) = false) (h5 : (s.toList == [84, 114, 117, 101]) = false) (h6 : (s.toList == [48]) = false) (h7 : (s.toList == [102]) = true) :
    Calls Tryd.prog 12 #[.string s] w fun e w' => e = .returned (.tuple #[.bool false, .bool true]) ∧ w = w' := by
  go_enter Tryd.func12, Tryd.ntmps12
  go_wp2
  go_ret2
  exact ⟨rfl, rfl⟩

theorem says_8 (s : ByteArray) (w : World) (h0 : (s.toList == [49]) = false) (h1 : (s.toList == [116]) = false) (h2 : (s.toList == [84]) = false) (h3 : (s.toList == [116, 114, 117, 101]) = false) (h4 : (s.toList == [84, 82, 85, 69]) = false) (h5 : (s.toList == [84, 114, 117, 101]) = false) (h6 : (s.toList == [48]) = false) (h7 : (s.toList == [102]) = false) (h8 : (s.toList == [70]) = true) :
    Calls Tryd.prog 12 #[.string s] w fun e w' => e = .returned (.tuple #[.bool false, .bool true]) ∧ w = w' := by
  go_enter Tryd.func12, Tryd.ntmps12
  go_wp2
  go_ret2
  exact ⟨rfl, rfl⟩

theorem says_9 (s : ByteArray) (w : World) (h0 : (s.toList == [49]) = false) (h1 : (s.toList == [116]) = false) (h2 : (s.toList == [84]) = false) (h3 : (s.toList == [116, 114, 117, 101]) = false) (h4 : (s.toList == [84, 82, 85, 69]) = false) (h5 : (s.toList == [84, 114, 117, 101]) = false) (h6 : (s.toList == [48]) = false) (h7 : (s.toList == [102]) = false) (h8 : (s.toList == [70]) = false) (h9 : (s.toList == [102, 97, 108, 115, 101]) = true) :
    Calls Tryd.prog 12 #[.string s] w fun e w' => e = .returned (.tuple #[.bool false, .bool true]) ∧ w = w' := by
  go_enter Tryd.func12, Tryd.ntmps12
  go_wp2
  go_ret2
  exact ⟨rfl, rfl⟩

theorem says_10 (s : ByteArray) (w : World) (h0 : (s.toList == [49]) = false) (h1 : (s.toList == [116]) = false) (h2 : (s.toList == [84]) = false) (h3 : (s.toList == [116, 114, 117, 101]) = false) (h4 : (s.toList == [84, 82, 85, 69]) = false) (h5 : (s.toList == [84, 114, 117, 101]) = false) (h6 : (s.toList == [48]) = false) (h7 : (s.toList == [102]) = false) (h8 : (s.toList == [70]) = false) (h9 : (s.toList == [102, 97, 108, 115, 101]) = false) (h10 : (s.toList == [70, 65, 76, 83, 69]) = true) :
    Calls Tryd.prog 12 #[.string s] w fun e w' => e = .returned (.tuple #[.bool false, .bool true]) ∧ w = w' := by
  go_enter Tryd.func12, Tryd.ntmps12
  go_wp2
  go_ret2
  exact ⟨rfl, rfl⟩

theorem says_11 (s : ByteArray) (w : World) (h0 : (s.toList == [49]) = false) (h1 : (s.toList == [116]) = false) (h2 : (s.toList == [84]) = false) (h3 : (s.toList == [116, 114, 117, 101]) = false) (h4 : (s.toList == [84, 82, 85, 69]) = false) (h5 : (s.toList == [84, 114, 117, 101]) = false) (h6 : (s.toList == [48]) = false) (h7 : (s.toList == [102]) = false) (h8 : (s.toList == [70]) = false) (h9 : (s.toList == [102, 97, 108, 115, 101]) = false) (h10 : (s.toList == [70, 65, 76, 83, 69]) = false) (h11 : (s.toList == [70, 97, 108, 115, 101]) = true) :
    Calls Tryd.prog 12 #[.string s] w fun e w' => e = .returned (.tuple #[.bool false, .bool true]) ∧ w = w' := by
  go_enter Tryd.func12, Tryd.ntmps12
  go_wp2
  go_ret2
  exact ⟨rfl, rfl⟩

theorem says_none (s : ByteArray) (w : World) (h0 : (s.toList == [49]) = false) (h1 : (s.toList == [116]) = false) (h2 : (s.toList == [84]) = false) (h3 : (s.toList == [116, 114, 117, 101]) = false) (h4 : (s.toList == [84, 82, 85, 69]) = false) (h5 : (s.toList == [84, 114, 117, 101]) = false) (h6 : (s.toList == [48]) = false) (h7 : (s.toList == [102]) = false) (h8 : (s.toList == [70]) = false) (h9 : (s.toList == [102, 97, 108, 115, 101]) = false) (h10 : (s.toList == [70, 65, 76, 83, 69]) = false) (h11 : (s.toList == [70, 97, 108, 115, 101]) = false) :
    Calls Tryd.prog 12 #[.string s] w fun e w' => e = .returned (.tuple #[.bool false, .bool false]) ∧ w = w' := by
  go_enter Tryd.func12, Tryd.ntmps12
  go_wp2
  go_ret2
  exact ⟨rfl, rfl⟩

theorem says_any (s : ByteArray) (w : World) :
    Calls Tryd.prog 12 #[.string s] w fun e w' => e = .returned (.tuple #[.bool (saysV s), .bool (saysOk s)]) ∧ w = w' := by
  have hd : s.toList = s.data.toList := ByteArray.toList_eq s
  unfold saysV saysOk
  rw [← hd, Lib.parseBool_bytes]
  by_cases h0 : (s.toList == [49]) = true
  · have e : s.toList = [49] := by simpa using h0
    rw [e]; exact says_0 s w  h0
  replace h0 : (s.toList == [49]) = false := by simpa using h0
  by_cases h1 : (s.toList == [116]) = true
  · have e : s.toList = [116] := by simpa using h1
    rw [e]; exact says_1 s w h0 h1
  replace h1 : (s.toList == [116]) = false := by simpa using h1
  by_cases h2 : (s.toList == [84]) = true
  · have e : s.toList = [84] := by simpa using h2
    rw [e]; exact says_2 s w h0 h1 h2
  replace h2 : (s.toList == [84]) = false := by simpa using h2
  by_cases h3 : (s.toList == [116, 114, 117, 101]) = true
  · have e : s.toList = [116, 114, 117, 101] := by simpa using h3
    rw [e]; exact says_3 s w h0 h1 h2 h3
  replace h3 : (s.toList == [116, 114, 117, 101]) = false := by simpa using h3
  by_cases h4 : (s.toList == [84, 82, 85, 69]) = true
  · have e : s.toList = [84, 82, 85, 69] := by simpa using h4
    rw [e]; exact says_4 s w h0 h1 h2 h3 h4
  replace h4 : (s.toList == [84, 82, 85, 69]) = false := by simpa using h4
  by_cases h5 : (s.toList == [84, 114, 117, 101]) = true
  · have e : s.toList = [84, 114, 117, 101] := by simpa using h5
    rw [e]; exact says_5 s w h0 h1 h2 h3 h4 h5
  replace h5 : (s.toList == [84, 114, 117, 101]) = false := by simpa using h5
  by_cases h6 : (s.toList == [48]) = true
  · have e : s.toList = [48] := by simpa using h6
    rw [e]; exact says_6 s w h0 h1 h2 h3 h4 h5 h6
  replace h6 : (s.toList == [48]) = false := by simpa using h6
  by_cases h7 : (s.toList == [102]) = true
  · have e : s.toList = [102] := by simpa using h7
    rw [e]; exact says_7 s w h0 h1 h2 h3 h4 h5 h6 h7
  replace h7 : (s.toList == [102]) = false := by simpa using h7
  by_cases h8 : (s.toList == [70]) = true
  · have e : s.toList = [70] := by simpa using h8
    rw [e]; exact says_8 s w h0 h1 h2 h3 h4 h5 h6 h7 h8
  replace h8 : (s.toList == [70]) = false := by simpa using h8
  by_cases h9 : (s.toList == [102, 97, 108, 115, 101]) = true
  · have e : s.toList = [102, 97, 108, 115, 101] := by simpa using h9
    rw [e]; exact says_9 s w h0 h1 h2 h3 h4 h5 h6 h7 h8 h9
  replace h9 : (s.toList == [102, 97, 108, 115, 101]) = false := by simpa using h9
  by_cases h10 : (s.toList == [70, 65, 76, 83, 69]) = true
  · have e : s.toList = [70, 65, 76, 83, 69] := by simpa using h10
    rw [e]; exact says_10 s w h0 h1 h2 h3 h4 h5 h6 h7 h8 h9 h10
  replace h10 : (s.toList == [70, 65, 76, 83, 69]) = false := by simpa using h10
  by_cases h11 : (s.toList == [70, 97, 108, 115, 101]) = true
  · have e : s.toList = [70, 97, 108, 115, 101] := by simpa using h11
    rw [e]; exact says_11 s w h0 h1 h2 h3 h4 h5 h6 h7 h8 h9 h10 h11
  replace h11 : (s.toList == [70, 97, 108, 115, 101]) = false := by simpa using h11
  simp only [h0, h1, h2, h3, h4, h5, h6, h7, h8, h9, h10, h11]
  exact says_none s w h0 h1 h2 h3 h4 h5 h6 h7 h8 h9 h10 h11

theorem toBoolE_string (s : ByteArray) (hs : s.size ≤ 281474976710656) (w : World) (he : ErrCell 0 w) :
    Calls Tryd.prog 35 #[.iface 9 (.string s)] w fun e w' => ∃ E, e = .returned (.tuple #[.bool (saysV s), E]) ∧ ((saysOk s = true ∧ E = .nilIface) ∨ (saysOk s = false ∧ ∃ t v, E = .iface t v)) ∧ Below w.heap.size w w' := by
  have hi := indirect_any 9 (.string s) (by decide) (by decide)
  have n_bool := Tryd.no_bool 9 (by decide) (.string s)
  have n_int := Tryd.no_int 9 (by decide) (.string s)
  have n_int8 := Tryd.no_int8 9 (by decide) (.string s)
  have n_int16 := Tryd.no_int16 9 (by decide) (.string s)
  have n_int32 := Tryd.no_int32 9 (by decide) (.string s)
  have n_int64 := Tryd.no_int64 9 (by decide) (.string s)
  have n_uint := Tryd.no_uint 9 (by decide) (.string s)
  have n_uint8 := Tryd.no_uint8 9 (by decide) (.string s)
  have n_uint16 := Tryd.no_uint16 9 (by decide) (.string s)
  have n_uint32 := Tryd.no_uint32 9 (by decide) (.string s)
  have n_uint64 := Tryd.no_uint64 9 (by decide) (.string s)
  have n_float32 := Tryd.no_float32 9 (by decide) (.string s)
  have n_float64 := Tryd.no_float64 9 (by decide) (.string s)
  have n_timeDuration := Tryd.no_timeDuration 9 (by decide) (.string s)
  have y := Tryd.is_string (.string s)
  cases hp : Lib.parseBool s.data.toList with
  | some b =>
    have HB : Hid (saysOk s = true) := by simp [Hid, saysOk, hp]
    have HG : Hid (saysV s = b) := by simp [Hid, saysV, hp]
    go_enter Tryd.func35, Tryd.ntmps35
    go_wp2_with (first
      | (go_at_call 77; refine (hi _).mono ?_; rintro e w' ⟨rfl, rfl⟩)
      | (go_at_call 78; refine (Tryd.strconv_ParseBool s b hp _).mono ?_; rintro e w' ⟨rfl, rfl⟩))
    go_ret2
    exact ⟨_, by rw [HG.out]; rfl, .inl ⟨HB.out, rfl⟩, Below.refl _ _⟩
  | none =>
    have HB : Hid (saysOk s = false) := by simp [Hid, saysOk, hp]
    have HG : Hid (saysV s = false) := by simp [Hid, saysV, hp]
    obtain ⟨ev, hev, hev2⟩ := he
    have H := Lib.hid (Tryd.strconv_ParseBool_err s hs hp ev w hev hev2)
    clear hp hev hev2
    go_enter Tryd.func35, Tryd.ntmps35
    go_wp2_with (first
      | (go_at_call 77; refine (hi _).mono ?_; rintro e w' ⟨rfl, rfl⟩)
      | (go_at_call 78; refine (H.out).mono ?_; rintro e w1 ⟨N, rfl, _, _, hb⟩))
    go_ret2
    exact ⟨_, by rw [HG.out]; rfl, .inr ⟨HB.out, _, _, rfl⟩, hb⟩

theorem toBool_string (s : ByteArray) (hs : s.size ≤ 281474976710656) (w : World) (he : ErrCell 0 w) :
    Calls Tryd.prog 11 #[anyOf 14 0 0 0 s] w fun e w' => e = .returned (.tuple #[.bool (saysV s), .bool (saysOk s)]) ∧ Below w.heap.size w w' := by
  have h1 := Lib.hid (fun W => value_string 0 0 0 s W (by omega) (by omega))
  have h2 := Lib.hid (toBoolE_string s hs)
  unfold anyOf at h1
  unfold anyOf
  go_enter Tryd.func11, Tryd.ntmps11
  go_wp2_with (first
    | (go_at_call 36; refine (h1.out _).mono ?_; rintro e w1 ⟨rfl, hb⟩)
    | (go_at_call 35; refine (h2.out _ (he.below (((Below.refl _ _).alloc (Nat.le_refl _) _).trans (hb.mono (by simp))))).mono ?_; rintro e w2 ⟨E, rfl, hE, hb2⟩))
  rcases hE with ⟨hB, rfl⟩ | ⟨hB, te, ve, rfl⟩
  all_goals
    have HB := Lib.hid hB
    clear hB
    go_wp2
    go_quiet (fail)
    go_wp2
    go_ret2
    exact ⟨by rw [HB.out]; rfl, bdrew (below_step (((Below.refl _ _).alloc (Nat.le_refl _) _).trans (hb.mono (by simp))) hb2) _⟩

set_option maxRecDepth 100000 in
theorem castText_any (s : ByteArray) (w : World) :
    Calls Tryd.prog 10 #[.string s] w fun e w' => ∃ t, e = .returned (anyOf 14 0 0 0 t) ∧ t.size ≤ 400 ∧ Below w.heap.size w w' := by
  unfold anyOf
  have hst := fun (a : Addr) (m : Mode) (f : Nat) (W : World) => run_store Tryd.prog W a (.float .f64 f) m rfl
  go_enter Tryd.func10, Tryd.ntmps10
  go_wp2
  refine bodyPost_ret (results_cell_row rfl _ _ _ _ _ _ _ rfl (heap_alloc_new w _) Tryd.underlying27 rfl (by kernel_rfl)) rfl ?_
  exact ⟨_, rfl, by simp; omega, (Below.refl _ _).alloc (Nat.le_refl _) _⟩

set_option maxRecDepth 100000 in
theorem fnCastTruthText_any (s : ByteArray) (w : World) (he : ErrCell 0 w) :
    Calls Tryd.prog 3 #[.string s] w fun e w' => e = .returned (.bool true) ∧ Below w.heap.size w w' := by
  have H1 := Lib.hid (fun W => castText_any s W)
  have hst := fun (a : Addr) (m : Mode) (f : Nat) (W : World) => run_store Tryd.prog W a (.float .f64 f) m rfl
  have H2 := Lib.hid (fun (t : ByteArray) (h : t.size ≤ 400) W ht => toBool_string t (by omega) W ht)
  unfold anyOf at H1 H2
  by_cases hl : 2147483647 < s.size
  · have hl2 : decide ((2147483647 : Int) < s.size) = true := by simp; omega
    go_enter Tryd.func3, Tryd.ntmps3
    go_wp2
    go_ret
    exact ⟨rfl, Below.refl _ _⟩
  · have hl2 : decide ((2147483647 : Int) < s.size) = false := by simp; omega
    go_enter Tryd.func3, Tryd.ntmps3
    go_wp2_with (first
      | (go_at_call 10; refine (H1.out _).mono ?_; rintro e w1 ⟨t, rfl, ht, hb1⟩; have HT := Lib.hid ht; clear ht)
      | (go_at_call 11; refine (H2.out t HT.out _ (he.below (hb1.alloc hb1.size _))).mono ?_; rintro e w2 ⟨rfl, hb2⟩; have hbl := block_kept (heap_alloc_new w1 _) hb2; have hc4 : w2.cell? ⟨w1.heap.size, 4, none⟩ = some (.string t) := by simp [World.cell?, hbl])
      | (go_at_call 12; refine (says_any t _).mono ?_; rintro e w3 ⟨rfl, rfl⟩))
    go_ret
    exact ⟨rfl, below_step (hb1.alloc hb1.size _) hb2⟩
end Go.Proofs.YtjfgebgkdpomiaaDoor.E
