/- The contract of spec.Truth (not all), over this seat's program. Written by gen_truth.py. -/
import Derived.Test.YtnlmmkmbgjgdbaaDoorKit
namespace Go.Proofs.YtnlmmkmbgjgdbaaDoor.E
open Go.RowKit
set_option linter.unusedVariables false
set_option linter.unusedSimpArgs false

def truthS (l : List UInt8) : Option Bool :=
  if l == [49] || l == [116] || l == [116, 114, 117, 101] || l == [84, 82, 85, 69] || l == [84, 114, 117, 101] then some true else if l == [48] || l == [102] || l == [102, 97, 108, 115, 101] || l == [70, 65, 76, 83, 69] || l == [70, 97, 108, 115, 101] then some false else none

theorem truth_0 (s : ByteArray) (w : World)  (h0 : (s.toList == [49]) = true) :
    Calls Tryd.prog 17 #[.string s, .bool false] w fun e w' => e = .returned (.tuple #[.bool true, .int .i64 1]) ∧ w = w' := by
  go_enter Tryd.func17, Tryd.ntmps17
  go_wp2
  go_ret2
  exact ⟨rfl, rfl⟩

theorem truth_1 (s : ByteArray) (w : World) (h0 : (s.toList == [49]) = false) (h1 : (s.toList == [116]) = true) :
    Calls Tryd.prog 17 #[.string s, .bool false] w fun e w' => e = .returned (.tuple #[.bool true, .int .i64 1]) ∧ w = w' := by
  go_enter Tryd.func17, Tryd.ntmps17
  go_wp2
  go_ret2
  exact ⟨rfl, rfl⟩

theorem truth_2 (s : ByteArray) (w : World) (h0 : (s.toList == [49]) = false) (h1 : (s.toList == [116]) = false) (h2 : (s.toList == [116, 114, 117, 101]) = true) :
    Calls Tryd.prog 17 #[.string s, .bool false] w fun e w' => e = .returned (.tuple #[.bool true, .int .i64 1]) ∧ w = w' := by
  go_enter Tryd.func17, Tryd.ntmps17
  go_wp2
  go_ret2
  exact ⟨rfl, rfl⟩

theorem truth_3 (s : ByteArray) (w : World) (h0 : (s.toList == [49]) = false) (h1 : (s.toList == [116]) = false) (h2 : (s.toList == [116, 114, 117, 101]) = false) (h3 : (s.toList == [84, 82, 85, 69]) = true) :
    Calls Tryd.prog 17 #[.string s, .bool false] w fun e w' => e = .returned (.tuple #[.bool true, .int .i64 1]) ∧ w = w' := by
  go_enter Tryd.func17, Tryd.ntmps17
  go_wp2
  go_ret2
  exact ⟨rfl, rfl⟩

theorem truth_4 (s : ByteArray) (w : World) (h0 : (s.toList == [49]) = false) (h1 : (s.toList == [116]) = false) (h2 : (s.toList == [116, 114, 117, 101]) = false) (h3 : (s.toList == [84, 82, 85, 69]) = false) (h4 : (s.toList == [84, 114, 117, 101]) = true) :
    Calls Tryd.prog 17 #[.string s, .bool false] w fun e w' => e = .returned (.tuple #[.bool true, .int .i64 1]) ∧ w = w' := by
  go_enter Tryd.func17, Tryd.ntmps17
  go_wp2
  go_ret2
  exact ⟨rfl, rfl⟩

theorem truth_5 (s : ByteArray) (w : World) (h0 : (s.toList == [49]) = false) (h1 : (s.toList == [116]) = false) (h2 : (s.toList == [116, 114, 117, 101]) = false) (h3 : (s.toList == [84, 82, 85, 69]) = false) (h4 : (s.toList == [84, 114, 117, 101]) = false) (h5 : (s.toList == [48]) = true) :
    Calls Tryd.prog 17 #[.string s, .bool false] w fun e w' => e = .returned (.tuple #[.bool false, .int .i64 1]) ∧ w = w' := by
  go_enter Tryd.func17, Tryd.ntmps17
  go_wp2
  go_ret2
  exact ⟨rfl, rfl⟩

theorem truth_6 (s : ByteArray) (w : World) (h0 : (s.toList == [49]) = false) (h1 : (s.toList == [116]) = false) (h2 : (s.toList == [116, 114, 117, 101]) = false) (h3 : (s.toList == [84, 82, 85, 69]) = false) (h4 : (s.toList == [84, 114, 117, 101]) = false) (h5 : (s.toList == [48]) = false) (h6 : (s.toList == [102]) = true) :
    Calls Tryd.prog 17 #[.string s, .bool false] w fun e w' => e = .returned (.tuple #[.bool false, .int .i64 1]) ∧ w = w' := by
  go_enter Tryd.func17, Tryd.ntmps17
  go_wp2
  go_ret2
  exact ⟨rfl, rfl⟩

theorem truth_7 (s : ByteArray) (w : World) (h0 : (s.toList == [49]) = false) (h1 : (s.toList == [116]) = false) (h2 : (s.toList == [116, 114, 117, 101]) = false) (h3 : (s.toList == [84, 82, 85, 69]) = false) (h4 : (s.toList == [84, 114, 117, 101]) = false) (h5 : (s.toList == [48]) = false) (h6 : (s.toList == [102]) = false) (h7 : (s.toList == [102, 97, 108, 115, 101]) = true) :
    Calls Tryd.prog 17 #[.string s, .bool false] w fun e w' => e = .returned (.tuple #[.bool false, .int .i64 1]) ∧ w = w' := by
  go_enter Tryd.func17, Tryd.ntmps17
  go_wp2
  go_ret2
  exact ⟨rfl, rfl⟩

theorem truth_8 (s : ByteArray) (w : World) (h0 : (s.toList == [49]) = false) (h1 : (s.toList == [116]) = false) (h2 : (s.toList == [116, 114, 117, 101]) = false) (h3 : (s.toList == [84, 82, 85, 69]) = false) (h4 : (s.toList == [84, 114, 117, 101]) = false) (h5 : (s.toList == [48]) = false) (h6 : (s.toList == [102]) = false) (h7 : (s.toList == [102, 97, 108, 115, 101]) = false) (h8 : (s.toList == [70, 65, 76, 83, 69]) = true) :
    Calls Tryd.prog 17 #[.string s, .bool false] w fun e w' => e = .returned (.tuple #[.bool false, .int .i64 1]) ∧ w = w' := by
  go_enter Tryd.func17, Tryd.ntmps17
  go_wp2
  go_ret2
  exact ⟨rfl, rfl⟩

theorem truth_9 (s : ByteArray) (w : World) (h0 : (s.toList == [49]) = false) (h1 : (s.toList == [116]) = false) (h2 : (s.toList == [116, 114, 117, 101]) = false) (h3 : (s.toList == [84, 82, 85, 69]) = false) (h4 : (s.toList == [84, 114, 117, 101]) = false) (h5 : (s.toList == [48]) = false) (h6 : (s.toList == [102]) = false) (h7 : (s.toList == [102, 97, 108, 115, 101]) = false) (h8 : (s.toList == [70, 65, 76, 83, 69]) = false) (h9 : (s.toList == [70, 97, 108, 115, 101]) = true) :
    Calls Tryd.prog 17 #[.string s, .bool false] w fun e w' => e = .returned (.tuple #[.bool false, .int .i64 1]) ∧ w = w' := by
  go_enter Tryd.func17, Tryd.ntmps17
  go_wp2
  go_ret2
  exact ⟨rfl, rfl⟩

theorem truth_10 (s : ByteArray) (w : World) (h0 : (s.toList == [49]) = false) (h1 : (s.toList == [116]) = false) (h2 : (s.toList == [116, 114, 117, 101]) = false) (h3 : (s.toList == [84, 82, 85, 69]) = false) (h4 : (s.toList == [84, 114, 117, 101]) = false) (h5 : (s.toList == [48]) = false) (h6 : (s.toList == [102]) = false) (h7 : (s.toList == [102, 97, 108, 115, 101]) = false) (h8 : (s.toList == [70, 65, 76, 83, 69]) = false) (h9 : (s.toList == [70, 97, 108, 115, 101]) = false) (h10 : (s.toList == [84]) = true) :
    Calls Tryd.prog 17 #[.string s, .bool false] w fun e w' => e = .returned (.tuple #[.bool false, .int .i64 0]) ∧ w = w' := by
  go_enter Tryd.func17, Tryd.ntmps17
  go_wp2
  go_ret2
  exact ⟨rfl, rfl⟩

theorem truth_11 (s : ByteArray) (w : World) (h0 : (s.toList == [49]) = false) (h1 : (s.toList == [116]) = false) (h2 : (s.toList == [116, 114, 117, 101]) = false) (h3 : (s.toList == [84, 82, 85, 69]) = false) (h4 : (s.toList == [84, 114, 117, 101]) = false) (h5 : (s.toList == [48]) = false) (h6 : (s.toList == [102]) = false) (h7 : (s.toList == [102, 97, 108, 115, 101]) = false) (h8 : (s.toList == [70, 65, 76, 83, 69]) = false) (h9 : (s.toList == [70, 97, 108, 115, 101]) = false) (h10 : (s.toList == [84]) = false) (h11 : (s.toList == [70]) = true) :
    Calls Tryd.prog 17 #[.string s, .bool false] w fun e w' => e = .returned (.tuple #[.bool false, .int .i64 0]) ∧ w = w' := by
  go_enter Tryd.func17, Tryd.ntmps17
  go_wp2
  go_ret2
  exact ⟨rfl, rfl⟩

theorem truth_none (s : ByteArray) (w : World) (h0 : (s.toList == [49]) = false) (h1 : (s.toList == [116]) = false) (h2 : (s.toList == [116, 114, 117, 101]) = false) (h3 : (s.toList == [84, 82, 85, 69]) = false) (h4 : (s.toList == [84, 114, 117, 101]) = false) (h5 : (s.toList == [48]) = false) (h6 : (s.toList == [102]) = false) (h7 : (s.toList == [102, 97, 108, 115, 101]) = false) (h8 : (s.toList == [70, 65, 76, 83, 69]) = false) (h9 : (s.toList == [70, 97, 108, 115, 101]) = false) (h10 : (s.toList == [84]) = false) (h11 : (s.toList == [70]) = false) :
    Calls Tryd.prog 17 #[.string s, .bool false] w fun e w' => e = .returned (.tuple #[.bool false, .int .i64 0]) ∧ w = w' := by
  go_enter Tryd.func17, Tryd.ntmps17
  go_wp2
  go_ret2
  exact ⟨rfl, rfl⟩

/-- What spec.Truth tells: the value and how it is meant. -/
def truthV (s : ByteArray) : Bool := (truthS s.toList).getD false
def truthN (s : ByteArray) : Int := if (truthS s.toList).isSome then 1 else 0

theorem truth_any (s : ByteArray) (w : World) :
    Calls Tryd.prog 17 #[.string s, .bool false] w fun e w' => e = .returned (.tuple #[.bool (truthV s), .int .i64 (truthN s)]) ∧ w = w' := by
  by_cases h0 : (s.toList == [49]) = true
  · have e : s.toList = [49] := by simpa using h0
    have ev : truthV s = true := by unfold truthV; rw [e]; rfl
    have en : truthN s = 1 := by unfold truthN; rw [e]; rfl
    rw [ev, en]; exact truth_0 s w  h0
  replace h0 : (s.toList == [49]) = false := by simpa using h0
  by_cases h1 : (s.toList == [116]) = true
  · have e : s.toList = [116] := by simpa using h1
    have ev : truthV s = true := by unfold truthV; rw [e]; rfl
    have en : truthN s = 1 := by unfold truthN; rw [e]; rfl
    rw [ev, en]; exact truth_1 s w h0 h1
  replace h1 : (s.toList == [116]) = false := by simpa using h1
  by_cases h2 : (s.toList == [116, 114, 117, 101]) = true
  · have e : s.toList = [116, 114, 117, 101] := by simpa using h2
    have ev : truthV s = true := by unfold truthV; rw [e]; rfl
    have en : truthN s = 1 := by unfold truthN; rw [e]; rfl
    rw [ev, en]; exact truth_2 s w h0 h1 h2
  replace h2 : (s.toList == [116, 114, 117, 101]) = false := by simpa using h2
  by_cases h3 : (s.toList == [84, 82, 85, 69]) = true
  · have e : s.toList = [84, 82, 85, 69] := by simpa using h3
    have ev : truthV s = true := by unfold truthV; rw [e]; rfl
    have en : truthN s = 1 := by unfold truthN; rw [e]; rfl
    rw [ev, en]; exact truth_3 s w h0 h1 h2 h3
  replace h3 : (s.toList == [84, 82, 85, 69]) = false := by simpa using h3
  by_cases h4 : (s.toList == [84, 114, 117, 101]) = true
  · have e : s.toList = [84, 114, 117, 101] := by simpa using h4
    have ev : truthV s = true := by unfold truthV; rw [e]; rfl
    have en : truthN s = 1 := by unfold truthN; rw [e]; rfl
    rw [ev, en]; exact truth_4 s w h0 h1 h2 h3 h4
  replace h4 : (s.toList == [84, 114, 117, 101]) = false := by simpa using h4
  by_cases h5 : (s.toList == [48]) = true
  · have e : s.toList = [48] := by simpa using h5
    have ev : truthV s = false := by unfold truthV; rw [e]; rfl
    have en : truthN s = 1 := by unfold truthN; rw [e]; rfl
    rw [ev, en]; exact truth_5 s w h0 h1 h2 h3 h4 h5
  replace h5 : (s.toList == [48]) = false := by simpa using h5
  by_cases h6 : (s.toList == [102]) = true
  · have e : s.toList = [102] := by simpa using h6
    have ev : truthV s = false := by unfold truthV; rw [e]; rfl
    have en : truthN s = 1 := by unfold truthN; rw [e]; rfl
    rw [ev, en]; exact truth_6 s w h0 h1 h2 h3 h4 h5 h6
  replace h6 : (s.toList == [102]) = false := by simpa using h6
  by_cases h7 : (s.toList == [102, 97, 108, 115, 101]) = true
  · have e : s.toList = [102, 97, 108, 115, 101] := by simpa using h7
    have ev : truthV s = false := by unfold truthV; rw [e]; rfl
    have en : truthN s = 1 := by unfold truthN; rw [e]; rfl
    rw [ev, en]; exact truth_7 s w h0 h1 h2 h3 h4 h5 h6 h7
  replace h7 : (s.toList == [102, 97, 108, 115, 101]) = false := by simpa using h7
  by_cases h8 : (s.toList == [70, 65, 76, 83, 69]) = true
  · have e : s.toList = [70, 65, 76, 83, 69] := by simpa using h8
    have ev : truthV s = false := by unfold truthV; rw [e]; rfl
    have en : truthN s = 1 := by unfold truthN; rw [e]; rfl
    rw [ev, en]; exact truth_8 s w h0 h1 h2 h3 h4 h5 h6 h7 h8
  replace h8 : (s.toList == [70, 65, 76, 83, 69]) = false := by simpa using h8
  by_cases h9 : (s.toList == [70, 97, 108, 115, 101]) = true
  · have e : s.toList = [70, 97, 108, 115, 101] := by simpa using h9
    have ev : truthV s = false := by unfold truthV; rw [e]; rfl
    have en : truthN s = 1 := by unfold truthN; rw [e]; rfl
    rw [ev, en]; exact truth_9 s w h0 h1 h2 h3 h4 h5 h6 h7 h8 h9
  replace h9 : (s.toList == [70, 97, 108, 115, 101]) = false := by simpa using h9
  by_cases h10 : (s.toList == [84]) = true
  · have e : s.toList = [84] := by simpa using h10
    have ev : truthV s = false := by unfold truthV; rw [e]; rfl
    have en : truthN s = 0 := by unfold truthN; rw [e]; rfl
    rw [ev, en]; exact truth_10 s w h0 h1 h2 h3 h4 h5 h6 h7 h8 h9 h10
  replace h10 : (s.toList == [84]) = false := by simpa using h10
  by_cases h11 : (s.toList == [70]) = true
  · have e : s.toList = [70] := by simpa using h11
    have ev : truthV s = false := by unfold truthV; rw [e]; rfl
    have en : truthN s = 0 := by unfold truthN; rw [e]; rfl
    rw [ev, en]; exact truth_11 s w h0 h1 h2 h3 h4 h5 h6 h7 h8 h9 h10 h11
  replace h11 : (s.toList == [70]) = false := by simpa using h11
  have e : truthS s.toList = none := by unfold truthS; simp only [h0, h1, h2, h3, h4, h5, h6, h7, h8, h9]; rfl
  have ev : truthV s = false := by unfold truthV; rw [e]; rfl
  have en : truthN s = 0 := by unfold truthN; rw [e]; rfl
  rw [ev, en]; exact truth_none s w h0 h1 h2 h3 h4 h5 h6 h7 h8 h9 h10 h11
end Go.Proofs.YtnlmmkmbgjgdbaaDoor.E
