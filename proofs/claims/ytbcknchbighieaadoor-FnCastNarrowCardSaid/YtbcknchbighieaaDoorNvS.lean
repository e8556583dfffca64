/- cast's cutting of a text ahead of ParseInt: it ends, whatever the text is. Written by gen_nars.py. -/
import Derived.Test.YtbcknchbighieaaDoorNvK
import Derived.Deep.DeepCutAuto
import Derived.Deep.CutBlock
namespace Go.Proofs.YtbcknchbighieaaDoor.E
open Go.RowKit Go.Proofs
set_option linter.unusedVariables false
set_option linter.unusedSimpArgs false

set_option maxRecDepth 100000 in
theorem zzIndex_any (s : ByteArray) (hs : s.size ≤ 400) (w : World) :
    Calls Tryd.prog 67 #[.string s, .string ⟨#[46]⟩] w fun e w' => (∃ r : Int, e = .returned (.int .i64 r)) ∧ w = w' := by
  go_enter Tryd.func67, Tryd.ntmps67
  go_wp2
  go_loopw [5] (fun i wr => ∃ k : Nat, k ≤ s.size ∧ i = .int .i64 k ∧ w = wr) (fun i _ => s.size - (intOf i).toNat)
  case atStart => exact ⟨0, Nat.zero_le _, rfl, by first | rfl | trivial⟩
  case round =>
    obtain ⟨k, hk, rfl, rfl⟩ := hrel
    have i0 : (0 : Int) ≤ (k : Int) := Int.natCast_nonneg _
    by_cases hlt : k < s.size
    · have i1 : (k : Int) + 1 ≤ (s.size : Int) := by omega
      have hsl : ∀ W, (Instr.slice 9 (.string s) (some (.int .i64 (k : Int))) (some (.int .i64 ((k : Int) + 1))) none).run Tryd.prog W = .ok (.string (s.extract k (k + 1))) W := fun W => by
        rw [run_slice_string (P := Tryd.prog) W 9 s .i64 .i64 (k : Int) ((k : Int) + 1) Tryd.underlying9 (by omega) (by omega) (by omega)]; rfl
      generalize s.extract k (k + 1) = x at hsl
      cases hx : (x.toList == [46])
      · go_wp2
        go_roundw
        case rel => exact ⟨k + 1, by omega, by go_num, by first | rfl | trivial⟩
        case measure => simp [intOf]; omega
      · go_wp2
        go_ret
        exact ⟨⟨_, rfl⟩, rfl⟩
    · have i1 : ¬ (k : Int) + 1 ≤ (s.size : Int) := by omega
      go_wp2
      go_ret
      exact ⟨⟨_, rfl⟩, rfl⟩
theorem zzContains_any (s : ByteArray) (hs : s.size ≤ 400) (w : World) :
    Calls Tryd.prog 56 #[.string s, .string ⟨#[46]⟩] w fun e w' => (∃ b : Bool, e = .returned (.bool b)) ∧ w = w' := by
  have H := fun W => Lib.hid (zzIndex_any s hs W)
  go_enter Tryd.func56, Tryd.ntmps56
  go_wp2_with (go_at_call 67; refine (H _).out.mono ?_; rintro e w1 ⟨⟨r, rfl⟩, rfl⟩)
  go_ret
  exact ⟨⟨_, rfl⟩, rfl⟩

def NumR (s : ByteArray) (w : World) (e : Ending) (w' : World) : Prop := (∃ (t : ByteArray) (b : Bool), t.size ≤ s.size ∧ e = .returned (.tuple #[.string t, .bool b])) ∧ w = w'
theorem numR {s t : ByteArray} {b : Bool} {w w' : World} {e : Ending} (h : t.size ≤ s.size) (he : e = .returned (.tuple #[.string t, .bool b])) (hw : w = w') : NumR s w e w' := ⟨⟨t, b, h, he⟩, hw⟩
set_option maxRecDepth 100000 in
set_option maxHeartbeats 1600000 in
theorem zzNumber_any (s : ByteArray) (hs : s.size ≤ 400) (w : World) :
    Calls Tryd.prog 57 #[.string s] w (NumR s w) := by
  go_enter Tryd.func57, Tryd.ntmps57
  go_upto_region 2 with fail
  have hfirst : ∀ b : Bool, b = true ∨ b = false := by decide
  go_cut [21] (fun c wx => ∃ b : Bool, c = .bool b ∧ (b = true → 0 < s.size) ∧ w = wx)
  case first =>
    by_cases h0 : 0 < s.size
    · have i1 : (0 : Int) < (s.size : Int) := by omega
      cases c1 : ((s[0].toNat : Int) == 45)
      · cases c2 : ((s[0].toNat : Int) == 43)
        · go_wp2
          go_meet
          exact ⟨false, rfl, fun h => (by cases h), by first | rfl | trivial⟩
        · go_wp2
          go_meet
          exact ⟨true, rfl, fun _ => h0, by first | rfl | trivial⟩
      · go_wp2
        go_meet
        exact ⟨true, rfl, fun _ => h0, by first | rfl | trivial⟩
    · have i1 : ¬ (0 : Int) < (s.size : Int) := by omega
      go_wp2
      go_meet
      exact ⟨false, rfl, fun h => (by cases h), by first | rfl | trivial⟩
  case rest =>
    obtain ⟨b, rfl, hb, hw⟩ := hcut
    subst hw
    clear hfirst
    go_upto_if 21 with fail
    go_cut [4] (fun i wx => ∃ k : Nat, k ≤ s.size ∧ i = .int .i64 k ∧ w = wx)
    case first =>
      cases b
      · go_wp2
        go_meet
        exact ⟨0, Nat.zero_le _, rfl, by first | rfl | trivial⟩
      · have := hb rfl
        go_wp2
        go_meet
        exact ⟨1, this, rfl, by first | rfl | trivial⟩
    case rest =>
      clear hb
      obtain ⟨k, hk, rfl, hw⟩ := hcut
      subst hw
      go_upto_block 0 with fail
      go_cut [4] (fun i wx => ∃ k : Nat, k ≤ s.size ∧ i = .int .i64 k ∧ w = wx)
      case first =>
        go_wp2_with fail
        go_loopw [4] (fun i wr => ∃ k : Nat, k ≤ s.size ∧ i = .int .i64 k ∧ w = wr) (fun i _ => s.size - (intOf i).toNat)
        case atStart => exact ⟨k, hk, rfl, by first | rfl | trivial⟩
        case round =>
          clear hk k
          obtain ⟨k, hk, rfl, hw⟩ := hrel
          subst hw
          have i0 : (0 : Int) ≤ (k : Int) := Int.natCast_nonneg _
          by_cases hlt : k < s.size
          · have i1 : (k : Int) < (s.size : Int) := by omega
            by_cases c1 : (48 : Int) ≤ (s[k].toNat : Int)
            · by_cases c2 : (s[k].toNat : Int) ≤ 57
              · go_wp2
                go_roundw
                case rel => exact ⟨k + 1, by omega, by go_num, by first | rfl | trivial⟩
                case measure => simp [intOf]; omega
              · go_wp2
                go_meet
                exact ⟨k, hk, rfl, by first | rfl | trivial⟩
            · go_wp2
              go_meet
              exact ⟨k, hk, rfl, by first | rfl | trivial⟩
          · have i1 : ¬ (k : Int) < (s.size : Int) := by omega
            go_wp2
            go_meet
            exact ⟨k, hk, rfl, by first | rfl | trivial⟩
      case rest =>
        clear hk k
        obtain ⟨k, hk, rfl, hw⟩ := hcut
        subst hw
        have i0 : (0 : Int) ≤ (k : Int) := Int.natCast_nonneg _
        have i1 : (k : Int) ≤ (s.size : Int) := by omega
        have hsl : ∀ W, (Instr.slice 9 (.string s) none (some (.int .i64 (k : Int))) none).run Tryd.prog W = .ok (.string (s.extract 0 k)) W := fun W => by
          rw [run_slice_string_h (P := Tryd.prog) W 9 s Tryd.underlying9 .i64 (k : Int) (by omega) (by omega)]; rfl
        have hx : (s.extract 0 k).size ≤ s.size := by simp only [ByteArray.size_extract]; omega
        generalize s.extract 0 k = x at hsl hx
        go_upto_region 7 with fail
        go_cut [54] (fun c wx => ∃ b : Bool, c = .bool b ∧ (b = true → k < s.size) ∧ w = wx)
        case first =>
          by_cases hlt : k < s.size
          · have i2 : (k : Int) < (s.size : Int) := by omega
            cases c1 : ((s[k].toNat : Int) == 46)
            · go_wp2
              go_meet
              exact ⟨false, rfl, fun h => (by cases h), by first | rfl | trivial⟩
            · go_wp2
              go_meet
              exact ⟨true, rfl, fun _ => hlt, by first | rfl | trivial⟩
          · have i2 : ¬ (k : Int) < (s.size : Int) := by omega
            go_wp2
            go_meet
            exact ⟨false, rfl, fun h => (by cases h), by first | rfl | trivial⟩
        case rest =>
          obtain ⟨b, rfl, hb, hw⟩ := hcut
          subst hw
          clear hsl
          cases b with
          | false =>
            go_wp2
            go_ret2
            exact numR hx rfl rfl
          | true =>
            replace hk : k < s.size := hb rfl
            clear hb
            go_wp2
            obtain ⟨k2, hk2⟩ : ∃ k2, k2 = k + 1 := ⟨_, rfl⟩
            go_loopw [4] (fun i wr => ∃ k : Nat, k ≤ s.size ∧ i = .int .i64 k ∧ w = wr) (fun i _ => s.size - (intOf i).toNat)
            case atStart => exact ⟨k + 1, hk, by go_num, by first | rfl | trivial⟩
            case round =>
              clear hk2 k2 hk i1 i0
              obtain ⟨k, hk, rfl, hw⟩ := hrel
              subst hw
              have i0 : (0 : Int) ≤ (k : Int) := Int.natCast_nonneg _
              by_cases hlt : k < s.size
              · have i1 : (k : Int) < (s.size : Int) := by omega
                by_cases c1 : (48 : Int) ≤ (s[k].toNat : Int)
                · by_cases c2 : (s[k].toNat : Int) ≤ 57
                  · go_wp2
                    go_roundw
                    case rel => exact ⟨k + 1, by omega, by go_num, by first | rfl | trivial⟩
                    case measure => simp [intOf]; omega
                  · go_wp2
                    go_ret2
                    exact numR hx rfl rfl
                · go_wp2
                  go_ret2
                  exact numR hx rfl rfl
              · have i1 : ¬ (k : Int) < (s.size : Int) := by omega
                go_wp2
                go_ret2
                exact numR hx rfl rfl
end Go.Proofs.YtbcknchbighieaaDoor.E
