/- The walk of laws.FnCastIntSame, over this seat's program. -/
import Derived.Test.YtbdheiepiolfhaaDoorCastSame
namespace Go.Proofs.YtbdheiepiolfhaaDoor.E
open Go.RowKit
set_option linter.unusedVariables false
set_option linter.unusedSimpArgs false

def cutW (a n : Int) : Int := if a = 3 then IntKind.i8.wrap n else if a = 4 then IntKind.i16.wrap n else if a = 5 then wrap32 n else n
theorem cutW_eq (a n : Int) : cutW a n = cutI a n := rfl

theorem castInt_same (k n u : Int) (f : Nat) (s : ByteArray) (w : World) (hk : 2 ≤ k ∧ k ≤ 6) (hn : -9223372036854775808 ≤ n ∧ n ≤ 9223372036854775807) (hu : 0 ≤ u ∧ u ≤ 18446744073709551615) :
    Calls Tryd.prog 15 #[.int .i64 k, anyOf k n u f s] w fun e w' => e = .returned (.tuple #[.int .i64 (cutI k n), .bool true]) ∧ Below w.heap.size w w' := by
  have h : k = 2 ∨ k = 3 ∨ k = 4 ∨ k = 5 ∨ k = 6 := by omega
  clear hk
  rcases h with rfl | rfl | rfl | rfl | rfl
  · have H := fun w => Lib.hid (impl_int_int n u f s w hn hu)
    clear hn hu
    unfold anyOf at H ⊢
    go_enter Tryd.func15, Tryd.ntmps15
    go_wp2_with (go_at_call 35; refine ((H _).out).mono ?_; rintro e w1 ⟨rfl, hb⟩)
    go_ret2
    exact ⟨rfl, by first | exact hb | exact below_new hb⟩
  · have H := fun w => Lib.hid (impl_int8_int8 n u f s w hn hu)
    clear hn hu
    unfold anyOf at H ⊢
    go_enter Tryd.func15, Tryd.ntmps15
    go_wp2_with (go_at_call 32; refine ((H _).out).mono ?_; rintro e w1 ⟨rfl, hb⟩)
    go_ret2
    exact ⟨rfl, by first | exact hb | exact below_new hb⟩
  · have H := fun w => Lib.hid (impl_int16_int16 n u f s w hn hu)
    clear hn hu
    unfold anyOf at H ⊢
    go_enter Tryd.func15, Tryd.ntmps15
    go_wp2_with (go_at_call 33; refine ((H _).out).mono ?_; rintro e w1 ⟨rfl, hb⟩)
    go_ret2
    exact ⟨rfl, by first | exact hb | exact below_new hb⟩
  · have H := fun w => Lib.hid (impl_int32_int32 n u f s w hn hu)
    clear hn hu
    unfold anyOf at H ⊢
    go_enter Tryd.func15, Tryd.ntmps15
    go_wp2_with (go_at_call 34; refine ((H _).out).mono ?_; rintro e w1 ⟨rfl, hb⟩)
    go_ret2
    exact ⟨rfl, by first | exact hb | exact below_new hb⟩
  · have H := fun w => Lib.hid (impl_int64_int64 n u f s w hn hu)
    clear hn hu
    unfold anyOf at H ⊢
    go_enter Tryd.func15, Tryd.ntmps15
    go_wp2_with (go_at_call 19; refine ((H _).out).mono ?_; rintro e w1 ⟨rfl, hb⟩)
    go_ret2
    exact ⟨rfl, by first | exact hb | exact below_new hb⟩

theorem fnCastIntSame_any (k n : Int) (w : World) (hn : -9223372036854775808 ≤ n ∧ n ≤ 9223372036854775807) :
    Calls Tryd.prog 5 #[.int .i64 k, .int .i64 n] w fun e w' => e = .returned (.bool true) ∧ Below w.heap.size w w' := by
  have HK := fun w => Lib.hid (castKindInt_any k w)
  obtain ⟨r0, r1⟩ := kindI_range k
  generalize kindI k = a at HK r0 r1
  have HC := fun w => Lib.hid (castInt_same a n 0 0 ⟨#[]⟩ w ⟨r0, r1⟩ hn (by omega))
  have HS := fun w => Lib.hid (castCutInt_any a n w ⟨r0, r1⟩ hn)
  clear hn
  unfold anyOf at HC
  generalize cutI a n = c at HC HS
  go_enter Tryd.func5, Tryd.ntmps5
  go_wp2_with (first
    | (go_at_call 14; refine ((HK _).out).mono ?_; rintro e w1 ⟨rfl, rfl⟩)
    | (go_at_call 15; refine ((HC _).out).mono ?_; rintro e w1 ⟨rfl, hb⟩)
    | (go_at_call 16; refine ((HS _).out).mono ?_; rintro e w2 ⟨rfl, rfl⟩))
  go_ret
  exact ⟨rfl, by first | exact hb | exact below_new hb⟩
end Go.Proofs.YtbdheiepiolfhaaDoor.E
