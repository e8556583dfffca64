/- The walk of laws.FnCastBytes, over this seat's program. Written by gen_castbytes.py. -/
import Derived.Test.YtcelhnnnaakkeaaDoorCastK
import Derived.Test.YtcelhnnnaakkeaaDoorQuoteL
import Derived.Lib.BufferRead
import Derived.Lib.SlBytesRow
namespace Go.Proofs.YtcelhnnnaakkeaaDoor.E
open Go.RowKit Go.Proofs
set_option linter.unusedVariables false
set_option linter.unusedSimpArgs false

/-- A list of bytes as a text. -/
theorem conv_bytes {w : World} {A : Option Addr} {n c : Nat} {L : List UInt8} (hr : RowAt w A (byteVals L)) (hn : n = L.length) :
    (convert 77 9 (.slice A n c)).run Tryd.prog w = .ok (.string ⟨L.toArray⟩) w := by
  subst hn
  cases L with
  | nil =>
    cases A with
    | none => exact Lib.run_convert_nil_bytes w 77 9 5 c Tryd.underlying77 Tryd.underlying5 Tryd.underlying9
    | some a => simp only [List.length_nil]; rw [run_convert_bytes_string w 77 9 5 (some a) 0 c Tryd.underlying77 Tryd.underlying5 Tryd.underlying9]; simp [Conv.bytesToString]; rfl
  | cons x r =>
    obtain ⟨g, rfl, _⟩ := hr 0 (.int .u8 (x.toNat : Int)) rfl
    have hb : Lib.Bytes w g 0 ⟨(x :: r).toArray⟩ := by
      intro i hi
      have h1 : (byteVals (x :: r))[i]? = some (.int .u8 (((⟨(x :: r).toArray⟩ : ByteArray)[i]).toNat : Int)) := by
        rw [bget hi]
        have h2 : i < (x :: r).length := hi
        unfold byteVals
        rw [List.getElem?_map, List.getElem?_eq_getElem h2]
        rfl
      obtain ⟨g', e, hc⟩ := hr _ _ h1
      simp only [Option.some.injEq, Addr.mk.injEq] at e
      obtain ⟨rfl, _, _⟩ := e
      rw [Nat.zero_add]
      exact hc
    exact Lib.run_convert_whole w 77 5 9 Tryd.underlying77 Tryd.underlying5 Tryd.underlying9 g 0 ⟨(x :: r).toArray⟩ hb c

set_option maxRecDepth 100000 in
theorem castText_any (s : ByteArray) (w : World) :
    Calls Tryd.prog 7 #[.string s] w fun e w' => ∃ t, e = .returned (anyOf 14 0 0 0 t) ∧ t.size ≤ 400 ∧ Below w.heap.size w w' := by
  unfold anyOf
  have hst := fun (a : Addr) (m : Mode) (f : Nat) (W : World) => run_store Tryd.prog W a (.float .f64 f) m rfl
  go_enter Tryd.func7, Tryd.ntmps7
  go_wp2
  all_goals
    refine bodyPost_ret (results_cell_row rfl _ _ _ _ _ _ _ rfl (heap_alloc_new w _) Tryd.underlying27 rfl (by kernel_rfl)) rfl ?_
    exact ⟨_, rfl, by first | omega | (simp; omega) | simp, (Below.refl _ _).alloc (Nat.le_refl _) _⟩


theorem no_bytes_of {A : TypeId} (h : A ≠ 77) (v : Value) (w : World) {d : TypeDesc} {z : Value} (hu : Tryd.prog.underlying A = some d) (hd : ∀ m, d ≠ .interface m) (hz : (Tryd.prog.info? A).map (·.zero) = some (some z)) : (Instr.typeAssert (.iface 77 v) 20 A true).run Tryd.prog w = .ok (.tuple #[z, .bool false]) w := assert_no hu hd hz h.symm w
theorem is_bytes (v : Value) (w : World) : (Instr.typeAssert (.iface 77 v) 20 77 true).run Tryd.prog w = .ok (.tuple #[v, .bool true]) w := assert_yes Tryd.underlying77 (by intro m h; cases h) w

/-- Bytes that are those of a text. -/
def BytesOf (s : ByteArray) (w : World) (e : Ending) (w' : World) : Prop := ∃ A n c, e = .returned (.iface 77 (.slice A n c)) ∧ n = s.data.toList.length ∧ RowAt w' A (byteVals s.data.toList) ∧ Below w.heap.size w w'

theorem bytes_row (w : World) (s : ByteArray) (b : Nat) (hb : w.heap.size = b) : RowAt (Lib.bytesWorld w 5 s) (some ⟨b, 0, none⟩) (byteVals s.data.toList) := by
  subst hb
  intro i u hu
  have hi : i < s.size := by have := (List.getElem?_eq_some_iff.1 hu).1; simpa [byteVals] using this
  refine ⟨w.heap.size, rfl, ?_⟩
  rw [bytes_cell w 5 s i hi]
  simp only [byteVals, List.getElem?_map, List.getElem?_eq_getElem (show i < s.data.toList.length by simpa using hi), Option.map_some, Option.some.injEq] at hu
  rw [← hu, bget hi]

set_option maxRecDepth 100000 in
theorem value_bytes (s : ByteArray) (w : World) (hs : s.size ≤ 400) :
    Calls Tryd.prog 23 #[anyOf 15 0 0 0 s] w (BytesOf s w) := by
  unfold anyOf
  have kc := fun W => Lib.run_convert_string_bytes (P := Tryd.prog) W 9 77 5 s Tryd.underlying9 Tryd.underlying77 Tryd.underlying5
  go_enter Tryd.func23, Tryd.ntmps23
  go_wp2
  go_ret
  exact ⟨_, _, _, rfl, by simp, bytes_row _ s _ (by simp), ((Below.refl _ _).alloc (Nat.le_refl _) _).trans ((bytes_below _ _ _).mono (by simp))⟩

set_option maxRecDepth 100000 in
theorem toStringE_bytes (A : Option Addr) (n c : Nat) (s : ByteArray) (w : World) (hn : n = s.data.toList.length) (hr : RowAt w A (byteVals s.data.toList)) :
    Calls Tryd.prog 22 #[.iface 77 (.slice A n c)] w fun e w' => e = .returned (.tuple #[.string s, .nilIface]) ∧ w = w' := by
  have z0 := Tryd.no_string 77 (by decide) (.slice A n c)
  have z1 := Tryd.no_bool 77 (by decide) (.slice A n c)
  have z2 := Tryd.no_float64 77 (by decide) (.slice A n c)
  have z3 := Tryd.no_float32 77 (by decide) (.slice A n c)
  have z4 := Tryd.no_int 77 (by decide) (.slice A n c)
  have z5 := Tryd.no_int8 77 (by decide) (.slice A n c)
  have z6 := Tryd.no_int16 77 (by decide) (.slice A n c)
  have z7 := Tryd.no_int32 77 (by decide) (.slice A n c)
  have z8 := Tryd.no_int64 77 (by decide) (.slice A n c)
  have z9 := Tryd.no_uint 77 (by decide) (.slice A n c)
  have z10 := Tryd.no_uint8 77 (by decide) (.slice A n c)
  have z11 := Tryd.no_uint16 77 (by decide) (.slice A n c)
  have z12 := Tryd.no_uint32 77 (by decide) (.slice A n c)
  have z13 := Tryd.no_uint64 77 (by decide) (.slice A n c)
  have zz := is_bytes (.slice A n c)
  have hcv := conv_bytes (c := c) hr hn
  have hs : (⟨s.data.toList.toArray⟩ : ByteArray) = s := by cases s; simp
  rw [hs] at hcv
  clear hs hn hr
  go_enter Tryd.func22, Tryd.ntmps22
  go_wp2
  go_ret2
  exact ⟨rfl, rfl⟩

theorem toString_bytes (s : ByteArray) (w : World) (hs : s.size ≤ 400) :
    Calls Tryd.prog 8 #[anyOf 15 0 0 0 s] w fun e w' => e = .returned (.tuple #[.string s, .bool true]) ∧ Below w.heap.size w w' := by
  have HV := fun w => Lib.hid (value_bytes s w hs)
  have HE := fun A n c w hn hr => Lib.hid (toStringE_bytes A n c s w hn hr)
  have hs' : (s.size : Int) ≤ 400 := by omega
  unfold anyOf at HV ⊢
  clear hs
  go_enter Tryd.func8, Tryd.ntmps8
  go_wp2_with (first
    | (go_at_call 23; refine ((HV _).out).mono ?_; rintro e w1 ⟨A, n, c, rfl, hn, hr, hb0⟩; have hb1 : Below w.heap.size w w1 := below_new hb0; have HE1 := Lib.hid (HE A n c w1 hn hr); clear HE hn hr hb0)
    | (go_at_call 22; refine (HE1.out.out).mono ?_; rintro e w2 ⟨rfl, rfl⟩))
  go_quiet (fail)
  go_wp2
  go_ret2
  exact ⟨rfl, bdrew hb1 _⟩

theorem field_S (t : ByteArray) (W : World) : (Instr.field 27 (.agg #[.int .i64 14, .int .i64 0, .int .u64 0, .float .f64 0, .string t, .slice none 0 0, .slice none 0 0]) 4).run Tryd.prog W = .ok (.string t) W := by
  kernel_rfl

set_option maxRecDepth 100000 in
theorem fnCastBytes_any (s : ByteArray) (w : World) :
    Calls Tryd.prog 3 #[.string s] w fun e w' => e = .returned (.bool true) ∧ Below w.heap.size w w' := by
  by_cases hbig : 2147483647 < s.size
  · have hb' : 2147483647 < (s.size : Int) := by omega
    go_enter Tryd.func3, Tryd.ntmps3
    go_wp2
    go_ret
    exact ⟨rfl, Below.refl _ _⟩
  · have hb' : ¬ 2147483647 < (s.size : Int) := by omega
    have HT := Lib.hid (castText_any s w)
    have HS := fun t w h => Lib.hid (toString_bytes t w h)
    have hfd := fun (t : ByteArray) (W : World) => field_S t W
    have hst := fun (a : Addr) (m : Mode) (f : Nat) (W : World) => run_store Tryd.prog W a (.float .f64 f) m rfl
    unfold anyOf at HT HS
    clear hbig
    go_enter Tryd.func3, Tryd.ntmps3
    go_wp2_with (first
      | (go_at_call 7; refine (HT.out).mono ?_; rintro e w1 ⟨t, rfl, ht, hb1⟩; have HS1 := fun w => HS t w ht; have ht' : (t.size : Int) ≤ 400 := (by omega); clear HS ht)
      | (go_at_call 8; refine ((HS1 _).out).mono ?_; rintro e w2 ⟨rfl, hb2⟩))
    go_ret
    exact ⟨rfl, by first | exact below_step hb1 hb2 | exact below_step hb1 (below_new hb2)⟩
end Go.Proofs.YtcelhnnnaakkeaaDoor.E
