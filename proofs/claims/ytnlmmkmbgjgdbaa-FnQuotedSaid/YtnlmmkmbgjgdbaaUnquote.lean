/- The contract of UnquoteUsage where the usage has two back quotes, over this seat's program. -/
import Derived.Test.YtnlmmkmbgjgdbaaTexts
import Derived.Test.YtnlmmkmbgjgdbaaQuoteL
import Derived.Lib.ConvBytes
import Derived.Deep.LoopGhost
namespace Go.Proofs.Ytnlmmkmbgjgdbaa
open Go.RowKit
set_option linter.unusedVariables false
set_option linter.unusedSimpArgs false

theorem byte_is {c : UInt8} {k : Nat} (hk : k < 256) (h : c = UInt8.ofNat k) : ((c.toNat : Int) == (k : Int)) = true := by
  subst h
  rw [UInt8.toNat_ofNat_of_lt' (by simpa [UInt8.size] using hk)]
  simp

set_option maxHeartbeats 1600000 in
theorem unquote_two (B p q : Nat) (u : ByteArray) (w : World) (hc : w.cell? ⟨B, 2, none⟩ = some (.string u)) (hs : u.size ≤ 9223372036854775807) (hpq : p < q) (hq : q < u.size)
    (h1 : ∀ j, (h : j < u.size) → j < p → ¬ u[j] = 96) (h2 : u[p] = 96) (h3 : ∀ j, (h : j < u.size) → p < j → j < q → ¬ u[j] = 96) (h4 : u[q] = 96) :
    Calls Try.prog 21 #[.pointer (some ⟨B, 0, none⟩)] w fun e w' => e = .returned (.tuple #[.string (u.extract (p + 1) q), .string (u.extract 0 p ++ u.extract (p + 1) q ++ u.extract (q + 1) u.size)]) ∧ Drawn w w' := by
  have H1 := Lib.hid h1
  have H2 := Lib.hid h2
  have H3 := Lib.hid h3
  have H4 := Lib.hid h4
  clear h1 h2 h3 h4
  go_enter Try.func21, Try.ntmps21
  go_wp2
  go_loop [3, 4] (fun s i => s = .string u ∧ ∃ k : Nat, k ≤ p ∧ i = .int .i64 k) (fun _ i => u.size - (intOf i).toNat)
  case atStart => exact ⟨rfl, 0, Nat.zero_le _, rfl⟩
  case round =>
    obtain ⟨rfl, k, hk, rfl⟩ := hrel
    have hlt : k < u.size := by omega
    by_cases hkp : k = p
    · have e1 : ((u[p].toNat : Int) == 96) = true := byte_is (k := 96) (by omega) H2.out
      subst hkp
      go_wp2
      go_loop [3, 5] (fun s i => s = .string u ∧ ∃ m : Nat, k + 1 ≤ m ∧ m ≤ q ∧ i = .int .i64 m) (fun _ i => u.size - (intOf i).toNat)
      case atStart => exact ⟨rfl, k + 1, by omega, by omega, by go_num⟩
      case round =>
        obtain ⟨rfl, m, hm1, hm2, rfl⟩ := hrel
        have hlm : m < u.size := by omega
        by_cases hmq : m = q
        · subst hmq
          have e2 : ((u[m].toNat : Int) == 96) = true := byte_is (k := 96) (by omega) H4.out
          have i0 : (0 : Int) ≤ (k : Int) + 1 := by omega
          have i1 : (k : Int) + 1 ≤ (m : Int) := by omega
          have i2 : (m : Int) ≤ (u.size : Int) := by omega
          have i3 : (m : Int) + 1 ≤ (u.size : Int) := by omega
          go_wp2
          go_quiet (fail)
          go_wp2
          go_ret2
          exact ⟨rfl, Drawn.to _ _⟩
        · have e2 : ((u[m].toNat : Int) == 96) = false := byte_beq (k := 96) (by omega) (H3.out m hlm (by omega) (by omega))
          go_wp2
          go_round
          case rel => exact ⟨rfl, m + 1, by omega, by omega, by go_num⟩
          case measure => simp [intOf]; omega
    · have e1 : ((u[k].toNat : Int) == 96) = false := byte_beq (k := 96) (by omega) (H1.out k hlt (by omega))
      go_wp2
      go_round
      case rel => exact ⟨rfl, k + 1, by omega, by go_num⟩
      case measure => simp [intOf]; omega
set_option maxHeartbeats 1600000 in
theorem unq_two (p q : Nat) (t u : ByteArray) (w : World) (hs : u.size ≤ 9223372036854775807) (hpq : p < q) (hq : q < u.size)
    (h1 : ∀ j, (h : j < u.size) → j < p → ¬ u[j] = 96) (h2 : u[p] = 96) (h3 : ∀ j, (h : j < u.size) → p < j → j < q → ¬ u[j] = 96) (h4 : u[q] = 96) :
    Calls Try.prog 13 #[.string t, .string u] w fun e w' => e = .returned (.tuple #[.string (u.extract (p + 1) q), .string (u.extract 0 p ++ u.extract (p + 1) q ++ u.extract (q + 1) u.size)]) ∧ Below w.heap.size w w' := by
  have H := Lib.hid (fun B W hc => unquote_two B p q u W hc hs hpq hq h1 h2 h3 h4)
  clear h1 h2 h3 h4
  go_enter Try.func13, Try.ntmps13
  go_wp2_with (go_at_call 21; refine (H.out _ _ ?hc).mono ?_; rotate_left 1; rintro e w' ⟨rfl, hd⟩)
  case hc => simp
  go_ret2
  exact ⟨rfl, ((Below.refl _ _).alloc (Nat.le_refl _) _).trans hd.below⟩

theorem bytes_below (w : World) (e : TypeId) (s : ByteArray) : Below w.heap.size w (Lib.bytesWorld w e s) :=
  ⟨by unfold Lib.bytesWorld World.freeze; split <;> rfl, by unfold Lib.bytesWorld World.freeze; split <;> rfl, by unfold Lib.bytesWorld World.freeze; split <;> rfl, by rw [Lib.bytesWorld_size]; omega, fun k hk => Lib.bytesWorld_at_old w e s k hk⟩

theorem bytes_cell (w : World) (e : TypeId) (s : ByteArray) (j : Nat) (h : j < s.size) : (Lib.bytesWorld w e s).cell? ⟨w.heap.size, j, none⟩ = some (.int .u8 (s[j]).toNat) := by
  rw [Lib.bytesWorld_cell w e s j h, bget h]
  simp only [List.getD_eq_getElem?_getD]
  rw [List.getElem?_eq_getElem (by simpa using h)]
  rfl

/-- The world in which the four texts are asked for their size. -/
def qw (t a n b : ByteArray) (w : World) : World := (w.alloc (.cells #[.string t, .string a, .string n, .string b] 9)).alloc (.cells #[.slice (some ⟨w.heap.size, 0, none⟩) 4 4] 22)

theorem fits_four (t a n b : ByteArray) (w : World) (h1 : t.size ≤ 2147483647) (h2 : a.size ≤ 2147483647) (h3 : n.size ≤ 2147483647) (h4 : b.size ≤ 2147483647) :
    Calls Try.prog 9 #[.slice (some ⟨w.heap.size + 1, 0, none⟩) 1 1] (qw t a n b w) fun e w' => e = .returned (.bool (fits14 [[t, a, n, b]])) ∧ qw t a n b w = w' := by
  have hb : (qw t a n b w).heap[w.heap.size]? = some (.cells ([t, a, n, b].map Value.string).toArray 9 (0, 0)) := by
    show ((w.heap.push _).push _)[w.heap.size]? = _
    simp [Array.getElem?_push]
  have hb2 : (qw t a n b w).heap[w.heap.size + 1]? = some (.cells #[.slice (some ⟨w.heap.size, 0, none⟩) 4 4] 22 (0, 0)) := by
    have := heap_alloc_new (w.alloc (.cells #[.string t, .string a, .string n, .string b] 9)) (.cells #[.slice (some ⟨w.heap.size, 0, none⟩) 4 4] 22)
    simpa [qw] using this
  refine fits14_one hb2 (texts_block (xs := [t, a, n, b]) hb (by simp)) (by simp) ?_
  intro j hj
  match j, hj with
  | 0, _ => exact h1
  | 1, _ => exact h2
  | 2, _ => exact h3
  | 3, _ => exact h4

theorem qw_below (t a n b : ByteArray) (w : World) : Below w.heap.size w (qw t a n b w) := ((Below.refl _ _).alloc (Nat.le_refl _) _).alloc (by simp) _

set_option maxHeartbeats 1600000 in
theorem fnQuoted_fit (t a n b : ByteArray) (w : World) (h1 : t.size ≤ 2147483647) (h2 : a.size ≤ 2147483647) (h3 : n.size ≤ 2147483647) (h4 : b.size ≤ 2147483647) :
    Calls Try.prog 5 #[.string t, .string a, .string n, .string b] w fun e w' => e = .returned (.bool true) ∧ Below w.heap.size w w' := by
  have c1 : decide ((2147483647 : Int) < (t.size : Int)) = false := by simp; omega
  have c2 : decide ((2147483647 : Int) < (a.size : Int)) = false := by simp; omega
  have c3 : decide ((2147483647 : Int) < (n.size : Int)) = false := by simp; omega
  have c4 : decide ((2147483647 : Int) < (b.size : Int)) = false := by simp; omega
  have h14 := fits_four t a n b w h1 h2 h3 h4
  cases hr : fits14 [[t, a, n, b]] with
  | false =>
    rw [hr] at h14
    go_enter Try.func5, Try.ntmps5
    go_wp2_with (go_at_call 9; refine h14.mono ?_; rintro e w' ⟨rfl, rfl⟩)
    go_ret
    exact ⟨rfl, qw_below _ _ _ _ _⟩
  | true =>
    rw [hr] at h14
    have kc := fun W => Lib.run_convert_string_bytes (P := Try.prog) W 9 32 5 (a ++ n) Try.underlying9 Try.underlying32 Try.underlying5
    have hsz : (a ++ n).size ≤ 4294967294 := by rw [ByteArray.size_append]; omega
    have hsz2 : (quoted a n b).size ≤ 9223372036854775807 := by rw [quoted_size]; omega
    have HS := Lib.hid (quoted_size a n b)
    go_enter Try.func5, Try.ntmps5
    go_wp2_with (go_at_call 9; refine h14.mono ?_; rintro e w1 ⟨rfl, hw1⟩; have HB : Below w.heap.size w w1 := hw1 ▸ qw_below t a n b w; clear hw1)
    have hbw : Below w1.heap.size w1 (Lib.bytesWorld w1 5 (a ++ n)) := bytes_below _ _ _
    have hcell : ∀ j, (h : j < (a ++ n).size) → (Lib.bytesWorld w1 5 (a ++ n)).cell? ⟨w1.heap.size, j, none⟩ = some (.int .u8 ((a ++ n)[j]).toNat) := fun j h => bytes_cell _ _ _ j h
    generalize hW : Lib.bytesWorld w1 5 (a ++ n) = W at hbw hcell ⊢
    clear hW kc
    go_loop [44] (fun i => ∃ k : Nat, k ≤ (a ++ n).size ∧ i = .int .i64 k ∧ Hid (∀ j, (h : j < (a ++ n).size) → j < k → ¬ (a ++ n)[j] = 96)) (fun i => (a ++ n).size - (intOf i).toNat)
    case atStart => exact ⟨0, Nat.zero_le _, rfl, fun j h hj => by omega⟩
    case round =>
      obtain ⟨k, hk, rfl, HP⟩ := hrel
      by_cases hlt : k < (a ++ n).size
      · have hc := hcell k hlt
        have i1 : (k : Int) < (a.size : Int) + (n.size : Int) := by rw [ByteArray.size_append] at hlt; omega
        clear hcell
        by_cases hb : (a ++ n)[k] = 96
        · have e1 : (((a ++ n)[k].toNat : Int) == 96) = true := byte_is (k := 96) (by omega) hb
          go_wp2
          go_ret
          exact ⟨rfl, below_step HB hbw⟩
        · have e1 : (((a ++ n)[k].toNat : Int) == 96) = false := byte_beq (k := 96) (by omega) hb
          go_wp2
          go_round
          case rel => exact ⟨k + 1, by omega, by go_num, fun j h hj => by by_cases e : j = k; (subst e; exact hb); exact HP j h (by omega)⟩
          case measure => simp [intOf]; omega
      · have hall := quoted_facts a n b (fun j h => HP j h (by omega))
        obtain ⟨f1, f2, f3, f4, f5, f6, f7⟩ := hall
        have hu := unq_two a.size (a.size + 1 + n.size) t (quoted a n b) W hsz2 (by omega) (by rw [quoted_size]; omega) f1 f3 f2 f4
        rw [f5, f6, f7] at hu
        have i1 : ¬ (k : Int) < (a.size : Int) + (n.size : Int) := by rw [ByteArray.size_append] at hlt; omega
        clear hcell f1 f2 f3 f4 f5 f6 f7
        go_wp2_with (go_at_call 13; refine hu.mono ?_; rintro e w3 ⟨rfl, hb3⟩)
        go_ret
        exact ⟨rfl, below_step (below_step HB hbw) hb3⟩
end Go.Proofs.Ytnlmmkmbgjgdbaa
