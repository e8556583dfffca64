/- Plain law: a text of three parts with a back quote ahead of and behind the second. No program. -/
import Derived.Test.YtdmpeecocfoocaaDoorKit
import Derived.Lib.SmallJoins
import Derived.Lib.ConvBytes
namespace Go.Proofs.YtdmpeecocfoocaaDoor.E
set_option linter.unusedVariables false
set_option linter.unusedSimpArgs false

theorem bget {u : ByteArray} {j : Nat} (h : j < u.size) : u[j] = u.data.toList[j]'(by simpa using h) := by simp [ByteArray.getElem_eq_getElem_data]

theorem ba_ext {a b : ByteArray} (h : a.data.toList = b.data.toList) : a = b := by
  cases a; cases b; simpa using h

open Go.RowKit

theorem bytes_below (w : World) (e : TypeId) (s : ByteArray) : Below w.heap.size w (Lib.bytesWorld w e s) :=
  ⟨by unfold Lib.bytesWorld World.freeze; split <;> rfl, by unfold Lib.bytesWorld World.freeze; split <;> rfl, by unfold Lib.bytesWorld World.freeze; split <;> rfl, by rw [Lib.bytesWorld_size]; omega, fun k hk => Lib.bytesWorld_at_old w e s k hk⟩

theorem bytes_cell (w : World) (e : TypeId) (s : ByteArray) (j : Nat) (h : j < s.size) : (Lib.bytesWorld w e s).cell? ⟨w.heap.size, j, none⟩ = some (.int .u8 (s[j]).toNat) := by
  rw [Lib.bytesWorld_cell w e s j h, bget h]
  simp only [List.getD_eq_getElem?_getD]
  rw [List.getElem?_eq_getElem (by simpa using h)]
  rfl

def tick : ByteArray := ⟨#[96]⟩

def quoted (a n b : ByteArray) : ByteArray := a ++ tick ++ n ++ tick ++ b

theorem quoted_list (a n b : ByteArray) : (quoted a n b).data.toList = a.data.toList ++ 96 :: (n.data.toList ++ 96 :: b.data.toList) := by
  simp [quoted, tick, ByteArray.data_append]

theorem quoted_size (a n b : ByteArray) : (quoted a n b).size = a.size + 1 + n.size + 1 + b.size := by
  simp [quoted, tick, ByteArray.size_append]
  rfl

theorem extract_list (u : ByteArray) (i j : Nat) : (u.extract i j).data.toList = (u.data.toList.take j).drop i := by
  simp [ByteArray.data_extract, List.drop_take]

theorem quoted_facts (a n b : ByteArray) (hq : ∀ j, (h : j < (a ++ n).size) → ¬ (a ++ n)[j] = 96) :
    (∀ j, (h : j < (quoted a n b).size) → j < a.size → ¬ (quoted a n b)[j] = 96) ∧
    (∀ j, (h : j < (quoted a n b).size) → a.size < j → j < a.size + 1 + n.size → ¬ (quoted a n b)[j] = 96) ∧
    (quoted a n b)[a.size]'(by rw [quoted_size]; omega) = 96 ∧ (quoted a n b)[a.size + 1 + n.size]'(by rw [quoted_size]; omega) = 96 ∧
    (quoted a n b).extract (a.size + 1) (a.size + 1 + n.size) = n ∧ (quoted a n b).extract 0 a.size = a ∧ (quoted a n b).extract (a.size + 1 + n.size + 1) (quoted a n b).size = b := by
  have la : a.data.toList.length = a.size := by simp
  have ln : n.data.toList.length = n.size := by simp
  have lb : b.data.toList.length = b.size := by simp
  have hs := quoted_size a n b
  have hl := quoted_list a n b
  have hqa : ∀ j, (h : j < a.size) → ¬ a[j] = 96 := by
    intro j h
    have := hq j (by rw [ByteArray.size_append]; omega)
    rwa [ByteArray.getElem_append_left h] at this
  have hqn : ∀ j, (h : j < n.size) → ¬ n[j] = 96 := by
    intro j h
    have := hq (a.size + j) (by rw [ByteArray.size_append]; omega)
    rw [ByteArray.getElem_append_right (by omega)] at this
    simpa using this
  refine ⟨?_, ?_, ?_, ?_, ?_, ?_, ?_⟩
  · intro j h hj
    rw [bget h]
    simp only [hl]
    rw [List.getElem_append_left (by simpa using hj)]
    have := hqa j hj
    rwa [bget hj] at this
  · intro j h h1 h2
    rw [bget h]
    simp only [hl]
    rw [List.getElem_append_right (by simpa using (by omega : a.size ≤ j))]
    obtain ⟨k, rfl⟩ : ∃ k, j = a.size + 1 + k := ⟨j - (a.size + 1), by omega⟩
    have e : a.size + 1 + k - a.data.toList.length = k + 1 := by rw [la]; omega
    simp only [e, List.getElem_cons_succ]
    rw [List.getElem_append_left (by rw [ln]; omega)]
    have := hqn k (by omega)
    rwa [bget (by omega)] at this
  · rw [bget (by rw [hs]; omega)]
    simp only [hl]
    rw [List.getElem_append_right (by simp)]
    simp
  · rw [bget (by rw [hs]; omega)]
    simp only [hl]
    rw [List.getElem_append_right (by rw [la]; omega)]
    have e : a.size + 1 + n.size - a.data.toList.length = n.size + 1 := by rw [la]; omega
    simp only [e, List.getElem_cons_succ]
    rw [List.getElem_append_right (by rw [ln]; omega)]
    simp
  · apply ba_ext
    rw [extract_list, hl, show a.size + 1 + n.size = a.data.toList.length + (n.data.toList.length + 1) by rw [la, ln]; omega, List.take_length_add_append, show a.size + 1 = a.data.toList.length + 1 by rw [la], List.drop_length_add_append]
    simp [List.take_append]
  · apply ba_ext
    rw [extract_list, hl, ← la]
    simp
  · apply ba_ext
    rw [extract_list, List.take_of_length_le (by simp), hl, show a.size + 1 + n.size + 1 = a.data.toList.length + (n.data.toList.length + 1 + 1) by rw [la, ln]; omega, List.drop_length_add_append]
    simp [List.drop_append]
end Go.Proofs.YtdmpeecocfoocaaDoor.E
