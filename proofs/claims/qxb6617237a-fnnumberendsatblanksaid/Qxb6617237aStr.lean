/-
  SEAT b6617237a: THE TEXT THAT IS CUT OUT AND FOLLOWED BY A BLANK. No Go in sight.
-/
import Derived.Test.Qxb6617237aNumDef
namespace Go.Proofs.Qxb6617237a
set_option linter.unusedVariables false

theorem pk_data (s : ByteArray) (i : Nat) : pk s i = ((s.data[i]?.map (fun c => (c.toNat : Int))).getD 0) := by
  unfold pk
  by_cases h : i < s.size
  · rw [dif_pos h]
    have h' : i < s.data.size := h
    rw [Array.getElem?_eq_getElem h']
    rfl
  · rw [dif_neg h]
    have h' : ¬ i < s.data.size := h
    rw [Array.getElem?_eq_none (by omega)]
    rfl

theorem blank_data (s t : ByteArray) (en : Nat) : (s.extract 0 en ++ ⟨#[32]⟩ ++ t).data = s.data.extract 0 en ++ #[32] ++ t.data := by simp

theorem blank_size (s t : ByteArray) (en : Nat) (h : en ≤ s.size) : (s.extract 0 en ++ ⟨#[32]⟩ ++ t).size = en + 1 + t.size := by
  have h' : en ≤ s.data.size := h
  show (s.extract 0 en ++ ⟨#[32]⟩ ++ t).data.size = _
  rw [blank_data]
  simp
  exact Nat.min_eq_left h

theorem blank_before (s t : ByteArray) (en : Nat) (h : en ≤ s.size) (i : Nat) (hi : i < en) : pk (s.extract 0 en ++ ⟨#[32]⟩ ++ t) i = pk s i := by
  have h' : en ≤ s.data.size := h
  rw [pk_data, pk_data, blank_data, Array.append_assoc, Array.getElem?_append_left (by simp; omega)]
  congr 2
  rw [Array.getElem?_extract_of_lt (by omega), Array.getElem?_eq_getElem (show i < s.data.size by omega)]
  simp

theorem blank_at (s t : ByteArray) (en : Nat) (h : en ≤ s.size) : pk (s.extract 0 en ++ ⟨#[32]⟩ ++ t) en = 32 := by
  have h' : en ≤ s.data.size := h
  rw [pk_data, blank_data, Array.append_assoc, Array.getElem?_append_right (by simp; omega)]
  have e : en - (s.data.extract 0 en).size = 0 := by simp; omega
  rw [e]
  rw [Array.getElem?_append_left (by simp)]
  rfl

/-- The text cut out, a blank, a tail: behind a name. -/
def blk (s t : ByteArray) (en : Nat) : ByteArray := s.extract 0 en ++ ⟨#[32]⟩ ++ t
theorem blk_size (s t : ByteArray) (en : Nat) (h : en ≤ s.size) : (blk s t en).size = en + 1 + t.size := blank_size s t en h
theorem blk_before (s t : ByteArray) (en : Nat) (h : en ≤ s.size) (i : Nat) (hi : i < en) : pk (blk s t en) i = pk s i := blank_before s t en h i hi
theorem blk_at (s t : ByteArray) (en : Nat) (h : en ≤ s.size) : pk (blk s t en) en = 32 := blank_at s t en h
end Go.Proofs.Qxb6617237a
