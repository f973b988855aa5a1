/- What cutSign computes, plainly. -/
import Derived.Laws.Strings
namespace Go.Proofs.Qxb6625998a

def lA : List UInt8 → List UInt8
  | [] => []
  | c :: _ => if c.toNat = 43 ∨ c.toNat = 45 then [c] else []
def lB : List UInt8 → List UInt8
  | [] => []
  | c :: r => if c.toNat = 43 ∨ c.toNat = 45 then r else c :: r
def cutA (s : ByteArray) : ByteArray := ⟨(lA s.data.toList).toArray⟩
def cutB (s : ByteArray) : ByteArray := ⟨(lB s.data.toList).toArray⟩

theorem lAB (l : List UInt8) : lA l ++ lB l = l := by
  cases l with
  | nil => rfl
  | cons c r => rw [lA, lB]; split <;> simp
theorem cutAB (s : ByteArray) : cutA s ++ cutB s = s := by
  apply ByteArray.ext
  apply Array.toList_inj.1
  simp [cutA, cutB, lAB]
theorem cutA_size (s : ByteArray) : (cutA s).size ≤ 1 := by
  show (lA s.data.toList).length ≤ 1
  cases s.data.toList with
  | nil => simp [lA]
  | cons c r => rw [lA]; split <;> simp
theorem cutB_size (s : ByteArray) : (cutB s).size ≤ s.size := by
  have : (lB s.data.toList).length ≤ s.data.toList.length := by
    cases s.data.toList with
    | nil => simp [lB]
    | cons c r => rw [lB]; split <;> simp
  exact this
theorem byte_eq {c : UInt8} {n : Nat} (h : c.toNat = n) (hn : n < 256) : c = UInt8.ofNat n := by
  apply UInt8.toNat_inj.1; rw [h, UInt8.toNat_ofNat']; omega
theorem cutA_three (s : ByteArray) : cutA s = ByteArray.empty ∨ cutA s = ⟨#[43]⟩ ∨ cutA s = ⟨#[45]⟩ := by
  unfold cutA
  cases s.data.toList with
  | nil => exact Or.inl rfl
  | cons c r =>
    rw [lA]
    split
    · rename_i h
      rcases h with h | h
      · exact Or.inr (Or.inl (by rw [byte_eq h (by omega)]; rfl))
      · exact Or.inr (Or.inr (by rw [byte_eq h (by omega)]; rfl))
    · exact Or.inl rfl
theorem cutA_plus (s : ByteArray) : cutA (⟨#[43]⟩ ++ s) = ⟨#[43]⟩ ∧ cutB (⟨#[43]⟩ ++ s) = s := by
  constructor
  · simp [cutA, lA]
  · apply ByteArray.ext; simp [cutB, lB]
theorem cutA_minus (s : ByteArray) : cutA (⟨#[45]⟩ ++ s) = ⟨#[45]⟩ ∧ cutB (⟨#[45]⟩ ++ s) = s := by
  constructor
  · simp [cutA, lA]
  · apply ByteArray.ext; simp [cutB, lB]

theorem list_cons (s : ByteArray) (h : 0 < s.size) : s.data.toList = s[0] :: s.data.toList.drop 1 := by
  have := List.drop_eq_getElem_cons (l := s.data.toList) (i := 0) (by simpa using h)
  rw [List.drop_zero] at this; exact this
theorem list_nil (s : ByteArray) (h : ¬ 0 < s.size) : s.data.toList = [] := by
  rw [← List.length_eq_zero_iff]
  have : s.data.toList.length = s.size := by simp
  omega
theorem empty_of (s : ByteArray) (h : ¬ 0 < s.size) : s = ByteArray.empty := by
  apply ByteArray.ext
  apply Array.toList_inj.1
  rw [list_nil s h]; rfl
theorem isEmpty_yes (s : ByteArray) (h : ¬ 0 < s.size) : s.toList.isEmpty = true := by
  rw [ByteArray.toList_eq, list_nil s h]; rfl
theorem isEmpty_no (s : ByteArray) (h : 0 < s.size) : s.toList.isEmpty = false := by
  rw [ByteArray.toList_eq, list_cons s h]; rfl
theorem cut_sign (s : ByteArray) (h : 0 < s.size) (hc : (s[0].toNat : Int) = 43 ∨ (s[0].toNat : Int) = 45) : cutA s = s.extract 0 1 ∧ cutB s = s.extract 1 s.size := by
  have hc' : s[0].toNat = 43 ∨ s[0].toNat = 45 := by omega
  have hl := list_cons s h
  constructor
  · apply ByteArray.ext
    apply Array.toList_inj.1
    rw [cutA, hl, lA, if_pos hc']
    simp [ByteArray.data_extract, List.extract_eq_take_drop]
    rw [hl]; simp
  · apply ByteArray.ext
    apply Array.toList_inj.1
    rw [cutB, hl, lB, if_pos hc']
    simp [ByteArray.data_extract, List.extract_eq_take_drop]
    rw [List.take_of_length_le (by simp)]
theorem cut_plain (s : ByteArray) (h : 0 < s.size) (hc : ¬ ((s[0].toNat : Int) = 43 ∨ (s[0].toNat : Int) = 45)) : cutA s = ByteArray.empty ∧ cutB s = s := by
  have hc' : ¬ (s[0].toNat = 43 ∨ s[0].toNat = 45) := by omega
  have hl := list_cons s h
  constructor
  · rw [cutA, hl, lA, if_neg hc']; rfl
  · apply ByteArray.ext
    rw [cutB, hl, lB, if_neg hc', ← hl]
theorem cut_empty (s : ByteArray) (h : ¬ 0 < s.size) : cutA s = ByteArray.empty ∧ cutB s = s := by
  have := empty_of s h
  subst this
  exact ⟨rfl, rfl⟩
theorem cut_append (s t : ByteArray) (h : 0 < s.size) : cutA (s ++ t) = cutA s ∧ cutB (s ++ t) = cutB s ++ t := by
  have hl := list_cons s h
  have hst : (s ++ t).data.toList = s[0] :: (s.data.toList.drop 1 ++ t.data.toList) := by
    rw [ByteArray.data_append, Array.toList_append, hl]; simp
  by_cases hc : s[0].toNat = 43 ∨ s[0].toNat = 45
  · constructor
    · rw [cutA, hst, lA, if_pos hc, cutA, hl, lA, if_pos hc]
    · apply ByteArray.ext
      rw [cutB, hst, lB, if_pos hc, ByteArray.data_append, cutB, hl, lB, if_pos hc]; simp
  · constructor
    · rw [cutA, hst, lA, if_neg hc, cutA, hl, lA, if_neg hc]
    · apply ByteArray.ext
      rw [cutB, hst, lB, if_neg hc, ByteArray.data_append, cutB, hl, lB, if_neg hc]; simp
end Go.Proofs.Qxb6625998a
