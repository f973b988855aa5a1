/- The queue's order, plainly: the last send of each key, in the order of their last occurrences. -/
import Derived.Test.Qxb6626077aWalkE
namespace Go.Proofs.Qxb6626077a

def lastB (ks : Nat → ByteArray) (i m : Nat) : Bool := (List.range m).all fun j => decide (j ≤ i) || decide (ks j ≠ ks i)
theorem lastB_iff (ks : Nat → ByteArray) (i m : Nat) : lastB ks i m = true ↔ LastOf ks i m := by
  unfold lastB LastOf
  rw [List.all_eq_true]
  constructor
  · intro h j h1 h2
    have := h j (List.mem_range.2 h2)
    simp only [Bool.or_eq_true, decide_eq_true_eq] at this
    rcases this with e | e
    · omega
    · exact e
  · intro h j hj
    simp only [Bool.or_eq_true, decide_eq_true_eq]
    by_cases e : j ≤ i
    · exact Or.inl e
    · exact Or.inr (h j (by omega) (List.mem_range.1 hj))
/-- The indices below m whose key does not come again below m. -/
def lasts (ks : Nat → ByteArray) (m : Nat) : List Nat := (List.range m).filter fun i => lastB ks i m

theorem lastOf_succ (ks : Nat → ByteArray) (i m : Nat) (h : i < m) : LastOf ks i (m + 1) ↔ LastOf ks i m ∧ ks i ≠ ks m := by
  constructor
  · intro hl
    exact ⟨fun j h1 h2 => hl j h1 (by omega), fun e => hl m h (by omega) e.symm⟩
  · rintro ⟨h1, h2⟩ j h3 h4
    by_cases e : j = m
    · rw [e]; exact fun q => h2 q.symm
    · exact h1 j h3 (by omega)
theorem lastOf_self (ks : Nat → ByteArray) (m : Nat) : LastOf ks m (m + 1) := fun j h1 h2 => absurd h2 (by omega)

theorem lasts_succ (ks : Nat → ByteArray) (m : Nat) : lasts ks (m + 1) = (lasts ks m).filter (fun i => decide (ks i ≠ ks m)) ++ [m] := by
  unfold lasts
  rw [List.range_succ, List.filter_append]
  congr 1
  · rw [List.filter_filter]
    apply List.filter_congr
    intro i hi
    rw [Bool.eq_iff_iff]
    simp only [decide_eq_true_eq, Bool.and_eq_true, lastB_iff]
    rw [lastOf_succ ks i m (List.mem_range.1 hi)]
    exact And.comm
  · rw [List.filter_cons, if_pos ((lastB_iff ks m (m + 1)).2 (lastOf_self ks m))]; rfl

theorem adds_append (kf : Nat → ByteArray) (q a b : List Nat) : adds kf (adds kf q a) b = adds kf q (a ++ b) := by
  unfold adds; rw [List.foldl_append]
theorem adds_lasts (kf : Nat → ByteArray) (wb : Nat → Nat) (ks : Nat → ByteArray) (n : Nat) (h : ∀ i, i < n → kf (wb i) = ks i) : ∀ m, m ≤ n → adds kf [] ((List.range m).map wb) = (lasts ks m).map wb := by
  intro m
  induction m with
  | zero => intro _; rfl
  | succ m ih =>
    intro hm
    rw [List.range_succ, List.map_append, ← adds_append, ih (by omega), lasts_succ, List.map_append]
    show add1 kf _ _ = _
    rw [add1, List.filter_map]
    congr 2
    apply List.filter_congr
    intro i hi
    have hlt : i < m := by
      have := (List.mem_filter.1 hi).1
      exact List.mem_range.1 this
    show decide (kf (wb i) ≠ kf (wb m)) = decide (ks i ≠ ks m)
    rw [h i (by omega), h m (by omega)]
theorem lasts_length_le (ks : Nat → ByteArray) (m : Nat) : (lasts ks m).length ≤ m := by
  have := List.length_filter_le (fun i => lastB ks i m) (List.range m)
  rw [List.length_range] at this
  exact this
theorem lasts_last (ks : Nat → ByteArray) (m : Nat) : (lasts ks (m + 1)).length ≥ 1 ∧ (lasts ks (m + 1))[(lasts ks (m + 1)).length - 1]? = some m := by
  rw [lasts_succ]
  simp

/-- Of the first k indices, how many are last below n. -/
def cnt (ks : Nat → ByteArray) (n k : Nat) : Nat := ((List.range k).filter fun i => lastB ks i n).length
theorem cnt_zero (ks : Nat → ByteArray) (n : Nat) : cnt ks n 0 = 0 := rfl
theorem cnt_yes (ks : Nat → ByteArray) (n k : Nat) (h : LastOf ks k n) : cnt ks n (k + 1) = cnt ks n k + 1 := by
  unfold cnt; rw [List.range_succ, List.filter_append, List.length_append]; simp [(lastB_iff ks k n).2 h]
theorem cnt_no (ks : Nat → ByteArray) (n k : Nat) (h : ¬ LastOf ks k n) : cnt ks n (k + 1) = cnt ks n k := by
  have hb : lastB ks k n = false := by rw [Bool.eq_false_iff]; exact fun q => h ((lastB_iff ks k n).1 q)
  unfold cnt; rw [List.range_succ, List.filter_append, List.length_append]; simp [hb]
theorem cnt_le (ks : Nat → ByteArray) (n k : Nat) : cnt ks n k ≤ k := by
  unfold cnt
  have := List.length_filter_le (fun i => lastB ks i n) (List.range k)
  rw [List.length_range] at this
  exact this
theorem cnt_all (ks : Nat → ByteArray) (n : Nat) : cnt ks n n = (lasts ks n).length := rfl
end Go.Proofs.Qxb6626077a
