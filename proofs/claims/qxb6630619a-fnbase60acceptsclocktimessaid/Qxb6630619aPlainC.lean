/- The plain law of the clock times. -/
import Derived.Test.Qxb6630619aPlainB
namespace Go.Proofs.Qxb6630619a

theorem dg_digit (n : Nat) : dg (UInt8.ofNat (48 + n % 10)) = true := by
  simp only [dg, dgN, digit_nat, Bool.and_eq_true, decide_eq_true_eq]; omega
theorem dg_bd {c : UInt8} (h : dg c = true) : 48 ≤ c.toNat ∧ c.toNat ≤ 57 := by
  simp only [dg, dgN, Bool.and_eq_true, decide_eq_true_eq] at h; omega
theorem dg_of {c : UInt8} (h : 48 ≤ c.toNat ∧ c.toNat ≤ 57) : dg c = true := by
  simp only [dg, dgN, Bool.and_eq_true, decide_eq_true_eq]; omega
theorem dg_no {c : UInt8} (h : c.toNat < 48 ∨ 57 < c.toNat) : dg c = false := by
  rw [Bool.eq_false_iff]; intro q; have := dg_bd q; omega

theorem dl_form (k : Nat) : ∀ n acc, ∃ p, dl k n acc = p ++ acc ∧ (0 < k → p ≠ []) ∧ ∀ c ∈ p, dg c = true := by
  induction k with
  | zero => intro n acc; exact ⟨[], rfl, fun h => absurd h (by omega), fun c h => absurd h (by simp)⟩
  | succ k ih =>
    intro n acc
    rw [dl]; split
    · exact ⟨[UInt8.ofNat (48 + n % 10)], rfl, fun _ => by simp, fun c h => by rw [List.mem_singleton.1 h]; exact dg_digit n⟩
    · obtain ⟨p, hp, _, hd⟩ := ih (n / 10) (UInt8.ofNat (48 + n % 10) :: acc)
      refine ⟨p ++ [UInt8.ofNat (48 + n % 10)], by rw [hp]; simp, fun _ => by simp, fun c h => ?_⟩
      rcases List.mem_append.1 h with h | h
      · exact hd c h
      · rw [List.mem_singleton.1 h]; exact dg_digit n

theorem dl_one (k n : Nat) (acc : List UInt8) (h : n < 10) : dl (k + 1) n acc = UInt8.ofNat (48 + n % 10) :: acc := by
  rw [dl, if_pos (by omega)]
theorem dl_two (k n : Nat) (acc : List UInt8) (h : ¬ n < 10) (h2 : n < 100) : dl (k + 2) n acc = UInt8.ofNat (48 + n / 10 % 10) :: UInt8.ofNat (48 + n % 10) :: acc := by
  rw [dl, if_neg (by omega), dl_one _ _ _ (by omega)]
theorem dl_three (n : Nat) (h2 : ¬ n < 100) : ∃ a b c r, dl 20 n [] = a :: b :: c :: r ∧ dg a = true ∧ dg b = true ∧ dg c = true := by
  rw [show (20 : Nat) = 18 + 1 + 1 from rfl, dl, if_neg (by omega), dl, if_neg (by omega)]
  obtain ⟨p, hp, hne, hd⟩ := dl_form 18 (n / 10 / 10) [UInt8.ofNat (48 + n / 10 % 10), UInt8.ofNat (48 + n % 10)]
  have hne := hne (by omega)
  rw [hp]
  match p, hne with
  | [a], _ => exact ⟨a, _, _, [], rfl, hd a (by simp), dg_digit _, dg_digit _⟩
  | [a, b], _ => exact ⟨a, b, _, _, rfl, hd a (by simp), hd b (by simp), dg_digit _⟩
  | a :: b :: c :: r, _ => exact ⟨a, b, c, _, rfl, hd a (by simp), hd b (by simp), hd c (by simp)⟩

theorem grp_digit (seen : Bool) (c : UInt8) (r : List UInt8) (h : dg c = true) : grp seen (c :: r) = false := by
  have := dg_bd h
  rw [grp_no _ _ _ (by omega), tailOk, if_neg (by omega), Bool.and_false]

theorem grp_field (seen : Bool) (v : Int) (pad : Bool) (r : List UInt8) (hr : r = [] ∨ ∃ t, r = 58 :: t) :
    grp seen (58 :: (fld v pad ++ r)) = (decide (0 ≤ v ∧ v ≤ 59) && grp true r) := by
  by_cases h0 : 0 ≤ v
  case neg =>
    have hf : fld v pad = 45 :: dl 20 v.natAbs [] := by rw [fld, if_neg (by omega), itoa, if_pos (by omega)]
    rw [hf, List.cons_append, grp_bad _ _ _ _ rfl (dg_no (by decide))]
    simp [h0]
  have hi : itoa v = dl 20 v.natAbs [] := by rw [itoa, if_neg (by omega)]
  by_cases h9 : v ≤ 9
  · have h1 : itoa v = [UInt8.ofNat (48 + v.natAbs % 10)] := by rw [hi]; exact dl_one 19 _ _ (by omega)
    have hd : decide (0 ≤ v ∧ v ≤ 59) = true := by simp; omega
    rw [hd, Bool.true_and, fld]
    by_cases hp : pad = true
    · rw [if_pos ⟨hp, h0, h9⟩, h1]
      exact grp_two _ _ _ _ _ rfl (by decide) (dg_of (by decide)) (dg_digit _)
    · rw [if_neg (fun q => hp q.1), h1]
      rcases hr with rfl | ⟨t, rfl⟩
      · exact grp_last _ _ _ rfl (dg_digit _)
      · exact grp_one _ _ _ _ _ rfl (fun q => absurd q.2.2 (by decide)) (dg_digit _)
  have hf : fld v pad = dl 20 v.natAbs [] := by rw [fld, if_neg (by omega), hi]
  rw [hf]
  by_cases h100 : v < 100
  · have h2 := dl_two 18 v.natAbs [] (by omega) (by omega)
    rw [h2]
    have ha := digit_nat (v.natAbs / 10)
    by_cases h59 : v ≤ 59
    · have hd : decide (0 ≤ v ∧ v ≤ 59) = true := by simp; omega
      rw [hd, Bool.true_and]
      exact grp_two _ _ _ _ _ rfl (by omega) (dg_digit _) (dg_digit _)
    · have hd : decide (0 ≤ v ∧ v ≤ 59) = false := by simp; omega
      rw [hd, Bool.false_and]
      exact (grp_one _ _ _ _ _ rfl (fun q => by omega) (dg_digit _)).trans (grp_digit _ _ _ (dg_digit _))
  · obtain ⟨a, b, c, q, he, hda, hdb, hdc⟩ := dl_three v.natAbs (by omega)
    have hd : decide (0 ≤ v ∧ v ≤ 59) = false := by simp; omega
    rw [he, hd, Bool.false_and]
    by_cases ha : a.toNat ≤ 53
    · exact (grp_two _ _ _ _ _ rfl ha hda hdb).trans (grp_digit _ _ _ hdc)
    · exact (grp_one _ _ _ _ _ rfl (fun q => ha q.1) hda).trans (grp_digit _ _ _ hdb)

theorem dropWhile_du (p r : List UInt8) (h : ∀ c ∈ p, dg c = true) : (p ++ 58 :: r).dropWhile du = 58 :: r := by
  induction p with
  | nil =>
    rw [List.nil_append, List.dropWhile_cons, if_neg (by decide)]
  | cons c p ih =>
    have := h c (by simp)
    rw [List.cons_append, List.dropWhile_cons, if_pos (by simp [du, this])]
    exact ih (fun c hc => h c (by simp [hc]))

theorem b60_head (v : Int) (r : List UInt8) : b60 (itoa v ++ 58 :: r) = grp false (58 :: r) := by
  obtain ⟨p, hp, hne, hd⟩ := dl_form 20 v.natAbs []
  have hne := hne (by omega)
  rw [List.append_nil] at hp
  have key : ∀ p : List UInt8, p ≠ [] → (∀ c ∈ p, dg c = true) → b60r (p ++ 58 :: r) = grp false (58 :: r) ∧ strip (p ++ 58 :: r) = p ++ 58 :: r := by
    intro p hne hd
    cases p with
    | nil => exact absurd rfl hne
    | cons c p =>
      have hc := hd c (by simp)
      have hb := dg_bd hc
      constructor
      · rw [List.cons_append, b60r, if_pos hc, dropWhile_du _ _ (fun c h => hd c (by simp [h]))]
      · rw [List.cons_append, strip, if_neg (by omega)]
  have hk := key p hne hd
  rw [b60, itoa, hp]
  by_cases h : v < 0
  · rw [if_pos h, List.cons_append, strip, if_pos (by decide)]; exact hk.1
  · rw [if_neg h, hk.2]; exact hk.1

theorem clock (h m s : Int) (pad : Bool) : b60 (itoa h ++ 58 :: (fld m pad ++ 58 :: fld s pad)) = (decide (0 ≤ m ∧ m ≤ 59) && decide (0 ≤ s ∧ s ≤ 59)) := by
  rw [b60_head, grp_field _ _ _ _ (Or.inr ⟨_, rfl⟩)]
  have := grp_field true s pad [] (Or.inl rfl)
  rw [List.append_nil] at this
  rw [this, grp_nil, Bool.and_true]
end Go.Proofs.Qxb6630619a
