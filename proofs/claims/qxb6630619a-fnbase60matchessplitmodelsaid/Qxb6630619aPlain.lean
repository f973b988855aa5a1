/-
  Plain functions on lists of bytes: what base60, zzItoa and the split model compute. No Go in sight.
-/
import Derived.Laws.Strings
namespace Go.Proofs.Qxb6630619a

def dgN (n : Int) : Bool := decide (48 ≤ n) && decide (n ≤ 57)
def dg (c : UInt8) : Bool := dgN (c.toNat : Int)
def du (c : UInt8) : Bool := dg c || (c.toNat == 95)

def strip : List UInt8 → List UInt8
  | [] => []
  | c :: r => if c.toNat = 43 ∨ c.toNat = 45 then r else c :: r

def tailOk : List UInt8 → Bool
  | [] => true
  | c :: r => if c.toNat = 46 then r.all du else false

def grp : Bool → List UInt8 → Bool
  | seen, [] => seen
  | seen, c :: r =>
    if c.toNat = 58 then
      match r with
      | [] => false
      | a :: r2 =>
        match r2 with
        | [] => dg a
        | b :: r3 =>
          if a.toNat ≤ 53 ∧ dg a = true ∧ dg b = true then grp true r3
          else if dg a = true then grp true (b :: r3)
          else false
    else seen && tailOk (c :: r)

def b60r : List UInt8 → Bool
  | [] => false
  | c :: r => if dg c = true then grp false (r.dropWhile du) else false

def b60 (l : List UInt8) : Bool := b60r (strip l)

def sgn : List UInt8 → Bool
  | [] => false
  | c :: _ => (c.toNat == 43) || (c.toNat == 45)

theorem strip_sgn (l : List UInt8) : strip l = if sgn l = true then l.drop 1 else l := by
  cases l with
  | nil => rfl
  | cons c r => simp [strip, sgn]

theorem grp_nil (seen : Bool) : grp seen [] = seen := by simp [grp]
theorem grp_no (seen : Bool) (c : UInt8) (r : List UInt8) (h : c.toNat ≠ 58) : grp seen (c :: r) = (seen && tailOk (c :: r)) := by
  rw [grp.eq_def]; simp [h]
theorem grp_two (seen : Bool) (c a b : UInt8) (r : List UInt8) (h : c.toNat = 58) (ha : a.toNat ≤ 53) (hd : dg a = true) (hb : dg b = true) :
    grp seen (c :: a :: b :: r) = grp true r := by
  rw [grp]; simp [h, ha, hd, hb]
theorem grp_one (seen : Bool) (c a b : UInt8) (r : List UInt8) (h : c.toNat = 58) (hn : ¬ (a.toNat ≤ 53 ∧ dg a = true ∧ dg b = true)) (hd : dg a = true) :
    grp seen (c :: a :: b :: r) = grp true (b :: r) := by
  rw [grp, if_pos h, if_neg hn, if_pos hd]
theorem grp_last (seen : Bool) (c a : UInt8) (h : c.toNat = 58) (hd : dg a = true) : grp seen [c, a] = grp true [] := by
  rw [grp]; simp [h, hd, grp]
theorem grp_bad (seen : Bool) (c a : UInt8) (r : List UInt8) (h : c.toNat = 58) (hd : dg a = false) : grp seen (c :: a :: r) = false := by
  cases r <;> (rw [grp]; simp [h, hd])
theorem grp_end (seen : Bool) (c : UInt8) (h : c.toNat = 58) : grp seen [c] = false := by
  rw [grp]; simp [h]

theorem drop_at (s : ByteArray) (k : Nat) (h : k < s.size) : s.data.toList.drop k = s[k] :: s.data.toList.drop (k + 1) := by
  rw [List.drop_eq_getElem_cons (by simpa using h)]; rfl
theorem drop_end (s : ByteArray) (k : Nat) (h : s.size ≤ k) : s.data.toList.drop k = [] := by
  rw [List.drop_eq_nil_iff]; simpa using h
theorem isEmpty_yes (s : ByteArray) (h : ¬ 0 < s.size) : s.toList.isEmpty = true := by
  rw [ByteArray.toList_eq, List.isEmpty_iff]
  have := drop_end s 0 (by omega); rwa [List.drop_zero] at this
theorem isEmpty_no (s : ByteArray) (h : 0 < s.size) : s.toList.isEmpty = false := by
  rw [ByteArray.toList_eq]
  have := drop_at s 0 h; rw [List.drop_zero] at this; rw [this]; rfl
theorem list_nil (s : ByteArray) (h : ¬ 0 < s.size) : s.data.toList = [] := by
  have := drop_end s 0 (by omega); rwa [List.drop_zero] at this
theorem list_cons (s : ByteArray) (h : 0 < s.size) : s.data.toList = s[0] :: s.data.toList.drop 1 := by
  have := drop_at s 0 h; rwa [List.drop_zero] at this
theorem sgn_pos (s : ByteArray) (h : sgn s.data.toList = true) : 0 < s.size := by
  by_cases h0 : 0 < s.size
  · exact h0
  · rw [list_nil s h0] at h; cases h
theorem sgn_at (s : ByteArray) (h : 0 < s.size) : sgn s.data.toList = ((s[0].toNat == 43) || (s[0].toNat == 45)) := by
  rw [list_cons s h]; rfl
theorem strip_data (s t : ByteArray) (h : t = if sgn s.data.toList = true then s.extract 1 s.size else s) : strip s.data.toList = t.data.toList := by
  rw [strip_sgn, h]
  by_cases hg : sgn s.data.toList = true
  · rw [if_pos hg, if_pos hg]
    simp [ByteArray.data_extract, List.extract_eq_take_drop]
    rw [List.take_of_length_le]
    simp
  · rw [if_neg hg, if_neg hg]

section steps
variable (t : ByteArray) (k : Nat) (seen : Bool)
theorem st_two (n : Nat) (h : k + 2 < t.size) (h58 : (t[k].toNat : Int) = 58) (ha : (t[k + 1].toNat : Int) ≤ 53) (hd : dgN (t[k + 1].toNat : Int) = true) (hb : dgN (t[k + 2].toNat : Int) = true) :
    grp seen (t.data.toList.drop k) = grp (decide (0 < n + 1)) (t.data.toList.drop (k + 3)) := by
  rw [drop_at t k (by omega), drop_at t (k + 1) (by omega), drop_at t (k + 1 + 1) (by omega)]
  exact grp_two _ _ _ _ _ (by omega) (by omega) hd hb
theorem st_one (n : Nat) (h : k + 2 < t.size) (h58 : (t[k].toNat : Int) = 58) (hn : ¬ ((t[k + 1].toNat : Int) ≤ 53 ∧ dgN (t[k + 2].toNat : Int) = true)) (hd : dgN (t[k + 1].toNat : Int) = true) :
    grp seen (t.data.toList.drop k) = grp (decide (0 < n + 1)) (t.data.toList.drop (k + 2)) := by
  rw [drop_at t k (by omega), drop_at t (k + 1) (by omega), drop_at t (k + 1 + 1) (by omega)]
  exact grp_one _ _ _ _ _ (by omega) (fun q => hn ⟨by omega, q.2.2⟩) hd
theorem st_last (n : Nat) (h : k + 1 < t.size) (h2 : ¬ k + 2 < t.size) (h58 : (t[k].toNat : Int) = 58) (hd : dgN (t[k + 1].toNat : Int) = true) :
    grp seen (t.data.toList.drop k) = grp (decide (0 < n + 1)) (t.data.toList.drop (k + 2)) := by
  rw [drop_at t k (by omega), drop_at t (k + 1) (by omega), drop_end t (k + 1 + 1) (by omega)]
  exact grp_last _ _ _ (by omega) hd
theorem st_bad (h : k + 1 < t.size) (h58 : (t[k].toNat : Int) = 58) (hd : dgN (t[k + 1].toNat : Int) = false) :
    grp seen (t.data.toList.drop k) = false := by
  rw [drop_at t k (by omega), drop_at t (k + 1) (by omega)]
  exact grp_bad _ _ _ _ (by omega) hd
theorem st_end (hk : k < t.size) (h : ¬ k + 1 < t.size) (h58 : (t[k].toNat : Int) = 58) :
    grp seen (t.data.toList.drop k) = false := by
  rw [drop_at t k hk, drop_end t (k + 1) (by omega)]
  exact grp_end _ _ (by omega)
theorem st_no (h58 : ∀ h : k < t.size, t[k].toNat ≠ 58) : grp seen (t.data.toList.drop k) = (seen && tailOk (t.data.toList.drop k)) := by
  by_cases h : k < t.size
  · rw [drop_at t k h]; exact grp_no _ _ _ (h58 h)
  · rw [drop_end t k (by omega), grp_nil]; simp [tailOk]
theorem tail_dot (h : k < t.size) (h46 : (t[k].toNat : Int) = 46) : tailOk (t.data.toList.drop k) = (t.data.toList.drop (k + 1)).all du := by
  rw [drop_at t k h, tailOk, if_pos (by omega)]
theorem tail_no (h : k < t.size) (h46 : ¬ (t[k].toNat : Int) = 46) : tailOk (t.data.toList.drop k) = false := by
  rw [drop_at t k h, tailOk, if_neg (by omega)]
theorem tail_end (h : ¬ k < t.size) : tailOk (t.data.toList.drop k) = true := by
  rw [drop_end t k (by omega)]; rfl
theorem all_yes (h : k < t.size) (hu : du t[k] = true) : (t.data.toList.drop k).all du = (t.data.toList.drop (k + 1)).all du := by
  rw [drop_at t k h, List.all_cons, hu, Bool.true_and]
theorem all_no (h : k < t.size) (hu : du t[k] = false) : (t.data.toList.drop k).all du = false := by
  rw [drop_at t k h, List.all_cons, hu, Bool.false_and]
theorem all_end (h : ¬ k < t.size) : (t.data.toList.drop k).all du = true := by
  rw [drop_end t k (by omega)]; rfl
theorem du_dig (c : UInt8) (h : dgN (c.toNat : Int) = true) : du c = true := by simp [du, dg, h]
theorem du_us (c : UInt8) (h : (c.toNat : Int) = 95) : du c = true := by simp [du, show c.toNat = 95 by omega]
theorem du_no (c : UInt8) (h : dgN (c.toNat : Int) = false) (h' : ¬ (c.toNat : Int) = 95) : du c = false := by
  simp [du, dg, h, show c.toNat ≠ 95 by omega]
end steps
end Go.Proofs.Qxb6630619a
