/- What the scanner does, plainly: white space, where the next token begins, its name. -/
namespace Go.Proofs.Qxb6625787a

def sp (n : Int) : Bool := (n == 32) || ((n == 9) || ((n == 10) || (n == 13)))

/-- The next place that is the end or holds no white space: 'm' is the room that is left. -/
def nx (f : Nat → Int) : Nat → Nat → Nat
  | k, 0 => k
  | k, m + 1 => if sp (f k) = true then nx f (k + 1) m else k

theorem nx_ge (f : Nat → Int) (m : Nat) : ∀ k, k ≤ nx f k m ∧ nx f k m ≤ k + m := by
  induction m with
  | zero => intro k; simp [nx]
  | succ m ih => intro k; rw [nx]; split
                 · have := ih (k + 1); omega
                 · omega
theorem nx_sp (f : Nat → Int) (m : Nat) : ∀ k j, k ≤ j → j < nx f k m → sp (f j) = true := by
  induction m with
  | zero => intro k j h1 h2; simp [nx] at h2; omega
  | succ m ih =>
    intro k j h1 h2
    rw [nx] at h2
    split at h2
    · by_cases h : j = k
      · rw [h]; assumption
      · exact ih (k + 1) j (by omega) h2
    · omega
theorem nx_no (f : Nat → Int) (m : Nat) : ∀ k, nx f k m < k + m → sp (f (nx f k m)) = false := by
  induction m with
  | zero => intro k h; simp [nx] at h
  | succ m ih =>
    intro k h
    rw [nx] at h ⊢
    split
    · rename_i hs
      rw [if_pos hs] at h
      exact ih (k + 1) (by omega)
    · rename_i hs; simpa using hs
theorem nx_stop (f : Nat → Int) (k m : Nat) (h : sp (f k) = false) : nx f k m = k := by
  cases m with
  | zero => rfl
  | succ m => rw [nx, if_neg (by simp [h])]
theorem nx_step (f : Nat → Int) (k len : Nat) (h : k < len) (hs : sp (f k) = true) : nx f k (len - k) = nx f (k + 1) (len - (k + 1)) := by
  rw [show len - k = (len - (k + 1)) + 1 by omega, nx, if_pos hs]

/-- The place behind 'what'. -/
def at1 (f : Nat → Int) (k len : Nat) : Nat := nx f k (len - k)
theorem at1_ge (f : Nat → Int) (k len : Nat) : k ≤ at1 f k len := (nx_ge f _ k).1
theorem at1_le (f : Nat → Int) (k len : Nat) (h : k ≤ len) : at1 f k len ≤ len := by have := (nx_ge f (len - k) k).2; unfold at1; omega
theorem at1_sp (f : Nat → Int) (k len j : Nat) (h1 : k ≤ j) (h2 : j < at1 f k len) : sp (f j) = true := nx_sp f _ k j h1 h2
theorem at1_no (f : Nat → Int) (k len : Nat) (hk : k ≤ len) (h : at1 f k len < len) : sp (f (at1 f k len)) = false := nx_no f _ k (by unfold at1 at h; omega)
theorem at1_at1 (f : Nat → Int) (k len : Nat) (hk : k ≤ len) : at1 f (at1 f k len) len = at1 f k len := by
  by_cases h : at1 f k len < len
  · exact nx_stop f _ _ (at1_no f k len hk h)
  · have := at1_le f k len hk
    have e : at1 f k len = len := by omega
    rw [e]; unfold at1; rw [Nat.sub_self]; rfl

/-- The byte that 'peek' gives. -/
def pk (f : Nat → Int) (p len : Nat) : Int := if p < len then f p else 0
theorem pk_lt (f : Nat → Int) (p len : Nat) (h : p < len) : pk f p len = f p := by rw [pk, if_pos h]
theorem pk_end (f : Nat → Int) (p len : Nat) (h : ¬ p < len) : pk f p len = 0 := by rw [pk, if_neg h]

def nm (c : Int) : ByteArray :=
  if c = 34 then ⟨#[97, 32, 115, 116, 114, 105, 110, 103]⟩
  else if c = 123 then ⟨#[97, 110, 32, 111, 98, 106, 101, 99, 116]⟩
  else if c = 91 then ⟨#[97, 110, 32, 97, 114, 114, 97, 121]⟩
  else if c = 116 ∨ c = 102 then ⟨#[97, 32, 98, 111, 111, 108, 101, 97, 110]⟩
  else if c = 110 then ⟨#[110, 117, 108, 108]⟩
  else if c = 45 ∨ (48 ≤ c ∧ c ≤ 57) then ⟨#[97, 32, 110, 117, 109, 98, 101, 114]⟩
  else ⟨#[110, 111, 32, 74, 83, 79, 78, 32, 118, 97, 108, 117, 101]⟩

theorem nm_seven (c : Int) : nm c = ⟨#[97, 32, 115, 116, 114, 105, 110, 103]⟩ ∨ nm c = ⟨#[97, 110, 32, 111, 98, 106, 101, 99, 116]⟩ ∨ nm c = ⟨#[97, 110, 32, 97, 114, 114, 97, 121]⟩ ∨ nm c = ⟨#[97, 32, 98, 111, 111, 108, 101, 97, 110]⟩ ∨ nm c = ⟨#[110, 117, 108, 108]⟩ ∨ nm c = ⟨#[97, 32, 110, 117, 109, 98, 101, 114]⟩ ∨ nm c = ⟨#[110, 111, 32, 74, 83, 79, 78, 32, 118, 97, 108, 117, 101]⟩ := by
  unfold nm
  split
  · exact Or.inl rfl
  split
  · exact Or.inr (Or.inl rfl)
  split
  · exact Or.inr (Or.inr (Or.inl rfl))
  split
  · exact Or.inr (Or.inr (Or.inr (Or.inl rfl)))
  split
  · exact Or.inr (Or.inr (Or.inr (Or.inr (Or.inl rfl))))
  split
  · exact Or.inr (Or.inr (Or.inr (Or.inr (Or.inr (Or.inl rfl)))))
  · exact Or.inr (Or.inr (Or.inr (Or.inr (Or.inr (Or.inr rfl)))))
end Go.Proofs.Qxb6625787a
