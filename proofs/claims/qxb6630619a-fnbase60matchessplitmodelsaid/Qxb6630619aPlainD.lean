/- The split model, plainly; it answers as base60 does. -/
import Derived.Test.Qxb6630619aPlain
namespace Go.Proofs.Qxb6630619a

def headOK : List UInt8 → Bool
  | [] => false
  | c :: r => dg c && r.all du
def groupOK : List UInt8 → Bool
  | [a] => dg a
  | [a, b] => (decide (48 ≤ a.toNat) && decide (a.toNat ≤ 53)) && dg b
  | _ => false
def ok (n : Nat) (p : List UInt8) : Bool := if n = 0 then headOK p else groupOK p
def pcs : Nat → List UInt8 → List UInt8 → Bool
  | n, cur, [] => ok n cur && decide (2 ≤ n + 1)
  | n, cur, c :: r => if c.toNat = 58 then ok n cur && pcs (n + 1) [] r else pcs n (cur ++ [c]) r
def nd (c : UInt8) : Bool := c.toNat != 46
def smr (t : List UInt8) : Bool := tailOk (t.dropWhile nd) && pcs 0 [] (t.takeWhile nd)
def sm (l : List UInt8) : Bool := smr (strip l)

theorem dg_bd {c : UInt8} (h : dg c = true) : 48 ≤ c.toNat ∧ c.toNat ≤ 57 := by
  simp only [dg, dgN, Bool.and_eq_true, decide_eq_true_eq] at h; omega
theorem dg_no {c : UInt8} (h : c.toNat < 48 ∨ 57 < c.toNat) : dg c = false := by
  rw [Bool.eq_false_iff]; intro q; have := dg_bd q; omega

theorem pcs_fail (n : Nat) (body : List UInt8) : ∀ cur, (∀ e, ok n (cur ++ e) = false) → pcs n cur body = false := by
  induction body with
  | nil => intro cur h; rw [pcs]; have := h []; rw [List.append_nil] at this; rw [this, Bool.false_and]
  | cons c r ih =>
    intro cur h
    rw [pcs]
    split
    · have := h []; rw [List.append_nil] at this; rw [this, Bool.false_and]
    · exact ih _ (fun e => by rw [List.append_assoc]; exact h _)

theorem ok_pos {n : Nat} (h : 1 ≤ n) (p : List UInt8) : ok n p = groupOK p := by rw [ok, if_neg (by omega)]
theorem group_long (a b c : UInt8) (r : List UInt8) : groupOK (a :: b :: c :: r) = false := rfl

theorem tail_bad (c : UInt8) (r : List UInt8) (h : c.toNat ≠ 46) : tailOk (c :: r) = false := by rw [tailOk, if_neg h]

def Stop (rest : List UInt8) : Prop := rest = [] ∨ ∃ c r, rest = c :: r ∧ c.toNat = 46

theorem grp_stop (rest : List UInt8) (h : Stop rest) : grp true rest = tailOk rest := by
  rcases h with rfl | ⟨c, r, rfl, hc⟩
  · rw [grp_nil]; rfl
  · rw [grp_no _ _ _ (by omega), Bool.true_and]

theorem grp_pcs (rest : List UInt8) (hr : Stop rest) : ∀ (m : Nat) (body : List UInt8), body.length ≤ m → (∀ c ∈ body, c.toNat ≠ 46) → ∀ (colon : UInt8), colon.toNat = 58 → ∀ seen n, 1 ≤ n →
    grp seen (colon :: (body ++ rest)) = (pcs n [] body && tailOk rest) := by
  intro m
  induction m with
  | zero =>
    intro body hm _ colon hc seen n hn
    obtain rfl : body = [] := List.length_eq_zero_iff.1 (by omega)
    rw [List.nil_append, pcs, ok_pos hn]
    rcases hr with rfl | ⟨c, r, rfl, hc'⟩
    · rw [grp_end _ _ hc]; rfl
    · rw [grp_bad _ _ _ _ hc (dg_no (by omega))]; rfl
  | succ m ih =>
    intro body hm h46 colon hc seen n hn
    match body, hm, h46 with
    | [], _, _ => exact ih [] (by simp) (by simp) colon hc seen n hn
    | a :: b1, hm, h46 =>
      have ha46 := h46 a (by simp)
      by_cases ha58 : a.toNat = 58
      · rw [List.cons_append, grp_bad _ _ _ _ hc (dg_no (by omega)), pcs, if_pos ha58, ok_pos hn]; rfl
      by_cases hda : dg a = true
      case neg =>
        have hda' : dg a = false := by simpa using hda
        rw [List.cons_append, grp_bad _ _ _ _ hc hda', pcs, if_neg ha58, pcs_fail, Bool.false_and]
        intro e
        rw [ok_pos hn]
        match e with
        | [] => exact hda'
        | [b] =>
          show ((decide (48 ≤ a.toNat) && decide (a.toNat ≤ 53)) && dg b) = false
          rw [Bool.eq_false_iff]; intro q
          simp only [Bool.and_eq_true, decide_eq_true_eq] at q
          exact hda (by simp only [dg, dgN, Bool.and_eq_true, decide_eq_true_eq]; omega)
        | b :: c :: r => rfl
      have hab := dg_bd hda
      match b1, hm, h46 with
      | [], _, _ =>
        rw [pcs, if_neg ha58, List.nil_append, pcs, ok_pos hn]
        have e1 : groupOK [a] = true := hda
        rw [e1, decide_eq_true (by omega), Bool.true_and, Bool.true_and]
        rcases hr with rfl | ⟨c, r, rfl, hc'⟩
        · rw [List.append_nil, grp_last _ _ _ hc hda, grp_nil]; rfl
        · rw [List.cons_append, List.nil_append, grp_one _ _ _ _ _ hc (fun q => by have := dg_bd q.2.2; omega) hda, grp_no _ _ _ (by omega), Bool.true_and]
      | b :: b2, hm, h46 =>
        have hb46 := h46 b (by simp)
        rw [pcs, if_neg ha58, List.nil_append]
        by_cases hb58 : b.toNat = 58
        · rw [pcs, if_pos hb58, ok_pos hn]
          have e1 : groupOK [a] = true := hda
          rw [e1, Bool.true_and, List.cons_append, List.cons_append, grp_one _ _ _ _ _ hc (fun q => by have := dg_bd q.2.2; omega) hda]
          exact ih b2 (by simp at hm; omega) (fun c hc => h46 c (by simp [hc])) b hb58 true (n + 1) (by omega)
        · rw [pcs, if_neg hb58]
          by_cases hab2 : a.toNat ≤ 53 ∧ dg b = true
          · have e1 : groupOK [a, b] = true := by
              show ((decide (48 ≤ a.toNat) && decide (a.toNat ≤ 53)) && dg b) = true
              rw [hab2.2, decide_eq_true hab.1, decide_eq_true hab2.1]; rfl
            rw [List.cons_append, List.cons_append, grp_two _ _ _ _ _ hc hab2.1 hda hab2.2]
            match b2, hm, h46 with
            | [], _, _ =>
              rw [List.nil_append, grp_stop _ hr, List.cons_append, List.nil_append, pcs, ok_pos hn, e1, decide_eq_true (by omega), Bool.true_and, Bool.true_and]
            | c :: b3, hm, h46 =>
              by_cases hc58 : c.toNat = 58
              · rw [pcs, if_pos hc58, ok_pos hn, List.cons_append, List.cons_append, List.nil_append, e1, Bool.true_and]
                exact ih b3 (by simp at hm; omega) (fun c hc => h46 c (by simp [hc])) c hc58 true (n + 1) (by omega)
              · rw [List.cons_append, grp_no _ _ _ hc58, tail_bad _ _ (h46 c (by simp)), pcs, if_neg hc58, pcs_fail, Bool.false_and, Bool.and_false]
                intro e
                rw [ok_pos hn]
                simp only [List.cons_append, List.nil_append]
                exact group_long _ _ _ _
          · rw [List.cons_append, List.cons_append, grp_one _ _ _ _ _ hc (fun q => hab2 ⟨q.1, q.2.2⟩) hda, grp_no _ _ _ hb58, tail_bad _ _ hb46, pcs_fail, Bool.false_and, Bool.and_false]
            intro e
            rw [ok_pos hn]
            match e with
            | [] =>
              show ((decide (48 ≤ a.toNat) && decide (a.toNat ≤ 53)) && dg b) = false
              rw [Bool.eq_false_iff]; intro q
              simp only [Bool.and_eq_true, decide_eq_true_eq] at q
              exact hab2 ⟨q.1.2, q.2⟩
            | c :: r => rfl

theorem head_snoc (cur : List UInt8) (d : UInt8) (h : headOK cur = true) : headOK (cur ++ [d]) = du d := by
  cases cur with
  | nil => cases h
  | cons c r =>
    simp only [headOK, Bool.and_eq_true] at h
    simp [headOK, h.1, h.2]

theorem head_pcs (rest : List UInt8) (hr : Stop rest) : ∀ (r : List UInt8), (∀ c ∈ r, c.toNat ≠ 46) → ∀ cur, headOK cur = true →
    grp false ((r ++ rest).dropWhile du) = (pcs 0 cur r && tailOk rest) := by
  intro r
  induction r with
  | nil =>
    intro _ cur h
    rw [List.nil_append, pcs]
    simp only [Nat.zero_add, show decide (2 ≤ 1) = false from rfl, Bool.and_false, Bool.false_and]
    rcases hr with rfl | ⟨c, r, rfl, hc'⟩
    · rfl
    · have : du c = false := by
        rw [du, dg_no (by omega), Bool.false_or]; simp; omega
      rw [List.dropWhile_cons, if_neg (by simp [this]), grp_no _ _ _ (by omega), Bool.false_and]
  | cons d r ih =>
    intro h46 cur h
    rw [pcs, List.cons_append]
    by_cases hd58 : d.toNat = 58
    · have : du d = false := by
        rw [du, dg_no (by omega), Bool.false_or]; simp; omega
      rw [List.dropWhile_cons, if_neg (by simp [this]), if_pos hd58]
      have e : ok 0 cur = true := h
      rw [e, Bool.true_and]
      exact grp_pcs rest hr r.length r (Nat.le_refl _) (fun c hc => h46 c (by simp [hc])) d hd58 false 1 (Nat.le_refl _)
    · rw [if_neg hd58]
      have hs := head_snoc cur d h
      by_cases hu : du d = true
      · rw [List.dropWhile_cons, if_pos hu]
        exact ih (fun c hc => h46 c (by simp [hc])) (cur ++ [d]) (by rw [hs, hu])
      · have hu' : du d = false := by simpa using hu
        rw [List.dropWhile_cons, if_neg hu, grp_no _ _ _ hd58, Bool.false_and, pcs_fail, Bool.false_and]
        intro e
        show headOK _ = false
        cases cur with
        | nil => cases h
        | cons c q => simp [headOK, hu']

theorem b60r_split (body rest : List UInt8) (hr : Stop rest) (h46 : ∀ c ∈ body, c.toNat ≠ 46) : b60r (body ++ rest) = (pcs 0 [] body && tailOk rest) := by
  cases body with
  | nil =>
    rw [List.nil_append, pcs]
    show _ = (_ && _ && _)
    have e : ok 0 [] = false := rfl
    rw [e, Bool.false_and, Bool.false_and]
    rcases hr with rfl | ⟨c, r, rfl, hc'⟩
    · rfl
    · rw [b60r, if_neg (by simp [dg_no (show c.toNat < 48 ∨ 57 < c.toNat by omega)])]
  | cons c r =>
    by_cases hd : dg c = true
    · have hb := dg_bd hd
      rw [List.cons_append, b60r, if_pos hd, pcs, if_neg (by omega), List.nil_append]
      exact head_pcs rest hr r (fun c hc => h46 c (by simp [hc])) [c] (by simp [headOK, hd])
    · have hd' : dg c = false := by simpa using hd
      have e : pcs 0 [] (c :: r) = false := by
        rw [pcs]
        split
        · have e : ok 0 [] = false := rfl
          rw [e, Bool.false_and]
        · refine pcs_fail _ _ _ (fun e => ?_)
          simp [ok, headOK, hd']
      rw [List.cons_append, b60r, if_neg hd, e, Bool.false_and]

theorem b60_sm (l : List UInt8) : b60 l = sm l := by
  unfold b60 sm smr
  generalize strip l = t
  have ht : t = t.takeWhile nd ++ t.dropWhile nd := (List.takeWhile_append_dropWhile (p := nd) (l := t)).symm
  have hs : Stop (t.dropWhile nd) := by
    cases he : t.dropWhile nd with
    | nil => exact Or.inl rfl
    | cons c r =>
      refine Or.inr ⟨c, r, rfl, ?_⟩
      have hne : t.dropWhile nd ≠ [] := by rw [he]; simp
      have := List.head_dropWhile_not nd hne
      simp only [he, List.head_cons] at this
      simpa [nd] using this
  have hb : ∀ c ∈ t.takeWhile nd, c.toNat ≠ 46 := by
    intro c hc
    have h0 : (t.takeWhile nd).all nd = true := List.all_takeWhile
    have := List.all_eq_true.1 h0 c hc
    simpa [nd] using this
  rw [Bool.and_comm]
  exact (congrArg b60r ht).trans (b60r_split _ _ hs hb)
end Go.Proofs.Qxb6630619a
