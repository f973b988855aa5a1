/- The router's state in memory, and what its parts become. -/
import Derived.Test.Qxb6626077aRingPush
namespace Go.Proofs.Qxb6626077a
open Go.RowKit Go.Conc

/-! ### the queue, plainly: of each send its element's block and its own -/
def qlook (kf : Nat → ByteArray) : List (Nat × Nat) → ByteArray → Option Value
  | [], _ => none
  | x :: r, k => if k = kf x.2 then some (.pointer (some ⟨x.1, 0, none⟩)) else qlook kf r k
def rem (kf : Nat → ByteArray) (q : List (Nat × Nat)) (kk : ByteArray) : List (Nat × Nat) := q.filter fun y => decide (kf y.2 ≠ kk)
def add1 (kf : Nat → ByteArray) (ws : List Nat) (x : Nat) : List Nat := ws.filter (fun y => decide (kf y ≠ kf x)) ++ [x]
def adds (kf : Nat → ByteArray) (ws : List Nat) (xs : List Nat) : List Nat := xs.foldl (add1 kf) ws

theorem qlook_none {kf : Nat → ByteArray} {q : List (Nat × Nat)} {kk : ByteArray} (h : qlook kf q kk = none) : rem kf q kk = q ∧ ∀ y ∈ q, kf y.2 ≠ kk := by
  have key : ∀ y ∈ q, kf y.2 ≠ kk := by
    induction q with
    | nil => intro y hy; cases hy
    | cons x r ih =>
      intro y hy
      rw [qlook] at h
      by_cases e : kk = kf x.2
      · rw [if_pos e] at h; cases h
      · rw [if_neg e] at h
        rcases List.mem_cons.1 hy with rfl | hy
        · exact fun q => e q.symm
        · exact ih h y hy
  exact ⟨List.filter_eq_self.2 fun y hy => by simpa using key y hy, key⟩
theorem qlook_some {kf : Nat → ByteArray} : ∀ {q : List (Nat × Nat)} {kk : ByteArray} {v : Value}, (q.map fun x => kf x.2).Nodup → qlook kf q kk = some v →
    ∃ q1 y q2, q = q1 ++ y :: q2 ∧ v = .pointer (some ⟨y.1, 0, none⟩) ∧ rem kf q kk = q1 ++ q2 := by
  intro q
  induction q with
  | nil => intro kk v _ h; cases h
  | cons x r ih =>
    intro kk v hn h
    rw [List.map_cons, List.nodup_cons] at hn
    rw [qlook] at h
    by_cases e : kk = kf x.2
    · rw [if_pos e] at h
      refine ⟨[], x, r, rfl, (Option.some.inj h).symm, ?_⟩
      rw [rem, List.filter_cons, if_neg (by simp [e])]
      rw [List.filter_eq_self.2]
      · rfl
      · intro y hy
        simp only [decide_eq_true_eq]
        intro q
        exact hn.1 (by rw [← e, ← q]; exact List.mem_map_of_mem (f := fun x : Nat × Nat => kf x.2) hy)
    · rw [if_neg e] at h
      obtain ⟨q1, y, q2, rfl, hv, hr⟩ := ih hn.2 h
      refine ⟨x :: q1, y, q2, rfl, hv, ?_⟩
      rw [rem, List.filter_cons, if_pos (by simpa using fun q => e q.symm)]
      show x :: rem kf (q1 ++ y :: q2) kk = _
      rw [hr]; rfl
theorem qlook_append (kf : Nat → ByteArray) (a b : List (Nat × Nat)) (k : ByteArray) : qlook kf (a ++ b) k = (qlook kf a k).or (qlook kf b k) := by
  induction a with
  | nil => rfl
  | cons x r ih =>
    rw [List.cons_append, qlook, qlook, ih]
    split <;> rfl
theorem qlook_rem (kf : Nat → ByteArray) (q : List (Nat × Nat)) (kk k : ByteArray) : qlook kf (rem kf q kk) k = if k = kk then none else qlook kf q k := by
  induction q with
  | nil => rw [rem, List.filter_nil, qlook]; split <;> rfl
  | cons x r ih =>
    rw [rem, List.filter_cons]
    by_cases e : kf x.2 = kk
    · rw [if_neg (by simp [e]), qlook]
      show qlook kf (rem kf r kk) k = _
      rw [ih]
      by_cases e' : k = kk
      · rw [if_pos e', if_pos e']
      · rw [if_neg e', if_neg e', if_neg (by rw [e]; exact e')]
    · rw [if_pos (by simpa using e), qlook, qlook]
      show (if k = kf x.2 then _ else qlook kf (rem kf r kk) k) = _
      rw [ih]
      by_cases e' : k = kk
      · rw [if_pos e', if_pos e', if_neg (by rw [e']; exact fun q => e q.symm)]
      · rw [if_neg e', if_neg e']
theorem qlook_step (kf : Nat → ByteArray) (q : List (Nat × Nat)) (eb x : Nat) (k : ByteArray) :
    qlook kf (rem kf q (kf x) ++ [(eb, x)]) k = if k = kf x then some (.pointer (some ⟨eb, 0, none⟩)) else qlook kf q k := by
  rw [qlook_append, qlook_rem, qlook]
  by_cases e : k = kf x
  · rw [if_pos e, if_pos e, if_pos e]; rfl
  · rw [if_neg e, if_neg e, if_neg e, qlook]; cases qlook kf q k <;> rfl
theorem keys_step (kf : Nat → ByteArray) (q : List (Nat × Nat)) (eb x : Nat) (h : (q.map fun x => kf x.2).Nodup) : ((rem kf q (kf x) ++ [(eb, x)]).map fun x => kf x.2).Nodup := by
  rw [List.map_append, List.nodup_append]
  refine ⟨h.sublist (List.Sublist.map _ (List.filter_sublist)), by simp, fun a ha b hb => ?_⟩
  obtain ⟨y, hy, rfl⟩ := List.mem_map.1 ha
  have := (List.mem_filter.1 hy).2
  simp only [decide_eq_true_eq] at this
  rw [show b = kf x by simpa using hb]
  exact this
theorem rem_snd (kf : Nat → ByteArray) (q : List (Nat × Nat)) (eb x : Nat) : (rem kf q (kf x) ++ [(eb, x)]).map Prod.snd = add1 kf (q.map Prod.snd) x := by
  rw [List.map_append, add1, rem, List.filter_map]; rfl

/-! ### the state -/
structure RT (w : World) (B0 rb cb mb : Nat) (lk : Int) (ini : Bool) (q : List (Nat × Nat)) (wk : Nat) (kvs : List (ByteArray × Value)) : Prop where
  rl : RL w B0 rb ini q
  c4 : w.cell? ⟨rb, 4, none⟩ = some (.chan (some cb))
  c5 : w.cell? ⟨rb, 5, none⟩ = some (.int .i32 lk)
  c12 : w.cell? ⟨rb, 12, none⟩ = some (.map (some mb))
  hcb : B0 ≤ cb
  hmb : B0 ≤ mb
  ch : ∃ s r, w.heap[cb]? = some (.chan 1 (if wk = 0 then #[] else #[.agg #[]]) false s r false)
  mi : MapIs w mb kvs

/-- The map says what the queue says. -/
def Says (kf : Nat → ByteArray) (q : List (Nat × Nat)) (kvs : List (ByteArray × Value)) : Prop :=
  kvs.length = q.length ∧ (∀ k, mlook kvs k = qlook kf q k) ∧ (q.map fun x => kf x.2).Nodup

theorem Says.step {kf : Nat → ByteArray} {q : List (Nat × Nat)} {kvs : List (ByteArray × Value)} (h : Says kf q kvs) (eb x : Nat) : Says kf (rem kf q (kf x) ++ [(eb, x)]) (mput kvs (kf x) (.pointer (some ⟨eb, 0, none⟩))) := by
  obtain ⟨h1, h2, h3⟩ := h
  refine ⟨?_, fun k => ?_, keys_step kf q eb x h3⟩
  · rw [mput_length, h2]
    cases hq : qlook kf q (kf x) with
    | none =>
      rw [(qlook_none hq).1]
      simp [h1]
    | some v =>
      obtain ⟨q1, y, q2, e, _, hr⟩ := qlook_some h3 hq
      rw [hr, h1, e]
      simp <;> omega
  · rw [mlook_put, qlook_step, h2]

section
variable {w w' : World} {B0 rb cb mb : Nat} {lk : Int} {ini ini' : Bool} {q q' : List (Nat × Nat)} {wk : Nat} {kvs kvs' : List (ByteArray × Value)}

theorem RT.cbne (h : RT w B0 rb cb mb lk ini q wk kvs) {k : Nat} (hk : Row w k) : k ≠ cb ∧ k ≠ mb := by
  obtain ⟨c, t, hk⟩ := hk
  obtain ⟨s, r, hc⟩ := h.ch
  obtain ⟨es, clock, hm, _⟩ := h.mi
  refine ⟨fun e => ?_, fun e => ?_⟩
  · rw [e, hc] at hk; cases hk
  · rw [e, hm] at hk; cases hk
theorem RT.cbmb (h : RT w B0 rb cb mb lk ini q wk kvs) : cb ≠ mb ∧ cb < w.heap.size ∧ mb < w.heap.size := by
  obtain ⟨s, r, hc⟩ := h.ch
  obtain ⟨es, clock, hm, _⟩ := h.mi
  exact ⟨fun e => (by rw [e, hm] at hc; cases hc), (Array.getElem?_eq_some_iff.1 hc).1, (Array.getElem?_eq_some_iff.1 hm).1⟩

theorem MapIs.keep (h : MapIs w mb kvs) (e : w'.heap[mb]? = w.heap[mb]?) : MapIs w' mb kvs := by
  obtain ⟨es, clock, hm, he⟩ := h
  exact ⟨es, clock, by rw [e]; exact hm, he⟩

theorem RT.list (h : RT w B0 rb cb mb lk ini q wk kvs) (hc : ChgL w w' rb q) (hr : RL w' B0 rb ini' q') : RT w' B0 rb cb mb lk ini' q' wk kvs := by
  obtain ⟨S, hc, hS⟩ := hc
  have key : ∀ o, o ≠ 7 → o ≠ 8 → o ≠ 11 → ∀ v, w.cell? ⟨rb, o, none⟩ = some v → w'.cell? ⟨rb, o, none⟩ = some v := by
    intro o h1 h2 h3 v hv
    rw [hc.cell _ (fun hm => ?_) (block_lt_of_cell hv)]
    · exact hv
    · rcases hS _ hm with ⟨_, e⟩ | ⟨y, hy, e⟩
      · simp only at e; omega
      · exact h.rl.ne hy e.symm
  have blk : ∀ k, k < w.heap.size → k ≠ rb → (∀ y ∈ q, k ≠ y.1) → w'.heap[k]? = w.heap[k]? := by
    intro k hk h1 h2
    refine hc.block k hk (fun a ha e => ?_)
    rcases hS a ha with ⟨e', _⟩ | ⟨y, hy, e'⟩
    · exact h1 (e.symm.trans e')
    · exact h2 y hy (e.symm.trans e')
  have hb := h.cbmb
  have hrb := h.cbne h.rl.rrow
  obtain ⟨s, r, hch⟩ := h.ch
  refine ⟨hr, key 4 (by omega) (by omega) (by omega) _ h.c4, key 5 (by omega) (by omega) (by omega) _ h.c5, key 12 (by omega) (by omega) (by omega) _ h.c12, h.hcb, h.hmb, ⟨s, r, ?_⟩, h.mi.keep ?_⟩
  · rw [blk cb hb.2.1 (fun e => hrb.1 e.symm) (fun y hy e => (h.cbne (h.rl.els y hy).2.1).1 e.symm)]; exact hch
  · exact blk mb hb.2.2 (fun e => hrb.2 e.symm) (fun y hy e => (h.cbne (h.rl.els y hy).2.1).2 e.symm)

theorem RT.drewN (h : RT w B0 rb cb mb lk ini q wk kvs) (n : Nat) : RT (w.drewN n) B0 rb cb mb lk ini q wk kvs :=
  ⟨⟨h.rl.base, h.rl.rrow, h.rl.c11, h.rl.links, h.rl.unini, h.rl.els, h.rl.nodup⟩, h.c4, h.c5, h.c12, h.hcb, h.hmb, h.ch, h.mi⟩

theorem RT.map (h : RT w B0 rb cb mb lk ini q wk kvs) (hs : MapSet w w' mb) (hm : MapIs w' mb kvs') : RT w' B0 rb cb mb lk ini q wk kvs' := by
  have hc := hs.chg
  have hrb := h.cbne h.rl.rrow
  have hb := h.cbmb
  have key : ∀ o v, w.cell? ⟨rb, o, none⟩ = some v → w'.cell? ⟨rb, o, none⟩ = some v := by
    intro o v hv
    rw [hc.cell ⟨rb, o, none⟩ (fun q => hrb.2 (congrArg Addr.block (List.mem_singleton.1 q))) (block_lt_of_cell hv)]; exact hv
  obtain ⟨s, r, hch⟩ := h.ch
  refine ⟨h.rl.keep hc (fun a ha => ?_), key _ _ h.c4, key _ _ h.c5, key _ _ h.c12, h.hcb, h.hmb, ⟨s, r, ?_⟩, hm⟩
  · rw [List.mem_singleton.1 ha]
    exact ⟨fun x hx e => (h.cbne (h.rl.els x hx).2.1).2 e.symm, fun e => absurd e.symm hrb.2⟩
  · rw [hc.block cb hb.2.1 (fun a ha e => by rw [List.mem_singleton.1 ha] at e; exact hb.1 e.symm)]; exact hch

theorem RT.lock (h : RT w B0 rb cb mb lk ini q wk kvs) (l : Int) : RT (w.setCell ⟨rb, 5, none⟩ (.int .i32 l)) B0 rb cb mb l ini q wk kvs := by
  have hc : Chg [⟨rb, 5, none⟩] w (w.setCell ⟨rb, 5, none⟩ (.int .i32 l)) := (Chg.refl _ w).setCell (by simp) _
  have hrb := h.cbne h.rl.rrow
  have hb := h.cbmb
  have key : ∀ o, o ≠ 5 → ∀ v, w.cell? ⟨rb, o, none⟩ = some v → (w.setCell ⟨rb, 5, none⟩ (.int .i32 l)).cell? ⟨rb, o, none⟩ = some v := by
    intro o ho v hv
    rw [hc.cell ⟨rb, o, none⟩ (fun q => ho (congrArg Addr.off (List.mem_singleton.1 q))) (block_lt_of_cell hv)]; exact hv
  obtain ⟨s, r, hch⟩ := h.ch
  refine ⟨h.rl.keep hc (fun a ha => ?_), key _ (by omega) _ h.c4, World.cell?_setCell_same _ _ _ h.c5, key _ (by omega) _ h.c12, h.hcb, h.hmb, ⟨s, r, ?_⟩, h.mi.keep ?_⟩
  · rw [List.mem_singleton.1 ha]
    exact ⟨fun x hx e => h.rl.ne hx e.symm, fun _ => by simp⟩
  · rw [hc.block cb hb.2.1 (fun a ha e => by rw [List.mem_singleton.1 ha] at e; exact hrb.1 e)]; exact hch
  · exact hc.block mb hb.2.2 (fun a ha e => by rw [List.mem_singleton.1 ha] at e; exact hrb.2 e)
end
end Go.Proofs.Qxb6626077a
