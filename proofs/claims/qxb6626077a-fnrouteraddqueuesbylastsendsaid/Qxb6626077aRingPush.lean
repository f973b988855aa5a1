/- What PushBack makes of the ring. -/
import Derived.Test.Qxb6626077aRingOps
namespace Go.Proofs.Qxb6626077a
open Go.RowKit

/-- The world behind 'PushBack' on a list that stands. -/
def pushed0 (v : World) (rb pb po n : Nat) : World :=
  ((v.setCell ⟨pb, po, none⟩ (.pointer (some ⟨v.heap.size, 0, none⟩))).setCell ⟨rb, 8, none⟩ (.pointer (some ⟨v.heap.size, 0, none⟩))).setCell ⟨rb, 11, none⟩ (.int .i64 ((n : Int) + 1))
def pushed (v : World) (rb pb po n : Nat) (va : Addr) : World :=
  (pushed0 v rb pb po n).alloc (.cells #[.pointer (some ⟨rb, 7, none⟩), .pointer (some ⟨pb, po, none⟩), .pointer (some ⟨rb, 7, none⟩), .iface 28 (.pointer (some va))] 62)

theorem pushed0_size (v : World) (rb pb po n : Nat) : (pushed0 v rb pb po n).heap.size = v.heap.size := by simp [pushed0]
theorem pushed_chg (v : World) (rb pb po n : Nat) (va : Addr) : Chg [⟨pb, po, none⟩, ⟨rb, 8, none⟩, ⟨rb, 11, none⟩] v (pushed v rb pb po n va) := by
  unfold pushed pushed0
  exact ((((Chg.refl _ v).setCell (by simp) _).setCell (by simp) _).setCell (by simp) _).alloc _
theorem pushed_new (v : World) (rb pb po n : Nat) (va : Addr) (o : Nat) : (pushed v rb pb po n va).cell? ⟨v.heap.size, o, none⟩ = #[Value.pointer (some ⟨rb, 7, none⟩), .pointer (some ⟨pb, po, none⟩), .pointer (some ⟨rb, 7, none⟩), .iface 28 (.pointer (some va))][o]? := by
  unfold pushed
  rw [World.cell?_alloc_at _ _ _ _ (pushed0_size v rb pb po n).symm]
theorem pushed_old (v : World) (rb pb po n : Nat) (va : Addr) (a : Addr) (h : a.block < v.heap.size) : (pushed v rb pb po n va).cell? a = (pushed0 v rb pb po n).cell? a := by
  unfold pushed
  rw [World.cell?_alloc_lt _ _ _ (by rw [pushed0_size]; exact h)]
theorem pushed0_cells (v : World) (rb pb po n : Nat) (xp x8 x11 : Value) (hp8 : pb = rb → ¬ po = 8) (hpl : pb = rb → ¬ po = 11) (p0 : v.cell? ⟨pb, po, none⟩ = some xp) (c8 : v.cell? ⟨rb, 8, none⟩ = some x8) (hl : v.cell? ⟨rb, 11, none⟩ = some x11) :
    (pushed0 v rb pb po n).cell? ⟨pb, po, none⟩ = some (.pointer (some ⟨v.heap.size, 0, none⟩)) ∧ (pushed0 v rb pb po n).cell? ⟨rb, 8, none⟩ = some (.pointer (some ⟨v.heap.size, 0, none⟩)) ∧ (pushed0 v rb pb po n).cell? ⟨rb, 11, none⟩ = some (.int .i64 ((n : Int) + 1)) := by
  unfold pushed0
  refine ⟨?_, ?_, ?_⟩
  · rw [World.cell?_setCell_other _ ⟨rb, 11, none⟩ _ _ (by simp; exact fun e e' => hpl e.symm e'.symm), World.cell?_setCell_other _ ⟨rb, 8, none⟩ _ _ (by simp; exact fun e e' => hp8 e.symm e'.symm), World.cell?_setCell_same _ _ _ p0]
  · rw [World.cell?_setCell_other _ ⟨rb, 11, none⟩ _ _ (by simp), World.cell?_setCell_same _ _ _ (u := x8)]
    rw [World.cell?_setCell_other _ ⟨pb, po, none⟩ _ _ (by simp; exact hp8)]; exact c8
  · rw [World.cell?_setCell_same _ _ _ (u := x11)]
    rw [World.cell?_setCell_other _ ⟨rb, 8, none⟩ _ _ (by simp), World.cell?_setCell_other _ ⟨pb, po, none⟩ _ _ (by simp; exact hpl)]; exact hl

/-- The last node of the list, and what is known of it. -/
structure Last (v : World) (rb : Nat) (q : List (Nat × Nat)) (pb po : Nat) : Prop where
  eq : lst (root rb) (nodes (q.map Prod.fst)) = (pb, po)
  own : (pb, po) = root rb ∨ (po = 0 ∧ pb ∈ q.map Prod.fst)
  hp8 : pb = rb → ¬ po = 8
  hpl : pb = rb → ¬ po = 11
  row : Row v pb
  c8 : v.cell? ⟨rb, 8, none⟩ = some (.pointer (some ⟨pb, po, none⟩))
  p0 : v.cell? ⟨pb, po, none⟩ = some (.pointer (some ⟨rb, 7, none⟩))
  c7 : ∃ fb fo, v.cell? ⟨rb, 7, none⟩ = some (.pointer (some ⟨fb, fo, none⟩))

theorem RL.last {v : World} {B0 rb : Nat} {q : List (Nat × Nat)} (h : RL v B0 rb true q) : ∃ pb po, Last v rb q pb po := by
  have hl := h.links rfl
  have h1 := hl (lst (root rb) (nodes (q.map Prod.fst)), root rb) (by unfold ring seg; simp)
  have h2 := hl (root rb, hd (nodes (q.map Prod.fst)) (root rb)) (by unfold ring; rw [seg_hd]; simp)
  obtain ⟨⟨pb, po⟩, hP⟩ : ∃ x : Node, lst (root rb) (nodes (q.map Prod.fst)) = x := ⟨_, rfl⟩
  rw [hP] at h1
  have hown : (pb, po) = root rb ∨ (po = 0 ∧ pb ∈ q.map Prod.fst) := by
    rw [← hP]
    rcases lst_mem (nodes (q.map Prod.fst)) (root rb) with e | e
    · exact Or.inl e
    · have := mem_nodes e
      rw [hP] at this ⊢
      exact Or.inr this
  have hpo : po = 7 ∧ pb = rb ∨ po = 0 := by
    rcases hown with e | ⟨e, _⟩
    · exact Or.inl ⟨congrArg Prod.snd e, congrArg Prod.fst e⟩
    · exact Or.inr e
  refine ⟨pb, po, hP, hown, by omega, by omega, ?_, h1.2, h1.1, _, _, h2.1⟩
  rcases hown with e | ⟨_, e⟩
  · have : pb = rb := congrArg Prod.fst e
    rw [this]; exact h.rrow
  · obtain ⟨y, hy, hy'⟩ := List.mem_map.1 e
    have hy2 : y.1 = pb := hy'
    rw [← hy2]; exact (h.els y hy).2.1

theorem pushed_RL {v : World} {B0 rb : Nat} {q : List (Nat × Nat)} {pb po wb : Nat} (h : RL v B0 rb true q) (hB : B0 ≤ v.heap.size) (hL : Last v rb q pb po) :
    RL (pushed v rb pb po q.length ⟨wb, 0, none⟩) B0 rb true (q ++ [(v.heap.size, wb)]) := by
  have hchg := pushed_chg v rb pb po q.length ⟨wb, 0, none⟩
  have hc := pushed0_cells v rb pb po q.length _ _ _ hL.hp8 hL.hpl hL.p0 hL.c8 h.c11
  have hrl := h.rrow.lt
  have hpl := hL.row.lt
  have hnew : ∀ x ∈ q, x.1 < v.heap.size := fun x hx => (h.els x hx).2.1.lt
  have hmap : (q ++ [(v.heap.size, wb)]).map Prod.fst = q.map Prod.fst ++ [v.heap.size] := by simp
  have hpo : po = 7 ∧ pb = rb ∨ po = 0 := by
    rcases hL.own with e | ⟨e, _⟩
    · exact Or.inl ⟨congrArg Prod.snd e, congrArg Prod.fst e⟩
    · exact Or.inr e
  have hout : ∀ a : Addr, a ≠ ⟨pb, po, none⟩ → a ≠ ⟨rb, 8, none⟩ → a ≠ ⟨rb, 11, none⟩ → a ∉ [(⟨pb, po, none⟩ : Addr), ⟨rb, 8, none⟩, ⟨rb, 11, none⟩] := by
    intro a h1 h2 h3 hm
    simp only [List.mem_cons, List.not_mem_nil, or_false] at hm
    rcases hm with e | e | e
    · exact h1 e
    · exact h2 e
    · exact h3 e
  refine ⟨h.base, hchg.row _ h.rrow, ?_, fun _ => ?_, fun e => absurd e (by decide), fun y hy => ?_, ?_⟩
  · rw [pushed_old _ _ _ _ _ _ _ hrl, hc.2.2]
    congr 2
    simp
  · rw [hmap, ring, nodes_append]
    show Links _ (seg _ (nodes _ ++ [(v.heap.size, 0)]) _)
    rw [seg_snoc, hL.eq]
    intro p hp
    rcases List.mem_append.1 hp with hp | hp
    · have hmem : p ∈ ring rb (q.map Prod.fst) := by unfold ring seg; exact List.mem_append_left _ hp
      have hold := h.links rfl p hmem
      have hk := ring_fst hmem
      have hnn := nodup_nodes (L := q.map Prod.fst) h.nodup
      have hf : ((segI (root rb) (nodes (q.map Prod.fst)) ++ [(((pb, po) : Node), root rb)]).map Prod.fst).Nodup := by
        have := seg_fst (root rb) (nodes (q.map Prod.fst)) (root rb)
        unfold seg at this
        rw [hL.eq] at this
        rw [this]; exact hnn.1
      have hs : ((segI (root rb) (nodes (q.map Prod.fst)) ++ [(((pb, po) : Node), root rb)]).map Prod.snd).Nodup := by
        have := seg_snd (root rb) (nodes (q.map Prod.fst)) (root rb)
        unfold seg at this
        rw [hL.eq] at this
        rw [this]; exact hnn.2
      have h1 := nodup_end Prod.fst hf hp
      have h2 := nodup_end Prod.snd hs hp
      obtain ⟨⟨ub, uo⟩, ⟨vb, vo⟩⟩ := p
      simp only [nxtA, prvA, ptrN] at hold ⊢
      simp only at h1 h2 hk
      have huo : uo = 7 ∧ ub = rb ∨ uo = 0 := by
        rcases hk.1 with e | ⟨e, _⟩
        · exact Or.inl ⟨congrArg Prod.snd e, congrArg Prod.fst e⟩
        · exact Or.inr e
      have hvo : vo = 0 := by
        rcases hk.2 with e | ⟨e, _⟩
        · exact absurd e h2
        · exact e
      constructor
      · rw [hchg.cell _ (hout _ (fun e => h1 (by simp only [Addr.mk.injEq] at e; rw [e.1, e.2.1])) (by simp <;> omega) (by simp <;> omega)) (block_lt_of_cell hold.1)]
        exact hold.1
      · rw [hchg.cell _ (hout _ (by simp <;> omega) (by simp <;> omega) (by simp <;> omega)) (block_lt_of_cell hold.2)]
        exact hold.2
    · simp only [List.mem_cons, List.not_mem_nil, or_false] at hp
      rcases hp with rfl | rfl
      · refine ⟨?_, ?_⟩
        · show World.cell? _ ⟨pb, po, none⟩ = _
          rw [pushed_old _ _ _ _ _ _ _ hpl]; exact hc.1
        · show World.cell? _ ⟨v.heap.size, 1, none⟩ = _
          rw [pushed_new]; rfl
      · refine ⟨?_, ?_⟩
        · show World.cell? _ ⟨v.heap.size, 0, none⟩ = _
          rw [pushed_new]; rfl
        · show World.cell? _ ⟨rb, 8, none⟩ = _
          rw [pushed_old _ _ _ _ _ _ _ hrl]; exact hc.2.1
  · rcases List.mem_append.1 hy with hy | hy
    · obtain ⟨y1, y2, y3, y4⟩ := h.els y hy
      have hne := h.ne hy
      refine ⟨y1, hchg.row _ y2, ?_, ?_⟩
      · rw [hchg.cell _ (hout _ (by simp <;> omega) (by simp <;> omega) (by simp <;> omega)) (block_lt_of_cell y3)]; exact y3
      · rw [hchg.cell _ (hout _ (by simp <;> omega) (by simp <;> omega) (by simp <;> omega)) (block_lt_of_cell y4)]; exact y4
    · rw [List.mem_singleton.1 hy]
      refine ⟨hB, ?_, ?_, ?_⟩
      · show Row _ v.heap.size
        have := Row.new (pushed0 v rb pb po q.length) #[Value.pointer (some ⟨rb, 7, none⟩), .pointer (some ⟨pb, po, none⟩), .pointer (some ⟨rb, 7, none⟩), .iface 28 (.pointer (some ⟨wb, 0, none⟩))] 62
        rw [pushed0_size] at this
        exact this
      · show World.cell? _ ⟨v.heap.size, 2, none⟩ = _
        rw [pushed_new]; rfl
      · show World.cell? _ ⟨v.heap.size, 3, none⟩ = _
        rw [pushed_new]; rfl
  · rw [hmap]
    have hnd := h.nodup
    rw [List.nodup_cons] at hnd ⊢
    refine ⟨fun e => ?_, ?_⟩
    · rcases List.mem_append.1 e with e | e
      · exact hnd.1 e
      · have := List.mem_singleton.1 e; omega
    · rw [List.nodup_append]
      refine ⟨hnd.2, by simp, fun a ha b hb => ?_⟩
      rw [List.mem_singleton.1 hb]
      obtain ⟨y, hy, hy'⟩ := List.mem_map.1 ha
      have := hnew y hy
      omega

theorem inited_RL {w : World} {B0 rb : Nat} (h : RL w B0 rb false []) : RL (inited w rb) B0 rb true [] ∧ Chg [⟨rb, 7, none⟩, ⟨rb, 8, none⟩, ⟨rb, 11, none⟩] w (inited w rb) := by
  obtain ⟨_, c7, x8, c8⟩ := h.unini rfl
  have hl := h.c11
  have hchg : Chg [⟨rb, 7, none⟩, ⟨rb, 8, none⟩, ⟨rb, 11, none⟩] w (inited w rb) := by
    unfold inited
    exact (((Chg.refl _ w).setCell (by simp) _).setCell (by simp) _).setCell (by simp) _
  refine ⟨⟨h.base, hchg.row _ h.rrow, ?_, fun _ => ?_, fun e => absurd e (by decide), fun y hy => absurd hy (by simp), by simp⟩, hchg⟩
  · unfold inited
    rw [World.cell?_setCell_same _ _ _ (u := .int .i64 ((0 : Nat) : Int))]
    · rfl
    · rw [World.cell?_setCell_other _ _ _ _ (by simp), World.cell?_setCell_other _ _ _ _ (by simp)]; exact hl
  · intro p hp
    rw [show p = (root rb, root rb) from List.mem_singleton.1 hp]
    constructor
    · show World.cell? _ ⟨rb, 7, none⟩ = _
      unfold inited
      rw [World.cell?_setCell_other _ _ _ _ (by simp), World.cell?_setCell_other _ _ _ _ (by simp), World.cell?_setCell_same _ _ _ c7]; rfl
    · show World.cell? _ ⟨rb, 8, none⟩ = _
      unfold inited
      rw [World.cell?_setCell_other _ _ _ _ (by simp), World.cell?_setCell_same _ _ _ (u := x8)]
      · rfl
      · rw [World.cell?_setCell_other _ _ _ _ (by simp)]; exact c8

theorem Push_RL {w : World} {B0 rb : Nat} {ini : Bool} {q : List (Nat × Nat)} (wb : Nat) (h : RL w B0 rb ini q) (hB : B0 ≤ w.heap.size) (hlen : q.length ≤ 10000) :
    Calls Try.prog 20 #[.pointer (some ⟨rb, 7, none⟩), .iface 28 (.pointer (some ⟨wb, 0, none⟩))] w fun e w' =>
      e = .returned (.pointer (some ⟨w.heap.size, 0, none⟩)) ∧ RL w' B0 rb true (q ++ [(w.heap.size, wb)]) ∧ ChgL w w' rb q ∧ w'.heap.size = w.heap.size + 1 := by
  cases ini with
  | true =>
    obtain ⟨pb, po, hL⟩ := h.last
    obtain ⟨fb, fo, hc7⟩ := hL.c7
    refine (push_raw rb pb po fb fo q.length ⟨wb, 0, none⟩ w hlen h.rrow.lt hL.row.lt hL.hp8 hL.hpl hc7 hL.c8 h.c11 hL.p0 (h.rrow.frozen _) (h.rrow.frozen _) (hL.row.frozen _)).mono ?_
    rintro e w' ⟨rfl, hw⟩
    have hw' : w' = pushed w rb pb po q.length ⟨wb, 0, none⟩ := hw
    subst hw'
    refine ⟨rfl, pushed_RL h hB hL, ⟨_, pushed_chg _ _ _ _ _ _, fun a ha => ?_⟩, by simp [pushed, pushed0]⟩
    have ho := node_own (rb := rb) (q := q) (x := (pb, po)) hL.own
    simp only [List.mem_cons, List.not_mem_nil, or_false] at ha
    rcases ha with rfl | rfl | rfl
    · exact ho.1
    · exact Or.inl ⟨rfl, Or.inr (Or.inl rfl)⟩
    · exact Or.inl ⟨rfl, Or.inr (Or.inr rfl)⟩
  | false =>
    obtain ⟨rfl, c7, x8, c8⟩ := h.unini rfl
    obtain ⟨hi, hichg⟩ := inited_RL h
    have hz : (inited w rb).heap.size = w.heap.size := by simp [inited]
    obtain ⟨pb, po, hL⟩ := hi.last
    obtain rfl : pb = rb := (congrArg Prod.fst hL.eq).symm
    obtain rfl : po = 7 := (congrArg Prod.snd hL.eq).symm
    refine (push_init pb x8 _ ⟨wb, 0, none⟩ w h.rrow.lt c7 c8 h.c11 (h.rrow.frozen _) (h.rrow.frozen _) (h.rrow.frozen _)).mono ?_
    rintro e w' ⟨rfl, hw⟩
    have hw' : w' = pushed (inited w pb) pb pb 7 0 ⟨wb, 0, none⟩ := by
      rw [hw]; unfold pushed pushed0; rw [hz]; rfl
    subst hw'
    have hp := pushed_RL (wb := wb) hi (by rw [hz]; exact hB) hL
    rw [hz] at hp
    refine ⟨rfl, hp, ⟨_, hichg.trans (pushed_chg _ _ _ _ _ _), fun a ha => ?_⟩, by simp [pushed, pushed0, hz]⟩
    · simp only [List.mem_cons, List.not_mem_nil, or_false] at ha
      rcases ha with rfl | rfl | rfl
      · exact Or.inl ⟨rfl, Or.inl rfl⟩
      · exact Or.inl ⟨rfl, Or.inr (Or.inl rfl)⟩
      · exact Or.inl ⟨rfl, Or.inr (Or.inr rfl)⟩
end Go.Proofs.Qxb6626077a
