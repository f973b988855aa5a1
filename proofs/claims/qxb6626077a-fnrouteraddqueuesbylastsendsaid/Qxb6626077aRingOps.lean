/- What Remove and PushBack make of the ring. -/
import Derived.Test.Qxb6626077aRing
namespace Go.Proofs.Qxb6626077a
open Go.RowKit

/-- The cells that the list's own operations may turn. -/
def Own (rb : Nat) (q : List (Nat × Nat)) (a : Addr) : Prop := (a.block = rb ∧ (a.off = 7 ∨ a.off = 8 ∨ a.off = 11)) ∨ ∃ y ∈ q, a.block = y.1
def ChgL (w w' : World) (rb : Nat) (q : List (Nat × Nat)) : Prop := ∃ S, Chg S w w' ∧ ∀ a ∈ S, Own rb q a

theorem node_own {rb : Nat} {q : List (Nat × Nat)} {x : Node} (h : x = root rb ∨ (x.2 = 0 ∧ x.1 ∈ q.map Prod.fst)) : Own rb q (nxtA x) ∧ Own rb q (prvA x) := by
  rcases h with rfl | ⟨h0, h⟩
  · exact ⟨Or.inl ⟨rfl, Or.inl rfl⟩, Or.inl ⟨rfl, Or.inr (Or.inl rfl)⟩⟩
  · obtain ⟨y, hy, hy'⟩ := List.mem_map.1 h
    exact ⟨Or.inr ⟨y, hy, hy'.symm⟩, Or.inr ⟨y, hy, hy'.symm⟩⟩

theorem removed_chg (w : World) (rb eb pb po nb no n : Nat) : Chg [⟨pb, po, none⟩, ⟨nb, no + 1, none⟩, ⟨eb, 0, none⟩, ⟨eb, 1, none⟩, ⟨eb, 2, none⟩, ⟨rb, 11, none⟩] w (removed w rb eb pb po nb no n) := by
  unfold removed removed0
  exact ((((((((Chg.refl _ w).setCell (by simp) _).setCell (by simp) _).setCell (by simp) _).setCell (by simp) _).setCell (by simp) _).setCell (by simp) _).drewN _)

theorem removed_len (w : World) (rb eb pb po nb no n : Nat) (x : Value) (hpl : pb = rb → ¬ po = 11) (hnl : nb = rb → ¬ no = 10) (hl : w.cell? ⟨rb, 11, none⟩ = some x) :
    (removed w rb eb pb po nb no n).cell? ⟨rb, 11, none⟩ = some (.int .i64 ((n : Int) - 1)) := by
  unfold removed removed0
  rw [World.cell?_drewN, World.cell?_setCell_same _ _ _ (u := x)]
  rw [World.cell?_setCell_other _ ⟨eb, 2, none⟩ _ _ (by simp), World.cell?_setCell_other _ ⟨eb, 1, none⟩ _ _ (by simp), World.cell?_setCell_other _ ⟨eb, 0, none⟩ _ _ (by simp), World.cell?_setCell_other _ ⟨nb, no + 1, none⟩ _ _ (by simp; exact hnl), World.cell?_setCell_other _ ⟨pb, po, none⟩ _ _ (by simp; exact hpl)]
  exact hl
theorem removed_links (w : World) (rb eb pb po nb no n : Nat) (xp xn : Value) (hpe : ¬ pb = eb) (hne : ¬ nb = eb) (hpn : pb = nb → ¬ po = no + 1) (hpl : pb = rb → ¬ po = 11) (hnl : nb = rb → ¬ no = 10)
    (p0 : w.cell? ⟨pb, po, none⟩ = some xp) (n1 : w.cell? ⟨nb, no + 1, none⟩ = some xn) :
    (removed w rb eb pb po nb no n).cell? ⟨pb, po, none⟩ = some (.pointer (some ⟨nb, no, none⟩)) ∧ (removed w rb eb pb po nb no n).cell? ⟨nb, no + 1, none⟩ = some (.pointer (some ⟨pb, po, none⟩)) := by
  have hl1 : (⟨rb, 11, none⟩ : Addr) ≠ ⟨pb, po, none⟩ := by simp; exact fun e => fun e' => hpl e.symm e'.symm
  have hl2 : (⟨rb, 11, none⟩ : Addr) ≠ ⟨nb, no + 1, none⟩ := by simp; exact fun e => fun e' => hnl e.symm (by omega)
  have he : ∀ o o', (⟨eb, o, none⟩ : Addr) ≠ ⟨pb, o', none⟩ := fun o o' q => hpe (congrArg Addr.block q).symm
  have he' : ∀ o o', (⟨eb, o, none⟩ : Addr) ≠ ⟨nb, o', none⟩ := fun o o' q => hne (congrArg Addr.block q).symm
  unfold removed removed0
  constructor
  · rw [World.cell?_drewN, World.cell?_setCell_other _ ⟨rb, 11, none⟩ _ _ hl1, World.cell?_setCell_other _ ⟨eb, 2, none⟩ _ _ (he _ _), World.cell?_setCell_other _ ⟨eb, 1, none⟩ _ _ (he _ _), World.cell?_setCell_other _ ⟨eb, 0, none⟩ _ _ (he _ _), World.cell?_setCell_other _ ⟨nb, no + 1, none⟩ _ _ (by simp; exact fun e e' => hpn e.symm e'.symm), World.cell?_setCell_same _ _ _ p0]
  · rw [World.cell?_drewN, World.cell?_setCell_other _ ⟨rb, 11, none⟩ _ _ hl2, World.cell?_setCell_other _ ⟨eb, 2, none⟩ _ _ (he' _ _), World.cell?_setCell_other _ ⟨eb, 1, none⟩ _ _ (he' _ _), World.cell?_setCell_other _ ⟨eb, 0, none⟩ _ _ (he' _ _), World.cell?_setCell_same _ _ _ (u := xn)]
    rw [World.cell?_setCell_other _ ⟨pb, po, none⟩ _ _ (by simp; exact hpn)]; exact n1

theorem Remove_RL {w : World} {B0 rb : Nat} {q1 q2 : List (Nat × Nat)} {x : Nat × Nat} (h : RL w B0 rb true (q1 ++ x :: q2)) (hlen : (q1 ++ x :: q2).length ≤ 10000) :
    Calls Try.prog 19 #[.pointer (some ⟨rb, 7, none⟩), .pointer (some ⟨x.1, 0, none⟩)] w fun e w' =>
      e = .returned (.iface 28 (.pointer (some ⟨x.2, 0, none⟩))) ∧ RL w' B0 rb true (q1 ++ q2) ∧ ChgL w w' rb (q1 ++ x :: q2) ∧ w'.heap.size = w.heap.size := by
  obtain ⟨eb, wb⟩ := x
  have hl := h.links rfl
  have hmap : (q1 ++ (eb, wb) :: q2).map Prod.fst = q1.map Prod.fst ++ eb :: q2.map Prod.fst := by simp
  have hring : ring rb ((q1 ++ (eb, wb) :: q2).map Prod.fst) = segI (root rb) (nodes (q1.map Prod.fst)) ++ (lst (root rb) (nodes (q1.map Prod.fst)), (eb, 0)) :: ((eb, 0), hd (nodes (q2.map Prod.fst)) (root rb)) :: segT (nodes (q2.map Prod.fst)) (root rb) := by
    rw [hmap, ring, nodes_append]; exact seg_mid _ _ _ _ _
  have hring' : ring rb ((q1 ++ q2).map Prod.fst) = segI (root rb) (nodes (q1.map Prod.fst)) ++ (lst (root rb) (nodes (q1.map Prod.fst)), hd (nodes (q2.map Prod.fst)) (root rb)) :: segT (nodes (q2.map Prod.fst)) (root rb) := by
    rw [List.map_append, ring, nodes_append]; exact seg_join _ _ _ _
  have hnd := h.nodup
  rw [hmap] at hnd
  have hnn := nodup_nodes (L := q1.map Prod.fst ++ eb :: q2.map Prod.fst) hnd
  have hf : ((segI (root rb) (nodes (q1.map Prod.fst)) ++ (lst (root rb) (nodes (q1.map Prod.fst)), ((eb, 0) : Node)) :: (((eb, 0) : Node), hd (nodes (q2.map Prod.fst)) (root rb)) :: segT (nodes (q2.map Prod.fst)) (root rb)).map Prod.fst).Nodup := by
    rw [← hring, hmap, ring, seg_fst]; exact hnn.1
  have hs : ((segI (root rb) (nodes (q1.map Prod.fst)) ++ (lst (root rb) (nodes (q1.map Prod.fst)), ((eb, 0) : Node)) :: (((eb, 0) : Node), hd (nodes (q2.map Prod.fst)) (root rb)) :: segT (nodes (q2.map Prod.fst)) (root rb)).map Prod.snd).Nodup := by
    rw [← hring, hmap, ring, seg_snd]; exact hnn.2
  have hP : lst (root rb) (nodes (q1.map Prod.fst)) = root rb ∨ ((lst (root rb) (nodes (q1.map Prod.fst))).2 = 0 ∧ (lst (root rb) (nodes (q1.map Prod.fst))).1 ∈ q1.map Prod.fst) := by
    rcases lst_mem (nodes (q1.map Prod.fst)) (root rb) with e | e
    · exact Or.inl e
    · exact Or.inr (mem_nodes e)
  have hN : hd (nodes (q2.map Prod.fst)) (root rb) = root rb ∨ ((hd (nodes (q2.map Prod.fst)) (root rb)).2 = 0 ∧ (hd (nodes (q2.map Prod.fst)) (root rb)).1 ∈ q2.map Prod.fst) := by
    rcases hd_mem (nodes (q2.map Prod.fst)) (root rb) with e | e
    · exact Or.inl e
    · exact Or.inr (mem_nodes e)
  rw [hring] at hl
  generalize lst (root rb) (nodes (q1.map Prod.fst)) = P at *
  generalize hd (nodes (q2.map Prod.fst)) (root rb) = N at *
  have hPE := hl (P, (eb, 0)) (by simp)
  have hEN := hl ((eb, 0), N) (by simp)
  obtain ⟨pb, po⟩ := P
  obtain ⟨nb, no⟩ := N
  simp only [nxtA, prvA, ptrN, Nat.zero_add] at hPE hEN
  have hnd1 := List.nodup_cons.1 hnd
  have hnd2 := List.nodup_append.1 hnd1.2
  have hre : ¬ rb = eb := fun e => hnd1.1 (by rw [e]; simp)
  have hpe : ¬ pb = eb := by
    rcases hP with e | ⟨_, e⟩
    · have := congrArg Prod.fst e; simp only at this; omega
    · exact fun e' => hnd2.2.2 _ e eb (by simp) e'
  have hne : ¬ nb = eb := by
    rcases hN with e | ⟨_, e⟩
    · have := congrArg Prod.fst e; simp only at this; omega
    · exact fun e' => (List.nodup_cons.1 hnd2.2.1).1 (by rw [← e']; exact e)
  have hpo : po = 7 ∧ pb = rb ∨ po = 0 := by
    rcases hP with e | ⟨e, _⟩
    · exact Or.inl ⟨congrArg Prod.snd e, congrArg Prod.fst e⟩
    · exact Or.inr e
  have hno : no = 7 ∧ nb = rb ∨ no = 0 := by
    rcases hN with e | ⟨e, _⟩
    · exact Or.inl ⟨congrArg Prod.snd e, congrArg Prod.fst e⟩
    · exact Or.inr e
  have hpn : pb = nb → ¬ po = no + 1 := by omega
  have hpl : pb = rb → ¬ po = 11 := by omega
  have hnl : nb = rb → ¬ no = 10 := by omega
  have hel := h.els (eb, wb) (by simp)
  have hprow : Row w pb := by
    rcases hP with e | ⟨_, e⟩
    · have : pb = rb := congrArg Prod.fst e
      rw [this]; exact h.rrow
    · obtain ⟨y, hy, hy'⟩ := List.mem_map.1 e
      have hy2 : y.1 = pb := hy'
      rw [← hy2]; exact (h.els y (by simp [hy])).2.1
  have hnrow : Row w nb := by
    rcases hN with e | ⟨_, e⟩
    · have : nb = rb := congrArg Prod.fst e
      rw [this]; exact h.rrow
    · obtain ⟨y, hy, hy'⟩ := List.mem_map.1 e
      have hy2 : y.1 = nb := hy'
      rw [← hy2]; exact (h.els y (by simp [hy])).2.1
  have hchg := removed_chg w rb eb pb po nb no (q1 ++ (eb, wb) :: q2).length
  refine (Remove_any rb eb pb po nb no (q1 ++ (eb, wb) :: q2).length _ _ _ w (by simp; omega) hlen hpe hne hre hpn hpl hnl hEN.1 hPE.2 hel.2.2.1 hel.2.2.2 hPE.1 hEN.2 h.c11 (hel.2.1.frozen _) (hel.2.1.frozen _) (hel.2.1.frozen _) (hprow.frozen _) (hnrow.frozen _) (h.rrow.frozen _)).mono ?_
  rintro e w' ⟨rfl, rfl⟩
  have hout : ∀ a : Addr, a.block ≠ eb → a ≠ ⟨pb, po, none⟩ → a ≠ ⟨nb, no + 1, none⟩ → a ≠ ⟨rb, 11, none⟩ → a ∉ [(⟨pb, po, none⟩ : Addr), ⟨nb, no + 1, none⟩, ⟨eb, 0, none⟩, ⟨eb, 1, none⟩, ⟨eb, 2, none⟩, ⟨rb, 11, none⟩] := by
    intro a h1 h2 h3 h4 hm
    simp only [List.mem_cons, List.not_mem_nil, or_false] at hm
    rcases hm with e | e | e | e | e | e
    · exact h2 e
    · exact h3 e
    · exact h1 (congrArg Addr.block e)
    · exact h1 (congrArg Addr.block e)
    · exact h1 (congrArg Addr.block e)
    · exact h4 e
  refine ⟨rfl, ⟨h.base, hchg.row _ h.rrow, ?_, fun _ => ?_, fun e => absurd e (by decide), fun y hy => ?_, ?_⟩, ⟨_, hchg, ?_⟩, ?_⟩
  · rw [removed_len w rb eb pb po nb no _ _ hpl hnl h.c11]
    congr 2
    simp; omega
  · rw [hring']
    have hlk := removed_links w rb eb pb po nb no (q1 ++ (eb, wb) :: q2).length _ _ hpe hne hpn hpl hnl hPE.1 hEN.2
    have hkeep : ∀ p : Node × Node, (p ∈ segI (root rb) (nodes (q1.map Prod.fst)) ∨ p ∈ segT (nodes (q2.map Prod.fst)) (root rb)) → (removed w rb eb pb po nb no (q1 ++ (eb, wb) :: q2).length).cell? (nxtA p.1) = some (ptrN p.2) ∧ (removed w rb eb pb po nb no (q1 ++ (eb, wb) :: q2).length).cell? (prvA p.2) = some (ptrN p.1) := by
      intro p hp
      have hmem : p ∈ segI (root rb) (nodes (q1.map Prod.fst)) ++ ((pb, po), (eb, 0)) :: ((eb, 0), (nb, no)) :: segT (nodes (q2.map Prod.fst)) (root rb) := by
        rcases hp with hp | hp <;> simp [hp]
      have h1 := nodup_mid Prod.fst hf hp
      have h2 := nodup_mid Prod.snd hs hp
      have hold := hl p hmem
      have hk := ring_fst (rb := rb) (L := (q1 ++ (eb, wb) :: q2).map Prod.fst) (p := p) (by rw [hring]; exact hmem)
      obtain ⟨⟨ub, uo⟩, ⟨vb, vo⟩⟩ := p
      simp only [nxtA, prvA, ptrN] at hold ⊢
      simp only at h1 h2 hk
      have huo : uo = 7 ∧ ub = rb ∨ uo = 0 := by
        rcases hk.1 with e | ⟨e, _⟩
        · exact Or.inl ⟨congrArg Prod.snd e, congrArg Prod.fst e⟩
        · exact Or.inr e
      have hvo : vo = 7 ∧ vb = rb ∨ vo = 0 := by
        rcases hk.2 with e | ⟨e, _⟩
        · exact Or.inl ⟨congrArg Prod.snd e, congrArg Prod.fst e⟩
        · exact Or.inr e
      have hue : ub ≠ eb := fun e => by
        rcases huo with ⟨_, e'⟩ | e'
        · omega
        · exact h1.2 (by rw [e, e'])
      have hve : vb ≠ eb := fun e => by
        rcases hvo with ⟨_, e'⟩ | e'
        · omega
        · exact h2.1 (by rw [e, e'])
      constructor
      · rw [hchg.cell _ (hout _ hue (fun e => h1.1 (by simp only [Addr.mk.injEq] at e; rw [e.1, e.2.1])) (by simp <;> omega) (by simp <;> omega)) (block_lt_of_cell hold.1)]
        exact hold.1
      · rw [hchg.cell _ (hout _ hve (by simp <;> omega) (fun e => h2.2 (by simp only [Addr.mk.injEq] at e; rw [e.1]; congr 1; omega)) (by simp <;> omega)) (block_lt_of_cell hold.2)]
        exact hold.2
    intro p hp
    rcases List.mem_append.1 hp with hp | hp
    · exact hkeep p (Or.inl hp)
    · rcases List.mem_cons.1 hp with rfl | hp
      · exact hlk
      · exact hkeep p (Or.inr hp)
  · have hy' : y ∈ q1 ++ (eb, wb) :: q2 := by
      rcases List.mem_append.1 hy with hy | hy <;> simp [hy]
    obtain ⟨y1, y2, y3, y4⟩ := h.els y hy'
    have hye : y.1 ≠ eb := by
      rcases List.mem_append.1 hy with hy | hy
      · exact hnd2.2.2 _ (List.mem_map_of_mem hy) eb (by simp)
      · exact fun e => (List.nodup_cons.1 hnd2.2.1).1 (by rw [← e]; exact List.mem_map_of_mem hy)
    refine ⟨y1, hchg.row _ y2, ?_, ?_⟩
    · rw [hchg.cell _ (hout _ hye (by simp <;> omega) (by simp <;> omega) (by simp)) (block_lt_of_cell y3)]; exact y3
    · rw [hchg.cell _ (hout _ hye (by simp <;> omega) (by simp <;> omega) (by simp)) (block_lt_of_cell y4)]; exact y4
  · rw [List.map_append]
    rw [List.nodup_cons] at hnd ⊢
    refine ⟨fun e => hnd.1 ?_, ?_⟩
    · rcases List.mem_append.1 e with e | e <;> simp [e]
    · exact hnd.2.sublist (List.Sublist.append (List.Sublist.refl _) (List.sublist_cons_self _ _))
  · intro a ha
    simp only [List.mem_cons, List.not_mem_nil, or_false] at ha
    have hPo := node_own (rb := rb) (q := q1 ++ (eb, wb) :: q2) (x := (pb, po)) (by rcases hP with e | ⟨e, e'⟩; exact Or.inl e; exact Or.inr ⟨e, by rw [hmap]; simp [e']⟩)
    have hNo := node_own (rb := rb) (q := q1 ++ (eb, wb) :: q2) (x := (nb, no)) (by rcases hN with e | ⟨e, e'⟩; exact Or.inl e; exact Or.inr ⟨e, by rw [hmap]; simp [e']⟩)
    rcases ha with rfl | rfl | rfl | rfl | rfl | rfl
    · exact hPo.1
    · exact hNo.2
    · exact Or.inr ⟨(eb, wb), by simp, rfl⟩
    · exact Or.inr ⟨(eb, wb), by simp, rfl⟩
    · exact Or.inr ⟨(eb, wb), by simp, rfl⟩
    · exact Or.inl ⟨rfl, Or.inr (Or.inr rfl)⟩
  · simp [removed, removed0]
end Go.Proofs.Qxb6626077a
