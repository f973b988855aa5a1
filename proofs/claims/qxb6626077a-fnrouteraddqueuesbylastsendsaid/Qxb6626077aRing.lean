/- The ring of container/list in memory: who stands behind whom. -/
import Derived.Test.Qxb6626077aLaws
namespace Go.Proofs.Qxb6626077a
open Go.RowKit

/-- A node: a block and an offset. -/
abbrev Node := Nat × Nat
def nxtA (x : Node) : Addr := ⟨x.1, x.2, none⟩
def prvA (x : Node) : Addr := ⟨x.1, x.2 + 1, none⟩
def ptrN (x : Node) : Value := .pointer (some ⟨x.1, x.2, none⟩)

def segI : Node → List Node → List (Node × Node)
  | _, [] => []
  | x, a :: A => (x, a) :: segI a A
def lst : Node → List Node → Node
  | x, [] => x
  | _, a :: A => lst a A
def seg (x : Node) (A : List Node) (z : Node) : List (Node × Node) := segI x A ++ [(lst x A, z)]
def hd : List Node → Node → Node
  | [], z => z
  | a :: _, _ => a
def segT : List Node → Node → List (Node × Node)
  | [], _ => []
  | a :: A, z => seg a A z

theorem segI_append (B C : List Node) : ∀ x, segI x (B ++ C) = segI x B ++ segI (lst x B) C := by
  induction B with
  | nil => intro x; rfl
  | cons b B ih => intro x; simp [segI, lst, ih]
theorem lst_append (B C : List Node) : ∀ x, lst x (B ++ C) = lst (lst x B) C := by
  induction B with
  | nil => intro x; rfl
  | cons b B ih => intro x; simp [lst, ih]
theorem seg_hd (e : Node) (C : List Node) (z : Node) : seg e C z = (e, hd C z) :: segT C z := by
  cases C <;> rfl
theorem seg_mid (r : Node) (B : List Node) (e : Node) (C : List Node) (z : Node) : seg r (B ++ e :: C) z = segI r B ++ (lst r B, e) :: (e, hd C z) :: segT C z := by
  rw [seg, segI_append, lst_append, List.append_assoc]
  congr 1
  rw [segI, List.cons_append, lst, ← seg_hd]; rfl
theorem seg_join (r : Node) (B C : List Node) (z : Node) : seg r (B ++ C) z = segI r B ++ (lst r B, hd C z) :: segT C z := by
  rw [seg, segI_append, lst_append, List.append_assoc]
  congr 1
  exact seg_hd _ _ _
theorem seg_snoc (r : Node) (A : List Node) (e z : Node) : seg r (A ++ [e]) z = segI r A ++ [(lst r A, e), (e, z)] := seg_mid r A e [] z
theorem segI_fst (A : List Node) : ∀ x z, (segI x A).map Prod.fst ++ [lst x A] = x :: A ∧ (segI x A).map Prod.snd ++ [z] = A ++ [z] := by
  induction A with
  | nil => intro x z; exact ⟨rfl, rfl⟩
  | cons a A ih => intro x z; simp [segI, lst, (ih a z).1, (ih a z).2]
theorem seg_fst (x : Node) (A : List Node) (z : Node) : (seg x A z).map Prod.fst = x :: A := by
  rw [seg, List.map_append]; exact (segI_fst A x z).1
theorem seg_snd (x : Node) (A : List Node) (z : Node) : (seg x A z).map Prod.snd = A ++ [z] := by
  rw [seg, List.map_append]; exact (segI_fst A x z).2

/-- The links that w holds. -/
def Links (w : World) (ps : List (Node × Node)) : Prop := ∀ p ∈ ps, w.cell? (nxtA p.1) = some (ptrN p.2) ∧ w.cell? (prvA p.2) = some (ptrN p.1)

def nodes (L : List Nat) : List Node := L.map fun e => (e, 0)
abbrev root (rb : Nat) : Node := (rb, 7)
def ring (rb : Nat) (L : List Nat) : List (Node × Node) := seg (root rb) (nodes L) (root rb)

theorem nodes_append (A B : List Nat) : nodes (A ++ B) = nodes A ++ nodes B := List.map_append
theorem mem_nodes {L : List Nat} {x : Node} (h : x ∈ nodes L) : x.2 = 0 ∧ x.1 ∈ L := by
  obtain ⟨e, he, rfl⟩ := List.mem_map.1 h
  exact ⟨rfl, he⟩
theorem nodup_nodes {rb : Nat} {L : List Nat} (h : (rb :: L).Nodup) : (root rb :: nodes L).Nodup ∧ (nodes L ++ [root rb]).Nodup := by
  have h1 : (root rb :: nodes L).Nodup := by
    rw [List.nodup_cons] at h ⊢
    refine ⟨fun q => h.1 (mem_nodes q).2, ?_⟩
    unfold nodes
    exact List.Pairwise.map (fun e => ((e, 0) : Node)) (fun x y (hxy : x ≠ y) e => hxy (congrArg Prod.fst e)) h.2
  refine ⟨h1, ?_⟩
  rw [List.nodup_append]
  rw [List.nodup_cons] at h1
  refine ⟨h1.2, by simp, fun a ha b hb => ?_⟩
  rw [List.mem_singleton.1 hb]
  exact fun q => h1.1 (q ▸ ha)

/-- The node ahead of the end is the root, or one of the list. -/
theorem lst_mem (B : List Node) : ∀ x, lst x B = x ∨ lst x B ∈ B := by
  induction B with
  | nil => intro x; exact Or.inl rfl
  | cons b B ih =>
    intro x
    rcases ih b with h | h
    · right; rw [lst, h]; simp
    · right; rw [lst]; exact List.mem_cons_of_mem _ h
theorem hd_mem (C : List Node) (z : Node) : hd C z = z ∨ hd C z ∈ C := by
  cases C with
  | nil => exact Or.inl rfl
  | cons c C => right; simp [hd]

theorem nodup_mid {α β : Type} (f : α → β) {X Y : List α} {a b : α} (h : ((X ++ a :: b :: Y).map f).Nodup) {p : α} (hp : p ∈ X ∨ p ∈ Y) : f p ≠ f a ∧ f p ≠ f b := by
  rw [List.map_append, List.map_cons, List.map_cons, List.nodup_append] at h
  obtain ⟨_, h2, h3⟩ := h
  rcases hp with hp | hp
  · have hm : f p ∈ X.map f := List.mem_map_of_mem hp
    exact ⟨h3 _ hm _ (by simp), h3 _ hm _ (by simp)⟩
  · rw [List.nodup_cons, List.nodup_cons] at h2
    have hm : f p ∈ Y.map f := List.mem_map_of_mem hp
    exact ⟨fun q => h2.1 (by rw [← q]; exact List.mem_cons_of_mem _ hm), fun q => h2.2.1 (by rw [← q]; exact hm)⟩
theorem nodup_end {α β : Type} (f : α → β) {X : List α} {a : α} (h : ((X ++ [a]).map f).Nodup) {p : α} (hp : p ∈ X) : f p ≠ f a := by
  rw [List.map_append, List.nodup_append] at h
  exact h.2.2 _ (List.mem_map_of_mem hp) _ (by simp)

theorem links_keep {S : List Addr} {w W : World} {ps : List (Node × Node)} (h : Chg S w W) (hl : Links w ps) (hS : ∀ p ∈ ps, nxtA p.1 ∉ S ∧ prvA p.2 ∉ S) : Links W ps := by
  intro p hp
  obtain ⟨h1, h2⟩ := hl p hp
  exact ⟨(h.cell _ (hS p hp).1 (block_lt_of_cell h1)).trans h1, (h.cell _ (hS p hp).2 (block_lt_of_cell h2)).trans h2⟩

/-- A node of the ring: the root or an element. -/
theorem ring_fst {rb : Nat} {L : List Nat} {p : Node × Node} (h : p ∈ ring rb L) : (p.1 = root rb ∨ (p.1.2 = 0 ∧ p.1.1 ∈ L)) ∧ (p.2 = root rb ∨ (p.2.2 = 0 ∧ p.2.1 ∈ L)) := by
  have h1 : p.1 ∈ (ring rb L).map Prod.fst := List.mem_map_of_mem h
  have h2 : p.2 ∈ (ring rb L).map Prod.snd := List.mem_map_of_mem h
  rw [ring, seg_fst] at h1
  rw [ring, seg_snd] at h2
  constructor
  · rcases List.mem_cons.1 h1 with e | e
    · exact Or.inl e
    · exact Or.inr (mem_nodes e)
  · rcases List.mem_append.1 h2 with e | e
    · exact Or.inr (mem_nodes e)
    · exact Or.inl (List.mem_singleton.1 e)

/-- The list at ⟨rb, 7⟩ holds q: of each its element's block, and the block of what it holds. -/
structure RL (w : World) (B0 rb : Nat) (ini : Bool) (q : List (Nat × Nat)) : Prop where
  base : B0 ≤ rb
  rrow : Row w rb
  c11 : w.cell? ⟨rb, 11, none⟩ = some (.int .i64 (q.length : Nat))
  links : ini = true → Links w (ring rb (q.map Prod.fst))
  unini : ini = false → q = [] ∧ w.cell? ⟨rb, 7, none⟩ = some (.pointer none) ∧ ∃ x, w.cell? ⟨rb, 8, none⟩ = some x
  els : ∀ x ∈ q, B0 ≤ x.1 ∧ Row w x.1 ∧ w.cell? ⟨x.1, 2, none⟩ = some (.pointer (some ⟨rb, 7, none⟩)) ∧ w.cell? ⟨x.1, 3, none⟩ = some (.iface 28 (.pointer (some ⟨x.2, 0, none⟩)))
  nodup : (rb :: q.map Prod.fst).Nodup

theorem RL.ne {w : World} {B0 rb : Nat} {ini : Bool} {q : List (Nat × Nat)} (h : RL w B0 rb ini q) {x : Nat × Nat} (hx : x ∈ q) : x.1 ≠ rb := by
  have := h.nodup
  rw [List.nodup_cons] at this
  exact fun e => this.1 (by rw [← e]; exact List.mem_map_of_mem hx)

theorem RL.keep {S : List Addr} {w w' : World} {B0 rb : Nat} {ini : Bool} {q : List (Nat × Nat)} (h : RL w B0 rb ini q) (hc : Chg S w w')
    (hS : ∀ a ∈ S, (∀ x ∈ q, a.block ≠ x.1) ∧ (a.block = rb → a.off ≠ 7 ∧ a.off ≠ 8 ∧ a.off ≠ 11)) : RL w' B0 rb ini q := by
  have key : ∀ o, (o = 7 ∨ o = 8 ∨ o = 11) → ∀ v, w.cell? ⟨rb, o, none⟩ = some v → w'.cell? ⟨rb, o, none⟩ = some v := by
    intro o ho v hv
    rw [hc.cell _ (fun q => by have := (hS _ q).2 rfl; simp only at this; omega) (block_lt_of_cell hv)]; exact hv
  have keq : ∀ x ∈ q, ∀ o v, w.cell? ⟨x.1, o, none⟩ = some v → w'.cell? ⟨x.1, o, none⟩ = some v := by
    intro x hx o v hv
    rw [hc.cell _ (fun q => (hS _ q).1 x hx rfl) (block_lt_of_cell hv)]; exact hv
  refine ⟨h.base, hc.row _ h.rrow, key 11 (by omega) _ h.c11, fun hi => ?_, fun hi => ?_, fun x hx => ?_, h.nodup⟩
  · refine links_keep hc (h.links hi) (fun p hp => ?_)
    obtain ⟨h1, h2⟩ := ring_fst hp
    constructor
    · intro hq
      rcases h1 with e | ⟨e0, e⟩
      · have := (hS _ hq).2 (by rw [e]; rfl)
        rw [e] at this; exact this.1 rfl
      · obtain ⟨x, hx, hx'⟩ := List.mem_map.1 e
        exact (hS _ hq).1 x hx hx'.symm
    · intro hq
      rcases h2 with e | ⟨e0, e⟩
      · have := (hS _ hq).2 (by rw [e]; rfl)
        rw [e] at this; exact this.2.1 rfl
      · obtain ⟨x, hx, hx'⟩ := List.mem_map.1 e
        exact (hS _ hq).1 x hx hx'.symm
  · obtain ⟨h1, h2, x, h3⟩ := h.unini hi
    exact ⟨h1, key 7 (by omega) _ h2, x, key 8 (by omega) _ h3⟩
  · obtain ⟨h1, h2, h3, h4⟩ := h.els x hx
    exact ⟨h1, hc.row _ h2, keq x hx _ _ h3, keq x hx _ _ h4⟩
end Go.Proofs.Qxb6626077a
