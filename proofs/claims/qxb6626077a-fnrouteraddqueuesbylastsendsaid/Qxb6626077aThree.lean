/- The first law's loops: keys, pointers, and one more slice of pointers for each part. -/
import Derived.Test.Qxb6626077aWalkF
import Derived.Test.Qxb6626077aWalkG
namespace Go.Proofs.Qxb6626077a
open Go.RowKit Go.Conc

theorem OwnAt.block {w : World} {B : Nat} {e : TypeId} {v : Value} {n : Nat} {xs : List Value} (h : OwnAt w B e v n xs) : ∃ g, v.ownBlock = some g ∧ B ≤ g ∧ g < w.heap.size := by
  obtain ⟨g, cap, rfl⟩ := h.2
  obtain ⟨_, h2, h3, _⟩ := h.at
  exact ⟨g, rfl, h2, h3⟩
/-- Another slice's row is another block. -/
theorem OwnAt.far {w1 w' : World} {B : Nat} {e e2 : TypeId} {v v2 v2' : Value} {n n2 : Nat} {xs xs2 : List Value} {y : Value} (h : OwnAt w1 B e v n xs) (hne : v.ownBlock ≠ v2.ownBlock) (hA : App w1 w' B e2 v2 v2' n2 xs2 y) :
    OwnAt w' B e v n xs ∧ v.ownBlock ≠ v2'.ownBlock := by
  obtain ⟨g, hg, _, hlt⟩ := h.block
  refine ⟨⟨(h.1.alloc _).kept hA.grown (Or.inr hne), h.2⟩, ?_⟩
  rcases hA.lies with e | e
  · rw [e]; exact hne
  · rw [e, hg]; intro q
    have : g = w1.heap.size + 1 := Option.some.inj q
    omega
theorem OwnAt.ne {w : World} {B : Nat} {e e2 : TypeId} {v v2 : Value} {n n2 : Nat} {xs xs2 : List Value} (h : OwnAt w B e v n xs) (h2 : OwnAt w B e2 v2 n2 xs2) (he : e ≠ e2) : v.ownBlock ≠ v2.ownBlock := by
  obtain ⟨g, hg, _⟩ := h.block
  intro q
  obtain ⟨c1, h1⟩ := h.elem hg
  obtain ⟨c2, h2⟩ := h2.elem (q.symm.trans hg)
  rw [h1] at h2
  simp only [Option.some.injEq, Obj.cells.injEq] at h2
  exact he h2.2.1

/-- Keys k, pointers m, the part's slice x (from the f-th send on), the elder part's slice p (or nil), t sends made. -/
structure Made3 (w0 W : World) (B : Nat) (kv wv xv pv : Value) (k m x p t f : Nat) (ks : Nat → ByteArray) (wb : Nat → Nat) : Prop where
  below : Below B w0 W
  size : B ≤ W.heap.size
  keys : OwnAt W B 9 kv k (kvals ks k)
  ptrs : OwnAt W B 28 wv m (pvals wb m)
  one : OwnAt W B 28 xv x (pvals (fun i => wb (f + i)) x)
  old : (pv = .slice none 0 0 ∧ p = 0) ∨ OwnAt W B 28 pv p (pvals wb p) ∧ wv.ownBlock ≠ pv.ownBlock ∧ xv.ownBlock ≠ pv.ownBlock
  dif : wv.ownBlock ≠ xv.ownBlock
  waits : ∀ i, i < t → B ≤ wb i ∧ WaitAt W (wb i) (ks i)
  hm : m ≤ t
  hx : f + x ≤ t
  hp : p ≤ t

theorem pvals_congr {wb wb' : Nat → Nat} {m : Nat} (h : ∀ i, i < m → wb' i = wb i) : pvals wb' m = pvals wb m := by
  apply List.map_congr_left
  intro i hi
  rw [h i (List.mem_range.1 hi)]
theorem upd_lt (wb : Nat → Nat) (k x i : Nat) (h : i < k) : upd wb k x i = wb i := by simp [upd, Nat.ne_of_lt h]

/-- A send is made. -/
theorem Made3.call {w0 W : World} {B : Nat} {kv wv xv pv : Value} {k m x p t f : Nat} {ks : Nat → ByteArray} {wb : Nat → Nat} (h : Made3 w0 W B kv wv xv pv k m x p t f ks wb) (owner : ByteArray) (c : Int) :
    Made3 w0 (W.drew.alloc (.cells (waitCells (ks t) owner c) 47)) B kv wv xv pv k m x p (t + 1) f ks (upd wb t W.heap.size) := by
  have hm := h.hm
  have hx := h.hx
  have hp := h.hp
  refine ⟨h.below.drew.alloc h.size _, by simp; exact Nat.le_succ_of_le h.size, OwnAt.alloc (w := W.drew) h.keys _, ?_, ?_, ?_, h.dif, ?_, by omega, by omega, by omega⟩
  · rw [pvals_congr (wb := wb) (fun i hi => upd_lt _ _ _ _ (by omega))]
    exact OwnAt.alloc (w := W.drew) h.ptrs _
  · rw [pvals_congr (wb := fun i => wb (f + i)) (fun i hi => upd_lt _ _ _ _ (by omega))]
    exact OwnAt.alloc (w := W.drew) h.one _
  · rcases h.old with e | ⟨h1, h2, h3⟩
    · exact Or.inl e
    · right
      refine ⟨?_, h2, h3⟩
      rw [pvals_congr (wb := wb) (fun i hi => upd_lt _ _ _ _ (by omega))]
      exact OwnAt.alloc (w := W.drew) h1 _
  · intro i hi
    by_cases e : i = t
    · subst e
      simp only [upd, if_pos]
      exact ⟨h.size, WaitAt.new W.drew (ks i) owner c⟩
    · rw [upd_lt _ _ _ _ (by omega)]
      obtain ⟨h1, h2⟩ := h.waits i (by omega)
      exact ⟨h1, h2.keep (Below.heap_alloc W.drew _ _ h2.row.lt)⟩
theorem pvals_succ (wb : Nat → Nat) (m : Nat) : pvals wb (m + 1) = pvals wb m ++ [.pointer (some ⟨wb m, 0, none⟩)] := by simp [pvals, List.range_succ]

theorem Made3.part {w0 W w' : World} {B : Nat} {kv wv xv xv' pv : Value} {k m x p t f X : Nat} {ks : Nat → ByteArray} {wb : Nat → Nat} (h : Made3 w0 W B kv wv xv pv k m x p t f ks wb) (hX : wb (f + x) = X) (hx : f + (x + 1) ≤ t)
    (hA : App W w' B 28 xv xv' x (pvals (fun i => wb (f + i)) x) (.pointer (some ⟨X, 0, none⟩))) : Made3 w0 w' B kv wv xv' pv k m (x + 1) p t f ks wb := by
  obtain ⟨h1, h2⟩ := h.ptrs.far h.dif hA
  refine ⟨hA.below h.below h.size h.one, Nat.le_trans h.size (Nat.le_trans (Nat.le_succ _) hA.size), h.keys.app h.one (by decide) hA, h1, ?_, ?_, h2, fun i hi => ⟨(h.waits i hi).1, (h.waits i hi).2.app h.one (by decide) hA⟩, h.hm, hx, h.hp⟩
  · rw [pvals_succ, hX]; exact hA.own
  · rcases h.old with e | ⟨h3, h4, h5⟩
    · exact Or.inl e
    · obtain ⟨h6, h7⟩ := h3.far (Ne.symm h5) hA
      exact Or.inr ⟨h6, h4, Ne.symm h7⟩
theorem Made3.ptr {w0 W w' : World} {B : Nat} {kv wv wv' xv pv : Value} {k m x p t f X : Nat} {ks : Nat → ByteArray} {wb : Nat → Nat} (h : Made3 w0 W B kv wv xv pv k m x p t f ks wb) (hX : wb m = X) (hm : m + 1 ≤ t)
    (hA : App W w' B 28 wv wv' m (pvals wb m) (.pointer (some ⟨X, 0, none⟩))) : Made3 w0 w' B kv wv' xv pv k (m + 1) x p t f ks wb := by
  obtain ⟨h1, h2⟩ := h.one.far (Ne.symm h.dif) hA
  refine ⟨hA.below h.below h.size h.ptrs, Nat.le_trans h.size (Nat.le_trans (Nat.le_succ _) hA.size), h.keys.app h.ptrs (by decide) hA, ?_, h1, ?_, Ne.symm h2, fun i hi => ⟨(h.waits i hi).1, (h.waits i hi).2.app h.ptrs (by decide) hA⟩, hm, h.hx, h.hp⟩
  · rw [pvals_succ, hX]; exact hA.own
  · rcases h.old with e | ⟨h3, h4, h5⟩
    · exact Or.inl e
    · obtain ⟨h6, h7⟩ := h3.far (Ne.symm h4) hA
      exact Or.inr ⟨h6, Ne.symm h7, h5⟩
theorem Made3.key {w0 W w' : World} {B : Nat} {kv kv' wv xv pv : Value} {k m x p t f : Nat} {ks : Nat → ByteArray} {wb : Nat → Nat} (h : Made3 w0 W B kv wv xv pv k m x p t f ks wb)
    (hA : App W w' B 9 kv kv' k (kvals ks k) (.string (ks k))) : Made3 w0 w' B kv' wv xv pv (k + 1) m x p t f ks wb := by
  refine ⟨hA.below h.below h.size h.keys, Nat.le_trans h.size (Nat.le_trans (Nat.le_succ _) hA.size), ?_, h.ptrs.app h.keys (by decide) hA, h.one.app h.keys (by decide) hA, ?_, h.dif, fun i hi => ⟨(h.waits i hi).1, (h.waits i hi).2.app h.keys (by decide) hA⟩, h.hm, h.hx, h.hp⟩
  · rw [kvals_succ]; exact hA.own
  · rcases h.old with e | ⟨h3, h4, h5⟩
    · exact Or.inl e
    · exact Or.inr ⟨h3.app h.keys (by decide) hA, h4, h5⟩

theorem OwnAt.made' (w : World) (B : Nat) (hB : B ≤ w.heap.size) (n : Nat) (hn : n ≤ 10000) (wb : Nat → Nat) : OwnAt (w.alloc (.cells (madeCells #[.pointer none] n) 28)) B 28 (.slice (some ⟨w.heap.size, 0, none⟩) 0 n) 0 (pvals wb 0) := OwnAt.made w B hB 28 _ n hn
/-- The three slices made. -/
theorem Made3.start {w0 W : World} {B : Nat} (n n1 : Nat) (hn : n ≤ 10000) (hn1 : n1 ≤ 10000) (hb : Below B w0 W) (hB : B ≤ W.heap.size) (ks : Nat → ByteArray) :
    Made3 w0 (((W.alloc (.cells (madeCells #[.string ByteArray.empty] n) 9)).alloc (.cells (madeCells #[.pointer none] n) 28)).alloc (.cells (madeCells #[.pointer none] n1) 28)) B (.slice (some ⟨W.heap.size, 0, none⟩) 0 n) (.slice (some ⟨W.heap.size + 1, 0, none⟩) 0 n) (.slice (some ⟨W.heap.size + 2, 0, none⟩) 0 n1) (.slice none 0 0) 0 0 0 0 0 0 ks (fun _ => 0) := by
  have h1 := Made.start n hn hb hB ks
  refine ⟨h1.below.alloc h1.size _, Nat.le_trans h1.size (by simp), h1.keys.alloc _, h1.ptrs.alloc _, ?_, Or.inl ⟨rfl, rfl⟩, ?_, fun i hi => absurd hi (by omega), by omega, by omega, by omega⟩
  · have := OwnAt.made' ((W.alloc (.cells (madeCells #[.string ByteArray.empty] n) 9)).alloc (.cells (madeCells #[.pointer none] n) 28)) B h1.size n1 hn1 (fun i => (fun _ => 0) (0 + i))
    simpa using this
  · simp [Value.ownBlock]
/-- The second part's slice made. -/
theorem Made3.next {w0 W : World} {B : Nat} {kv wv xv pv : Value} {n n2 : Nat} {ks : Nat → ByteArray} {wb : Nat → Nat} (h : Made3 w0 W B kv wv xv pv n n n 0 n 0 ks wb) (hn : n2 ≤ 10000) :
    Made3 w0 (W.alloc (.cells (madeCells #[.pointer none] n2) 28)) B kv wv (.slice (some ⟨W.heap.size, 0, none⟩) 0 n2) xv n n 0 n n n ks wb := by
  obtain ⟨g, hg, _, hlt⟩ := h.ptrs.block
  obtain ⟨g2, hg2, _, hlt2⟩ := h.one.block
  refine ⟨h.below.alloc h.size _, Nat.le_trans h.size (by simp), h.keys.alloc _, h.ptrs.alloc _, OwnAt.made' W B h.size n2 hn (fun i => wb (n + i)), Or.inr ⟨?_, h.dif, ?_⟩, ?_, ?_, by omega, by omega, by omega⟩
  · have := h.one.alloc (.cells (madeCells #[.pointer none] n2) 28)
    rw [pvals_congr (wb := wb) (fun i hi => by rw [Nat.zero_add])] at this
    exact this
  · rw [hg2]; intro q
    have : W.heap.size = g2 := Option.some.inj q
    omega
  · rw [hg]; intro q
    have : g = W.heap.size := Option.some.inj q
    omega
  · intro i hi
    exact ⟨(h.waits i hi).1, (h.waits i hi).2.keep (Below.heap_alloc _ _ _ (h.waits i hi).2.row.lt)⟩

/-- Behind both loops. -/
theorem Made3.ready {w0 W : World} {B kb kc qb qc xb xc pb pc n1 n2 : Nat} {ks : Nat → ByteArray} {wb : Nat → Nat} (h : Made3 w0 W B (.slice (some ⟨kb, 0, none⟩) (n1 + n2) kc) (.slice (some ⟨qb, 0, none⟩) (n1 + n2) qc) (.slice (some ⟨xb, 0, none⟩) n2 xc) (.slice (some ⟨pb, 0, none⟩) n1 pc) (n1 + n2) (n1 + n2) n2 n1 (n1 + n2) n1 ks wb) :
    (∀ j, j < n1 + n2 → W.cell? ⟨kb, j, none⟩ = some (.string (ks j))) ∧ kb < W.heap.size ∧ Ready W W.heap.size qb (n1 + n2) ks wb ∧ Ready W W.heap.size pb n1 ks wb ∧ Ready W W.heap.size xb n2 (fun j => ks (n1 + j)) (fun j => wb (n1 + j)) := by
  obtain ⟨_, _, hk, h1⟩ := h.keys.at
  obtain ⟨_, _, h3, h4⟩ := h.ptrs.at
  obtain ⟨_, _, h5, h6⟩ := h.one.at
  have ho : OwnAt W B 28 (.slice (some ⟨pb, 0, none⟩) n1 pc) n1 (pvals wb n1) := by
    rcases h.old with ⟨e, _⟩ | ⟨e, _⟩
    · cases e
    · exact e
  obtain ⟨_, _, h7, h8⟩ := ho.at
  have hw : ∀ j, j < n1 + n2 → wb j < W.heap.size ∧ W.cell? ⟨wb j, 0, none⟩ = some (.string (ks j)) := fun j hj => ⟨(h.waits j hj).2.row.lt, (h.waits j hj).2.cell⟩
  refine ⟨fun j hj => h1 j _ (by simp [kvals, hj]), hk, ⟨fun j hj => h4 j _ (by simp [pvals, hj]), hw, h3⟩, ⟨fun j hj => h8 j _ (by simp [pvals, hj]), fun j hj => hw j (by omega), h7⟩, ⟨fun j hj => h6 j _ (by simp [pvals, hj]), fun j hj => hw (n1 + j) (by omega), h5⟩⟩

theorem Made3.readyN {w0 W : World} {B kb kc qb qc xb xc pb pc n1 n2 N : Nat} {ks : Nat → ByteArray} {wb : Nat → Nat} (hN : n1 + n2 = N) (h : Made3 w0 W B (.slice (some ⟨kb, 0, none⟩) N kc) (.slice (some ⟨qb, 0, none⟩) N qc) (.slice (some ⟨xb, 0, none⟩) n2 xc) (.slice (some ⟨pb, 0, none⟩) n1 pc) N N n2 n1 N n1 ks wb) :
    (∀ j, j < N → W.cell? ⟨kb, j, none⟩ = some (.string (ks j))) ∧ kb < W.heap.size ∧ Ready W W.heap.size qb N ks wb ∧ Ready W W.heap.size pb n1 ks wb ∧ Ready W W.heap.size xb n2 (fun j => ks (n1 + j)) (fun j => wb (n1 + j)) := by
  subst hN
  exact h.ready
theorem adds_third {kf : Nat → ByteArray} {wb : Nat → Nat} {ks : Nat → ByteArray} {n1 n2 : Nat} (h : ∀ j, j < n1 + n2 → kf (wb j) = ks j) : adds kf ((lasts ks n1).map wb) ((List.range n2).map fun i => (fun j => wb (n1 + j)) (0 + i)) = (lasts ks (n1 + n2)).map wb := by
  have : (fun i => (fun j => wb (n1 + j)) (0 + i)) = fun i => wb (n1 + i) := by funext i; simp
  rw [this]; exact adds_second h n1 n2 (Nat.le_refl _)

/-- What the walk is told behind the making of a send. -/
structure New3 (w0 wr w1 : World) (B : Nat) (kv wv xv pv : Value) (k m x p t f : Nat) (ks : Nat → ByteArray) (wb : Nat → Nat) (ow : ByteArray) (cl : Int) (sb o : Nat) : Prop where
  made : Hid (Made3 w0 w1 B kv wv xv pv k m x p (t + 1) f ks (upd wb t wr.heap.size))
  c0 : w1.cell? ⟨sb, o, none⟩ = some (.string (ks t))
  c1 : w1.cell? ⟨sb, o + 1, none⟩ = some (.string ow)
  c2 : w1.cell? ⟨sb, o + 2, none⟩ = some (.int .i64 cl)
theorem new3 {w0 wr : World} {B : Nat} {kv wv xv pv : Value} {k m x p t f : Nat} {ks : Nat → ByteArray} {wb : Nat → Nat} {ow : ByteArray} {cl : Int} (h : Made3 w0 wr B kv wv xv pv k m x p t f ks wb) (sb o : Nat) (hp : sb < B)
    (h0 : wr.cell? ⟨sb, o, none⟩ = some (.string (ks t))) (h1 : wr.cell? ⟨sb, o + 1, none⟩ = some (.string ow)) (h2 : wr.cell? ⟨sb, o + 2, none⟩ = some (.int .i64 cl)) :
    Calls Try.prog 6 #[.string (ks t), .string ow, .int .i64 cl] wr.drew fun e w1 => e = .returned (.pointer (some ⟨wr.heap.size, 0, none⟩)) ∧ New3 w0 wr w1 B kv wv xv pv k m x p t f ks wb ow cl sb o := by
  refine (newWaiting_any _ _ _ _).mono ?_
  rintro e w1 ⟨rfl, rfl⟩
  have hbb : Below B wr (wr.drew.alloc (.cells (waitCells (ks t) ow cl) 47)) := (Below.refl _ _).drew.alloc h.size _
  refine ⟨rfl, h.call ow cl, ?_, ?_, ?_⟩
  · rw [hbb.cell (p := ⟨sb, o, none⟩) hp]; exact h0
  · rw [hbb.cell (p := ⟨sb, o + 1, none⟩) hp]; exact h1
  · rw [hbb.cell (p := ⟨sb, o + 2, none⟩) hp]; exact h2
end Go.Proofs.Qxb6626077a
