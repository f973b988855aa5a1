/- One append more, as a law for the walk; the state of the loop that makes the sends. -/
import Derived.Test.Qxb6626077aBuilt
import Derived.Deep.AppendLies
import Derived.Deep.RegionHeld3
namespace Go.Proofs.Qxb6626077a
open Go.RowKit Go.Conc

/-- One element is appended: w1 ahead of the new row, w' behind the append. -/
structure App (w1 w' : World) (B : Nat) (e : TypeId) (v v' : Value) (n : Nat) (xs : List Value) (y : Value) : Prop where
  own : OwnAt w' B e v' (n + 1) (xs ++ [y])
  grown : (w1.alloc (.cells #[y] e)).grownBy w' v.ownBlock
  lies : v'.ownBlock = v.ownBlock ∨ v'.ownBlock = some (w1.heap.size + 1)
theorem App.block {w1 w' : World} {B : Nat} {e : TypeId} {v v' : Value} {n : Nat} {xs : List Value} {y : Value} (h : App w1 w' B e v v' n xs y) (b : Nat) (hb : b < w1.heap.size) (hv : some b ≠ v.ownBlock) : w'.heap[b]? = w1.heap[b]? := by
  rw [h.grown.block b (by simp; omega) hv]
  exact Below.heap_alloc _ _ _ hb
theorem App.size {w1 w' : World} {B : Nat} {e : TypeId} {v v' : Value} {n : Nat} {xs : List Value} {y : Value} (h : App w1 w' B e v v' n xs y) : w1.heap.size + 1 ≤ w'.heap.size := by
  have := h.grown.size
  simpa using this
theorem App.below {w0 w1 w' : World} {B : Nat} {e : TypeId} {v v' : Value} {n : Nat} {xs : List Value} {y : Value} (h : App w1 w' B e v v' n xs y) (hb : Below B w0 w1) (hB : B ≤ w1.heap.size) (ho : OwnAt w1 B e v n xs) : Below B w0 w' :=
  (hb.alloc hB _).grown h.grown (by simp; omega) (fun k hk => (ho.1.lt k hk).1)

theorem append_run_at {w : World} {B : Nat} {t ty e : TypeId} {z : Value} {bytes : Nat} {v : Value} {n : Nat} {xs : List Value} (ht : Try.prog.underlying t = some (.slice e)) (hinfo : (Try.prog.info? e).map (fun i => (i.zero, i.size, i.bytes)) = some (some z, 1, bytes)) (hz : z.cells.size = 1)
    (h : OwnAt w B e v n xs) (hB : B ≤ w.heap.size) (x : Value) (hx : x.oneCell' = true) (hn : n ≤ 10000) (hby : bytes ≤ 16) :
    ∃ v' w', (Builtin.append_ #[t, t] ty #[v, .slice (some ⟨w.heap.size, 0, none⟩) 1 1]).run Try.prog (w.alloc (.cells #[x] e)) = .ok v' w' ∧ App w w' B e v v' n xs x := by
  obtain ⟨i0, hi, hz0, hz1, hz2⟩ := info_parts hinfo
  obtain ⟨v', w', h1, h2, h3, h4, h5⟩ := run_append_own_at (P := Try.prog) (w.alloc (.cells #[x] e)) B t ty e i0 z 1 bytes ht hi hz0 hz1 hz2 hz (by decide) v n xs (h.1.alloc _) ⟨w.heap.size, 0, none⟩ 1 1 [x] rfl
    (by
      intro j u hj
      match j, hj with
      | 0, hj => simp at hj; subst hj; simp [Addr.add])
    (by intro u hu; simp at hu; subst hu; exact hx) (by unfold maxLen; omega)
    (by
      have : (n + 1) * bytes ≤ 10001 * 16 := Nat.mul_le_mul (by omega) hby
      omega) (by simp; omega)
  refine ⟨v', w', h1, ⟨⟨h2, ?_⟩, h3, ?_⟩⟩
  · obtain ⟨_, hh⟩ := h2
    rcases hh with ⟨hv, _⟩ | ⟨g, cap, cur, hv, _⟩
    · obtain ⟨g, cap, rfl⟩ := h.2
      have := (h4.1 hv).1
      cases this
    · exact ⟨g, cap, hv⟩
  · simpa using h5

section
variable {w1 : World} {B : Nat} {e : TypeId} {z : Value} {bytes : Nat} {v : Value} {n : Nat} {xs : List Value} {ops : Array Oper} {o : Oper} {a : Act}
theorem wp_app {K : Act → World → Prop} {Q : Exit → Act → World → Prop} (s x : Operand) (t : TypeId)
    (ho : o.op = .call { callee := .builtin .append, args := #[s, x], argTypes := #[t, t] }) (ht : Try.prog.underlying t = some (.slice e)) (hinfo : (Try.prog.info? e).map (fun i => (i.zero, i.size, i.bytes)) = some (some z, 1, bytes)) (hz : z.cells.size = 1)
    (h : OwnAt w1 B e v n xs) (hB : B ≤ w1.heap.size) (y : Value) (hy : y.oneCell' = true) (hn : n ≤ 10000) (hby : bytes ≤ 16) (hs : a.eval s = v) (hx : a.eval x = .slice (some ⟨w1.heap.size, 0, none⟩) 1 1)
    (hK : ∀ v' w', App w1 w' B e v v' n xs y → K (a.put o.dst v') w') : o.wp Try.prog a (w1.alloc (.cells #[y] e)) K Q := by
  obtain ⟨v', w', hr, hA⟩ := append_run_at (ty := o.type) ht hinfo hz h hB y hy hn hby
  unfold Oper.wp execOp
  simp only [ho, resolve, invoke, builtin, Sem.run_bind, Sem.run_pure, Result.andThen_ok, List.map_toArray, List.map_cons, List.map_nil, hs, hx, hr]
  exact hK v' w' hA
theorem step_app {K : Act → World → Prop} {Q : Exit → Act → World → Prop} {E : Prop} (hgd : o.guard = none) (s x : Operand) (t : TypeId)
    (ho : o.op = .call { callee := .builtin .append, args := #[s, x], argTypes := #[t, t] }) (ht : Try.prog.underlying t = some (.slice e)) (hinfo : (Try.prog.info? e).map (fun i => (i.zero, i.size, i.bytes)) = some (some z, 1, bytes)) (hz : z.cells.size = 1)
    (h : OwnAt w1 B e v n xs) (hB : B ≤ w1.heap.size) (y : Value) (hy : y.oneCell' = true) (hn : n ≤ 10000) (hby : bytes ≤ 16) (hs : a.eval s = v) (hx : a.eval x = .slice (some ⟨w1.heap.size, 0, none⟩) 1 1)
    (hK : ∀ v' w', App w1 w' B e v v' n xs y → K (a.put o.dst v') w') : if Region.wanted o (yielded ops a.tmps) = true then Oper.wp Try.prog o a (w1.alloc (.cells #[y] e)) K Q else E := by
  have hw : Region.wanted o (yielded ops a.tmps) = true := by simp [Region.wanted, hgd]
  rw [if_pos hw]
  exact wp_app s x t ho ht hinfo hz h hB y hy hn hby hs hx hK
theorem wpList_app {rest : List Oper} {Q : Exit → Act → World → Prop} (hgd : o.guard = none) (s x : Operand) (t : TypeId)
    (ho : o.op = .call { callee := .builtin .append, args := #[s, x], argTypes := #[t, t] }) (ht : Try.prog.underlying t = some (.slice e)) (hinfo : (Try.prog.info? e).map (fun i => (i.zero, i.size, i.bytes)) = some (some z, 1, bytes)) (hz : z.cells.size = 1)
    (h : OwnAt w1 B e v n xs) (hB : B ≤ w1.heap.size) (y : Value) (hy : y.oneCell' = true) (hn : n ≤ 10000) (hby : bytes ≤ 16) (hs : a.eval s = v) (hx : a.eval x = .slice (some ⟨w1.heap.size, 0, none⟩) 1 1)
    (hK : ∀ v' w', App w1 w' B e v v' n xs y → wpList Try.prog ops Q rest (a.put o.dst v') w') : wpList Try.prog ops Q (o :: rest) a (w1.alloc (.cells #[y] e)) :=
  wpList_plain hgd fun _ hK' => wp_app s x t ho ht hinfo hz h hB y hy hn hby hs hx fun v' w' hA => hK' _ _ (hK v' w' hA)
end

def kvals (ks : Nat → ByteArray) (k : Nat) : List Value := (List.range k).map fun i => .string (ks i)
def pvals (wb : Nat → Nat) (k : Nat) : List Value := (List.range k).map fun i => .pointer (some ⟨wb i, 0, none⟩)
theorem kvals_succ (ks : Nat → ByteArray) (k : Nat) : kvals ks (k + 1) = kvals ks k ++ [.string (ks k)] := by simp [kvals, List.range_succ]
def upd (wb : Nat → Nat) (k x : Nat) (i : Nat) : Nat := if i = k then x else wb i
theorem pvals_upd (wb : Nat → Nat) (k x : Nat) : pvals (upd wb k x) (k + 1) = pvals wb k ++ [.pointer (some ⟨x, 0, none⟩)] := by
  simp only [pvals, List.range_succ, List.map_append, List.map_cons, List.map_nil]
  congr 1
  · apply List.map_congr_left
    intro i hi
    have := List.mem_range.1 hi
    simp [upd, Nat.ne_of_lt this]
  · simp [upd]

/-- The sends made so far: k keys are laid, m pointers. -/
structure Made (w0 W : World) (B : Nat) (kv wv : Value) (k m : Nat) (ks : Nat → ByteArray) (wb : Nat → Nat) : Prop where
  below : Below B w0 W
  size : B ≤ W.heap.size
  keys : OwnAt W B 9 kv k (kvals ks k)
  ptrs : OwnAt W B 28 wv m (pvals wb m)
  waits : ∀ i, i < m → B ≤ wb i ∧ WaitAt W (wb i) (ks i)

theorem OwnAt.app {w1 w' : World} {B : Nat} {e e2 : TypeId} {v v2 v2' : Value} {n n2 : Nat} {xs xs2 : List Value} {y : Value} (h : OwnAt w1 B e v n xs) (h2 : OwnAt w1 B e2 v2 n2 xs2) (he : e ≠ e2) (hA : App w1 w' B e2 v2 v2' n2 xs2 y) : OwnAt w' B e v n xs :=
  (h.alloc _).keep (h2.alloc _) he hA.grown
theorem WaitAt.app {w1 w' : World} {B : Nat} {e2 : TypeId} {v2 v2' : Value} {n2 : Nat} {xs2 : List Value} {y : Value} {b : Nat} {key : ByteArray} (h : WaitAt w1 b key) (h2 : OwnAt w1 B e2 v2 n2 xs2) (he : e2 ≠ 47) (hA : App w1 w' B e2 v2 v2' n2 xs2 y) : WaitAt w' b key :=
  (h.keep (Below.heap_alloc _ _ _ h.row.lt)).grown (h2.alloc _) he hA.grown

/-- The world behind the making of one send. -/
theorem Made.call {w0 W : World} {B : Nat} {kv wv : Value} {k m : Nat} {ks : Nat → ByteArray} {wb : Nat → Nat} (h : Made w0 W B kv wv k m ks wb) (owner : ByteArray) (c : Int) :
    Below B w0 (W.drew.alloc (.cells (waitCells (ks m) owner c) 47)) ∧ OwnAt (W.drew.alloc (.cells (waitCells (ks m) owner c) 47)) B 9 kv k (kvals ks k) ∧ OwnAt (W.drew.alloc (.cells (waitCells (ks m) owner c) 47)) B 28 wv m (pvals wb m) ∧
      ∀ i, i < m + 1 → B ≤ upd wb m W.heap.size i ∧ WaitAt (W.drew.alloc (.cells (waitCells (ks m) owner c) 47)) (upd wb m W.heap.size i) (ks i) := by
  refine ⟨h.below.drew.alloc h.size _, OwnAt.alloc (w := W.drew) h.keys _, OwnAt.alloc (w := W.drew) h.ptrs _, ?_⟩
  intro i hi
  by_cases e : i = m
  · subst e
    simp only [upd, if_pos]
    exact ⟨h.size, WaitAt.new W.drew (ks i) owner c⟩
  · simp only [upd, if_neg e]
    obtain ⟨h1, h2⟩ := h.waits i (by omega)
    exact ⟨h1, h2.keep (Below.heap_alloc W.drew _ _ h2.row.lt)⟩
theorem Made.ptr {w0 W w1 w' : World} {B : Nat} {kv wv wv' : Value} {k m : Nat} {ks : Nat → ByteArray} {wb : Nat → Nat} {owner : ByteArray} {c : Int} (h : Made w0 W B kv wv k m ks wb) (hw : w1 = W.drew.alloc (.cells (waitCells (ks m) owner c) 47))
    (hA : App w1 w' B 28 wv wv' m (pvals wb m) (.pointer (some ⟨W.heap.size, 0, none⟩))) : Made w0 w' B kv wv' k (m + 1) ks (upd wb m W.heap.size) := by
  obtain ⟨h1, h2, h3, h4⟩ := h.call owner c
  subst hw
  have hsz : B ≤ (W.drew.alloc (.cells (waitCells (ks m) owner c) 47)).heap.size := by simp; exact Nat.le_succ_of_le h.size
  refine ⟨hA.below h1 hsz h3, Nat.le_trans hsz (Nat.le_trans (Nat.le_succ _) hA.size), h2.app h3 (by decide) hA, ?_, ?_⟩
  · rw [pvals_upd]; exact hA.own
  · intro i hi
    exact ⟨(h4 i hi).1, (h4 i hi).2.app h3 (by decide) hA⟩
theorem Made.key {w0 W w' : World} {B : Nat} {kv kv' wv : Value} {k m : Nat} {ks : Nat → ByteArray} {wb : Nat → Nat} (h : Made w0 W B kv wv k m ks wb)
    (hA : App W w' B 9 kv kv' k (kvals ks k) (.string (ks k))) : Made w0 w' B kv' wv (k + 1) m ks wb := by
  refine ⟨hA.below h.below h.size h.keys, Nat.le_trans h.size (Nat.le_trans (Nat.le_succ _) hA.size), ?_, h.ptrs.app h.keys (by decide) hA, ?_⟩
  · rw [kvals_succ]; exact hA.own
  · intro i hi
    exact ⟨(h.waits i hi).1, (h.waits i hi).2.app h.keys (by decide) hA⟩
end Go.Proofs.Qxb6626077a
