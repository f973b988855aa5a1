/- The sends made: two slices of the call's own, and the blocks that the one leads to. -/
import Derived.Test.Qxb6626077aPlain
namespace Go.Proofs.Qxb6626077a
open Go.RowKit Go.Conc

theorem info9 : (Try.prog.info? 9).map (fun i => (i.zero, i.size, i.bytes)) = some (some (.string ByteArray.empty), 1, 16) := by kernel_rfl

/-- Block b is a send that waits, with this key. -/
def WaitAt (w : World) (b : Nat) (key : ByteArray) : Prop := ∃ c : Array Value, w.heap[b]? = some (.cells c 47 (0, 0)) ∧ c[0]? = some (.string key)
theorem WaitAt.row {w : World} {b : Nat} {key : ByteArray} (h : WaitAt w b key) : Row w b := by
  obtain ⟨c, hc, _⟩ := h
  exact ⟨c, 47, hc⟩
theorem WaitAt.cell {w : World} {b : Nat} {key : ByteArray} (h : WaitAt w b key) : w.cell? ⟨b, 0, none⟩ = some (.string key) := by
  obtain ⟨c, hc, h0⟩ := h
  simp [World.cell?, hc, h0]
theorem WaitAt.keep {w w' : World} {b : Nat} {key : ByteArray} (h : WaitAt w b key) (e : w'.heap[b]? = w.heap[b]?) : WaitAt w' b key := by
  obtain ⟨c, hc, h0⟩ := h
  exact ⟨c, by rw [e]; exact hc, h0⟩
theorem WaitAt.new (w : World) (key owner : ByteArray) (c : Int) : WaitAt (w.alloc (.cells (waitCells key owner c) 47)) w.heap.size key :=
  ⟨_, heap_alloc_new _ _, rfl⟩

/-- A slice of the call's own that is not nil. -/
def OwnAt (w : World) (B : Nat) (e : TypeId) (v : Value) (n : Nat) (xs : List Value) : Prop :=
  w.ownsRow B e 1 v n xs ∧ ∃ g cap, v = .slice (some ⟨g, 0, none⟩) n cap
theorem OwnAt.elem {w : World} {B : Nat} {e : TypeId} {v : Value} {n : Nat} {xs : List Value} (h : OwnAt w B e v n xs) {g : Nat} (hg : v.ownBlock = some g) : ∃ cur, w.heap[g]? = some (.cells cur e (0, 0)) := by
  obtain ⟨⟨_, h⟩, g', cap', rfl⟩ := h
  rcases h with ⟨h, _⟩ | ⟨g2, cap, cur, h, _, hc, _⟩
  · cases h
  · simp only [Value.slice.injEq, Option.some.injEq, Addr.mk.injEq] at h
    simp only [Value.ownBlock, Option.some.injEq] at hg
    rw [← hg, h.1.1]; exact ⟨cur, hc⟩
theorem OwnAt.keep {w w' : World} {B : Nat} {e e' : TypeId} {v v2 : Value} {n n2 : Nat} {xs xs2 : List Value} (h : OwnAt w B e v n xs) (h2 : OwnAt w B e' v2 n2 xs2) (he : e ≠ e') (hg : w.grownBy w' v2.ownBlock) : OwnAt w' B e v n xs := by
  refine ⟨h.1.kept hg ?_, h.2⟩
  obtain ⟨g, cap, rfl⟩ := h.2
  right
  intro q
  obtain ⟨c1, h1⟩ := h.elem (g := g) rfl
  obtain ⟨c2, h2⟩ := h2.elem (g := g) q.symm
  rw [h1] at h2
  simp only [Option.some.injEq, Obj.cells.injEq] at h2
  exact he h2.2.1
theorem OwnAt.alloc {w : World} {B : Nat} {e : TypeId} {v : Value} {n : Nat} {xs : List Value} (h : OwnAt w B e v n xs) (o : Obj) : OwnAt (w.alloc o) B e v n xs := ⟨h.1.alloc o, h.2⟩
theorem WaitAt.grown {w w' : World} {B : Nat} {e : TypeId} {v : Value} {n : Nat} {xs : List Value} {b : Nat} {key : ByteArray} (h : WaitAt w b key) (h2 : OwnAt w B e v n xs) (he : e ≠ 47) (hg : w.grownBy w' v.ownBlock) : WaitAt w' b key := by
  refine h.keep (hg.block b h.row.lt ?_)
  intro q
  obtain ⟨c2, h2⟩ := h2.elem (g := b) q.symm
  obtain ⟨c, hc, _⟩ := h
  rw [hc] at h2
  simp only [Option.some.injEq, Obj.cells.injEq] at h2
  exact he h2.2.1.symm

/-- 'append' of one, run: the value is not nil before, nor behind. -/
theorem append_run {w : World} {B : Nat} {t e : TypeId} {z : Value} {bytes : Nat} {v : Value} {n : Nat} {xs : List Value} (ht : Try.prog.underlying t = some (.slice e)) (hinfo : (Try.prog.info? e).map (fun i => (i.zero, i.size, i.bytes)) = some (some z, 1, bytes)) (hz : z.cells.size = 1)
    (h : OwnAt w B e v n xs) (hB : B ≤ w.heap.size) (x : Value) (hx : x.oneCell' = true) (hn : n ≤ 10000) (hby : bytes ≤ 16) :
    ∃ v' w', (Builtin.append_ #[t, t] t #[v, .slice (some ⟨w.heap.size, 0, none⟩) 1 1]).run Try.prog (w.alloc (.cells #[x] e)) = .ok v' w' ∧ OwnAt w' B e v' (n + 1) (xs ++ [x]) ∧ (w.alloc (.cells #[x] e)).grownBy w' v.ownBlock := by
  obtain ⟨i0, hi, hz0, hz1, hz2⟩ := info_parts hinfo
  obtain ⟨v', w', h1, h2, h3, h4⟩ := run_append_own (P := Try.prog) (w.alloc (.cells #[x] e)) B t t e i0 z 1 bytes ht hi hz0 hz1 hz2 hz (by decide) v n xs (h.1.alloc _) ⟨w.heap.size, 0, none⟩ 1 1 [x] rfl
    (by
      intro j u hj
      match j, hj with
      | 0, hj => simp at hj; subst hj; simp [Addr.add])
    (by intro u hu; simp at hu; subst hu; exact hx) (by unfold maxLen; omega)
    (by
      have : (n + 1) * bytes ≤ 10001 * 16 := Nat.mul_le_mul (by omega) hby
      omega) (by simp; omega)
  refine ⟨v', w', h1, ⟨h2, ?_⟩, h3⟩
  obtain ⟨_, hh⟩ := h2
  rcases hh with ⟨hv, _⟩ | ⟨g, cap, cur, hv, _⟩
  · obtain ⟨g, cap, rfl⟩ := h.2
    have := (h4.1 hv).1
    cases this
  · exact ⟨g, cap, hv⟩
end Go.Proofs.Qxb6626077a
