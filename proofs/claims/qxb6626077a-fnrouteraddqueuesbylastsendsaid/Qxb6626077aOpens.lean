/- A slice of sends that came in, opened for the walk. -/
import Derived.Test.Qxb6626077aWalkE
import Derived.Deep.Slices
import Derived.Deep.Strs
import Derived.OpenShut
namespace Go.Proofs.Qxb6626077a
open Go.ChangeShapes Go.WideShapes Go.RowKit

theorem cells25 : Try.prog.cellsOf 25 = 3 := by kernel_rfl
theorem cells9 : Try.prog.cellsOf 9 = 1 := by kernel_rfl
theorem cells2 : Try.prog.cellsOf 2 = 1 := by kernel_rfl

set_option maxRecDepth 100000 in
theorem sends_of_trod {H : Type} {enc : TypeId × Value → H} {w : World} {base : Nat} {spare : Nat → Bool} {held : Bool} {fuel : Nat} {A : Option Addr} {n cap : Nat} {x : DataW H × List MemPlace}
    (h : DataW.trod enc Try.prog w base spare held fuel 22 [.slice A n cap] = some x) : n ≤ 9223372036854775807 ∧ ∃ ks os cs, Sends w A n ks os cs := by
  rcases Go.Deep.open_slice Try.underlying22 h with ⟨hcs, _⟩ | ⟨a, len, cap', m, fu, D, Pl, hcs, _, hl, hm, hmm, _, hel⟩
  · simp only [List.cons.injEq, Value.slice.injEq, and_true] at hcs
    obtain ⟨rfl, rfl, rfl⟩ := hcs
    exact ⟨by omega, fun _ => ByteArray.empty, fun _ => ByteArray.empty, fun _ => 0, ⟨fun h0 => absurd h0 (by omega), fun i hi => absurd hi (by omega), fun i hi => absurd hi (by omega)⟩⟩
  · simp only [List.cons.injEq, Value.slice.injEq, and_true] at hcs
    obtain ⟨rfl, rfl, rfl⟩ := hcs
    have hlm : n ≤ m := by rw [hmm]; split <;> omega
    have hmx : maxLen = 9223372036854775807 := rfl
    refine ⟨by omega, ?_⟩
    have key : ∀ i, i < n → ∃ z : ByteArray × ByteArray × Int, (w.cell? (a.add (i * 3)) = some (.string z.1) ∧ w.cell? ((a.add (i * 3)).add 1) = some (.string z.2.1) ∧ w.cell? ((a.add (i * 3)).add 2) = some (.int .i64 z.2.2)) ∧ z.1.size ≤ 9223372036854775807 ∧ z.2.1.size ≤ 9223372036854775807 := by
      intro i hi
      obtain ⟨cs', h1, h2⟩ := hel i (by omega)
      rw [cells25] at h1
      obtain ⟨_, hlen, hcell⟩ := World.cells?_some h1
      obtain ⟨y0, y1, y2, fu2, _, _, t0, t1, t2⟩ := Go.Deep.trod_struct3 Try.underlying25 h2
      match cs', hlen with
      | [v0, v1, v2], _ =>
        simp only [cells9, cells2, List.drop_zero, List.drop_succ_cons, List.take_succ_cons, List.take_zero] at t0 t1 t2
        obtain ⟨s0, e0, _, b0⟩ := DataW.trod_string Try.underlying9 t0
        obtain ⟨s1, e1, _, b1⟩ := DataW.trod_string Try.underlying9 t1
        obtain ⟨c2, e2, _, _⟩ := DataW.trod_int Try.underlying2 t2
        simp only [List.cons.injEq, and_true] at e0 e1 e2
        subst e0 e1 e2
        have c0' := hcell 0 (by omega)
        have c1' := hcell 1 (by omega)
        have c2' := hcell 2 (by omega)
        refine ⟨(s0, s1, c2), ⟨?_, c1', c2'⟩, (by omega : s0.size ≤ 9223372036854775807), (by omega : s1.size ≤ 9223372036854775807)⟩
        have : (a.add (i * 3)).add 0 = a.add (i * 3) := by simp [Addr.add]
        rw [this] at c0'; exact c0'
    obtain ⟨f, hf⟩ := Go.Deep.choose_lt key
    refine ⟨fun i => (f i).1, fun i => (f i).2.1, fun i => (f i).2.2, ⟨fun h0 => ?_, fun i hi => (hf i hi).2.1, fun i hi => (hf i hi).2.2⟩⟩
    obtain ⟨b, off, spot⟩ := a
    have hspot : spot = none := by simpa [Addr.add] using World.cell?_spot (hf 0 h0).1.1
    subst hspot
    have c00 := (hf 0 h0).1.1
    refine ⟨b, off, rfl, ?_, fun i hi => ?_⟩
    · have := block_lt_of_cell c00
      simpa [Addr.add] using this
    · obtain ⟨⟨h1, h2, h3⟩, _⟩ := hf i hi
      rw [Go.WideShapes.add_plain] at h1
      rw [Go.WideShapes.add_plain, Go.WideShapes.add_plain] at h2 h3
      exact ⟨h1, h2, h3⟩
end Go.Proofs.Qxb6626077a
