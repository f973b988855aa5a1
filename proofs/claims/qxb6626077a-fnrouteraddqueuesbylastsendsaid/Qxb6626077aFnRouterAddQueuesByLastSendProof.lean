/- The proof of the router's first statement: the walk by contracts, the row's frame. -/
import Derived.Test.Qxb6626077aRows
import Derived.Test.Qxb6626077aWalkH
import Derived.Test.Qxb6626077aOpens
import Derived.WalkKit
import Derived.ProofKit
import Derived.OpenShut
import Derived.ShutString
import Derived.ChangeOld
import Derived.Below
namespace Go.Proofs.Qxb6626077a.fnRouterAddQueuesByLastSend
open Go.ChangeShapes Go.WideShapes Go.ChangeAt Go.RowKit
open Go.ChangeMaps (open_string shut_string)
set_option linter.unusedVariables false

theorem own : ownKnob Try.prog.godebug = none := by kernel_rfl
theorem laidOut : laidOutB Try.prog = true := by kernel_rfl

/-- The keys of both slices, one behind the other. -/
def joined (n : Nat) (kp kq : Nat → ByteArray) (i : Nat) : ByteArray := if i < n then kp i else kq (i - n)
theorem joined_left {w : World} {A : Option Addr} {n : Nat} {kp os : Nat → ByteArray} {cs : Nat → Int} (kq : Nat → ByteArray) (h : Sends w A n kp os cs) : Sends w A n (joined n kp kq) os cs := by
  have e : ∀ i, i < n → joined n kp kq i = kp i := fun i hi => if_pos hi
  refine ⟨fun h0 => ?_, fun i hi => by rw [e i hi]; exact h.kbd i hi, h.obd⟩
  obtain ⟨sb, so, h1, h2, h3⟩ := h.addr h0
  exact ⟨sb, so, h1, h2, fun i hi => by rw [e i hi]; exact h3 i hi⟩
theorem joined_right {w : World} {A : Option Addr} {n n2 : Nat} {kp kq os : Nat → ByteArray} {cs : Nat → Int} (h : Sends w A n2 kq os cs) : Sends w A n2 (fun j => joined n kp kq (n + j)) os cs := by
  have e : (fun j => joined n kp kq (n + j)) = kq := by
    funext j
    have h1 : ¬ n + j < n := by omega
    have h2 : n + j - n = j := by omega
    simp only [joined, if_neg h1, h2]
  rw [e]; exact h

set_option maxRecDepth 100000 in
theorem lifted (os : Os) (started : os.Started) (H : Type) (enc : TypeId × Value → H) :
    ReturnsInHanded {} Try.checked os 3 .any (Rows.fnRouterAddQueuesByLastSendSpec.pre6 enc Try.prog Try.f3 Rows.fnRouterAddQueuesByLastSendRow.domain false) (Rows.fnRouterAddQueuesByLastSendSpec.post enc Try.prog Try.f3 false true false false) := by
  refine returnsInHanded_of_change (C := Try.checked) own started (by kernel_rfl) Try.func3
    (ChangeSpec.witness6 (enc := enc) (C := Try.checked) false ⟨#[], #[.slice none 0 0, .slice none 0 0], []⟩ 8 (by kernel_rfl) (by kernel_rfl) (by kernel_rfl) (by kernel_rfl)) ?_
  intro W base args ds gs before hval0 hW hcnd _
  have hval : ∀ (j : Nat) t v, Try.f3.params[j]? = some t → args[j]? = some v → Value.okWide Try.prog W .any base t v := hval0
  have hW' := hW
  obtain ⟨p, q, hA0, hV, rfl, hfz, hnd⟩ := hW
  have hA : DataW.TrodAll enc Try.prog W 0 (fun _ => true) true Try.f3.params.toList args.toList ds p := hA0
  rw [Try.params3] at hA hval
  obtain ⟨v0, vs0, d0, ds0, p0, q0, hargs, rfl, rfl, h0, r0⟩ := trodAll_cons hA
  obtain ⟨v1, vs1, d1, ds1, p1, q1, rfl, rfl, rfl, h1, r1⟩ := trodAll_cons r0
  obtain ⟨rfl, rfl, rfl⟩ := trodAll_nil r1
  obtain rfl : args = #[v0, v1] := by cases args; simp_all
  obtain ⟨rfl, rfl⟩ := trodVars_none hV
  obtain ⟨a0, len0, cap0, rfl⟩ := okWide_slice Try.underlying22 (hval 0 22 v0 rfl rfl)
  obtain ⟨a1, len1, cap1, rfl⟩ := okWide_slice Try.underlying22 (hval 1 22 v1 rfl rfl)
  have k0 := h0
  have k1 := h1
  have lt0 : ∀ x ∈ p0, x.block < W.heap.size := by obtain ⟨m, hm⟩ := k0; exact DataW.trod_lt m _ _ _ hm
  have lt1 : ∀ x ∈ p1, x.block < W.heap.size := by obtain ⟨m, hm⟩ := k1; exact DataW.trod_lt m _ _ _ hm
  obtain ⟨hn0, ks0, ows0, cs0, w0⟩ : len0 ≤ 9223372036854775807 ∧ ∃ ks os cs, Sends W a0 len0 ks os cs := by
    obtain ⟨fuel, hf⟩ := h0
    exact sends_of_trod hf
  obtain ⟨hn1, ks1, ows1, cs1, w1⟩ : len1 ≤ 9223372036854775807 ∧ ∃ ks os cs, Sends W a1 len1 ks os cs := by
    obtain ⟨fuel, hf⟩ := h1
    exact sends_of_trod hf
  clear hA0 hval0
  refine (law3 a0 a1 len0 cap0 len1 cap1 (joined len0 ks0 ks1) ows0 ows1 cs0 cs1 W (joined_left ks1 w0) (joined_right w1) hn0 hn1).mono fun e W' ⟨he, bel⟩ => ?_
  subst he
  exact ⟨_, rfl, _, _, _, [], _, [], hW', trodAll_mk1 (shut_bool Try.underlying4 _), (trodAll_cons_mk (Below.trod laidOut (by kernel_rfl) (of_decide_eq_true (by kernel_rfl)) k0 bel lt0) (trodAll_cons_mk (Below.trod laidOut (by kernel_rfl) (of_decide_eq_true (by kernel_rfl)) k1 bel lt1) trodAll_mk0)), rfl, bel.frame _, fun h => by cases h⟩

theorem over : Rows.fnRouterAddQueuesByLastSendRow.holds Try.pinned (OpenSpec.ofChange Rows.fnRouterAddQueuesByLastSendSpec) :=
  OpenClaim.holds_of_wide 3 Try.f3 rfl rfl rfl rfl rfl rfl rfl ⟨rfl, rfl, rfl, rfl, rfl⟩ rfl rfl rfl rfl rfl (by kernel_rfl) Try.func3 (by kernel_rfl)
    (of_decide_eq_true (by kernel_rfl)) (by unfold Func.isWrapper; first | (rw [if_pos (by decide +kernel)]; kernel_rfl) | (rw [if_neg (by decide +kernel)]; exact ⟨rfl, rfl⟩))
    (fun os started H enc _ => lifted os started H enc)

theorem proved : Rows.FnRouterAddQueuesByLastSendSaid := over
end Go.Proofs.Qxb6626077a.fnRouterAddQueuesByLastSend
