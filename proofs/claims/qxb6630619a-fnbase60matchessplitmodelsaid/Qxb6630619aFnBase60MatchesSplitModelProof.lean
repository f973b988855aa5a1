/- The proof of the split model's statement: the walk by contracts, the plain law, the row's frame. -/
import Derived.Test.Qxb6630619aRows
import Derived.Test.Qxb6630619aWalkA
import Derived.Test.Qxb6630619aWalkD
import Derived.WalkKit
import Derived.ProofKit
import Derived.OpenShut
import Derived.ShutString
namespace Go.Proofs.Qxb6630619a.fnBase60MatchesSplitModel
open Go.ChangeShapes Go.WideShapes Go.ChangeAt Go.RowKit
open Go.ChangeMaps (open_string shut_string)
set_option linter.unusedVariables false      -- a walk need not use every 'w<i>' (that an integer argument fits its kind)

theorem base60w (s : ByteArray) (w : World) (hs : s.size ≤ 2000000) :
    Calls Try.prog 6 #[.string s] w fun e w' => e = .returned (.bool (b60 s.data.toList)) ∧ w = w' := by
  go_enter Try.func6, Try.ntmps6
  go_wp2_with (go_at_call 10; refine (base60_any _ _ hs).mono ?_; rintro e w' ⟨rfl, rfl⟩)
  go_ret
  exact ⟨rfl, rfl⟩

theorem own : ownKnob Try.prog.godebug = none := by kernel_rfl

theorem walk (a0 : ByteArray) (w0 : a0.size ≤ maxLen) (w : World) :
    Calls Try.prog 3 #[.string a0] w fun e w' => e = .returned (.bool true) ∧ Grown w w' := by
  have hs0 := w0
  by_cases hb : a0.size ≤ 1048576
  case neg =>
    have hcon := fun w => Split.bytes_any a0 w hs0
    rw [decide_eq_false hb] at hcon
    go_enter Try.func3, Try.ntmps3
    go_wp2_with (go_at_call 5; refine (hcon _).mono ?_; rintro e w' ⟨rfl, rfl⟩)
    go_ret
    exact ⟨rfl, Grown.refl _⟩
  have hcon := fun w => Split.bytes_any a0 w hs0
  rw [decide_eq_true hb] at hcon
  obtain ⟨R, hR⟩ : ∃ R, R = b60 a0.data.toList := ⟨_, rfl⟩
  have h1 := fun w => base60w a0 w (by omega)
  have h2 := fun w => Split.split_any a0 w (by omega)
  rw [← b60_sm, ← hR] at h2
  rw [← hR] at h1
  clear hR hs0 w0
  go_enter Try.func3, Try.ntmps3
  go_wp2_with (first | (go_at_call 5; refine (hcon _).mono ?_; rintro e w' ⟨rfl, rfl⟩) | (go_at_call 6; refine (h1 _).mono ?_; rintro e w' ⟨rfl, rfl⟩) | (go_at_call 7; refine (h2 _).mono ?_; rintro e w' ⟨rfl, rfl⟩))
  go_ret
  exact ⟨ret_bool (by simp), Grown.refl _⟩

set_option maxRecDepth 100000 in
theorem lifted (os : Os) (started : os.Started) (H : Type) (enc : TypeId × Value → H) :
    ReturnsInHanded {} Try.checked os 3 .any (Rows.fnBase60MatchesSplitModelSpec.pre6 enc Try.prog Try.f3 Rows.fnBase60MatchesSplitModelRow.domain false) (Rows.fnBase60MatchesSplitModelSpec.post enc Try.prog Try.f3 false true false false) := by
  refine returnsInHanded_of_change (C := Try.checked) own started (by kernel_rfl) Try.func3
    (ChangeSpec.witness6 (enc := enc) (C := Try.checked) false ⟨#[], #[.string ByteArray.empty], []⟩ 8 (by kernel_rfl) (by kernel_rfl) (by kernel_rfl) (by kernel_rfl)) ?_
  intro W base args ds gs before hval0 hW hcnd _
  have hval : ∀ (j : Nat) t v, Try.f3.params[j]? = some t → args[j]? = some v → Value.okWide Try.prog W .any base t v := hval0
  have hW' := hW
  obtain ⟨p, q, hA0, hV, rfl, hfz, hnd⟩ := hW
  have hA : DataW.TrodAll enc Try.prog W 0 (fun _ => true) true Try.f3.params.toList args.toList ds p := hA0
  rw [Try.params3] at hA hval
  obtain ⟨v0, vs0, d0, ds0, p0, q0, hargs, rfl, rfl, h0, r0⟩ := trodAll_cons hA
  obtain ⟨rfl, rfl, rfl⟩ := trodAll_nil r0
  obtain rfl : args = #[v0] := by cases args; simp_all
  obtain ⟨rfl, rfl⟩ := trodVars_none hV
  obtain ⟨a0, rfl, rfl, rfl, w0⟩ := open_string Try.underlying9 (hval 0 9 v0 rfl rfl) h0
  clear hA0 hval0
  simp only [List.append_nil] at hW'
  refine (walk a0 w0 W).mono fun e W' ⟨he, hg⟩ => ?_
  subst he
  exact ⟨_, rfl, post_of_same (pa := []) (pv := []) hW' (fun _ _ _ => (trodAll_cons_mk (shut_bool Try.underlying4 _) trodAll_mk0)) (fun sp _ => (trodAll_cons_mk (shut_string Try.underlying9 w0) trodAll_mk0)) (fun _ _ => rfl) rfl
    (hg.frame _) hg.2.1 (ok_one (by kernel_rfl) rfl (okWide_bool_mk Try.underlying4 _))⟩

theorem over : Rows.fnBase60MatchesSplitModelRow.holds Try.pinned (OpenSpec.ofChange Rows.fnBase60MatchesSplitModelSpec) :=
  OpenClaim.holds_of_wide 3 Try.f3 rfl rfl rfl rfl rfl rfl rfl ⟨rfl, rfl, rfl, rfl, rfl⟩ rfl rfl rfl rfl rfl (by kernel_rfl) Try.func3 (by kernel_rfl)
    (of_decide_eq_true (by kernel_rfl)) (by unfold Func.isWrapper; first | (rw [if_pos (by decide +kernel)]; kernel_rfl) | (rw [if_neg (by decide +kernel)]; exact ⟨rfl, rfl⟩))
    (fun os started H enc _ => lifted os started H enc)

theorem proved : Rows.FnBase60MatchesSplitModelSaid :=
  over
end Go.Proofs.Qxb6630619a.fnBase60MatchesSplitModel
