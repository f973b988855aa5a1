/- The proof of the added sign's statement: the walk by contracts, the row's frame. -/
import Derived.Test.Qxb6625998aRows
import Derived.Test.Qxb6625998aWalkA
import Derived.WalkKit
import Derived.ProofKit
import Derived.OpenShut
import Derived.ShutString
namespace Go.Proofs.Qxb6625998a.fnCutSignTakesOffAnAddedSign
open Go.ChangeShapes Go.WideShapes Go.ChangeAt Go.RowKit
open Go.ChangeMaps (open_string shut_string)
set_option linter.unusedVariables false      -- a walk need not use every 'w<i>' (that an integer argument fits its kind)

theorem own : ownKnob Try.prog.godebug = none := by kernel_rfl

set_option maxRecDepth 100000 in
set_option maxHeartbeats 400000 in
theorem walk (a0 : ByteArray) (a1 : Bool) (w0 : a0.size ≤ maxLen) (w : World) :
    Calls Try.prog 4 #[.string a0, .bool a1] w fun e w' => e = .returned (.bool true) ∧ Grown w w' := by
  by_cases hb : a0.size ≤ 1048576
  case neg =>
    have hcon := fun w => bytes1_any a0 a1 w w0
    rw [decide_eq_false hb] at hcon
    go_enter Try.func4, Try.ntmps4
    go_wp2_with (go_at_call 8; refine (hcon _).mono ?_; rintro e w' ⟨rfl, rfl⟩)
    go_ret
    exact ⟨rfl, Grown.refl _⟩
  have hcon := fun w => bytes1_any a0 a1 w w0
  rw [decide_eq_true hb] at hcon
  clear w0
  have c2 := fun w => zzcut_any a0 w
  have hA := cutA_size a0
  have hB := cutB_size a0
  have HAB := hide (cutAB a0)
  generalize cutA a0 = A at c2 hA HAB
  generalize cutB a0 = B at c2 hB HAB
  have hq : ((A ++ B).toList == a0.toList) = true := by rw [HAB.out]; simp
  cases a1 with
  | false =>
    have c1 := fun w => zzcut_any (⟨#[43]⟩ ++ a0) w
    rw [(cutA_plus a0).1, (cutA_plus a0).2] at c1
    have c3 := fun w => zzcut_any (⟨#[43]⟩ ++ B) w
    rw [(cutA_plus B).1, (cutA_plus B).2] at c3
    go_enter Try.func4, Try.ntmps4
    go_wp2_with (go_at_call 8; refine (hcon _).mono ?_; rintro e w' ⟨rfl, rfl⟩)
    refine (c1 _).mono ?_
    rintro e w1 ⟨rfl, n1, rfl⟩
    go_wp2_with fail
    refine (c2 _).mono ?_
    rintro e w2 ⟨rfl, n2, rfl⟩
    go_wp2_with fail
    refine (c3 _).mono ?_
    rintro e w3 ⟨rfl, n3, rfl⟩
    clear c1 c2 c3
    go_wp2_with fail
    go_ret
    exact ⟨ret_bool (by simp), Grown.refl w⟩
  | true =>
    have c1 := fun w => zzcut_any (⟨#[45]⟩ ++ a0) w
    rw [(cutA_minus a0).1, (cutA_minus a0).2] at c1
    have c3 := fun w => zzcut_any (⟨#[45]⟩ ++ B) w
    rw [(cutA_minus B).1, (cutA_minus B).2] at c3
    go_enter Try.func4, Try.ntmps4
    go_wp2_with (go_at_call 8; refine (hcon _).mono ?_; rintro e w' ⟨rfl, rfl⟩)
    refine (c1 _).mono ?_
    rintro e w1 ⟨rfl, n1, rfl⟩
    go_wp2_with fail
    refine (c2 _).mono ?_
    rintro e w2 ⟨rfl, n2, rfl⟩
    go_wp2_with fail
    refine (c3 _).mono ?_
    rintro e w3 ⟨rfl, n3, rfl⟩
    clear c1 c2 c3
    go_wp2_with fail
    go_ret
    exact ⟨ret_bool (by simp), Grown.refl w⟩

set_option maxRecDepth 100000 in
theorem lifted (os : Os) (started : os.Started) (H : Type) (enc : TypeId × Value → H) :
    ReturnsInHanded {} Try.checked os 4 .any (Rows.fnCutSignTakesOffAnAddedSignSpec.pre6 enc Try.prog Try.f4 Rows.fnCutSignTakesOffAnAddedSignRow.domain false) (Rows.fnCutSignTakesOffAnAddedSignSpec.post enc Try.prog Try.f4 false true false false) := by
  refine returnsInHanded_of_change (C := Try.checked) own started (by kernel_rfl) Try.func4
    (ChangeSpec.witness6 (enc := enc) (C := Try.checked) false ⟨#[], #[.string ByteArray.empty, .bool false], []⟩ 8 (by kernel_rfl) (by kernel_rfl) (by kernel_rfl) (by kernel_rfl)) ?_
  intro W base args ds gs before hval0 hW hcnd _
  have hval : ∀ (j : Nat) t v, Try.f4.params[j]? = some t → args[j]? = some v → Value.okWide Try.prog W .any base t v := hval0
  have hW' := hW
  obtain ⟨p, q, hA0, hV, rfl, hfz, hnd⟩ := hW
  have hA : DataW.TrodAll enc Try.prog W 0 (fun _ => true) true Try.f4.params.toList args.toList ds p := hA0
  rw [Try.params4] at hA hval
  obtain ⟨v0, vs0, d0, ds0, p0, q0, hargs, rfl, rfl, h0, r0⟩ := trodAll_cons hA
  obtain ⟨v1, vs1, d1, ds1, p1, q1, rfl, rfl, rfl, h1, r1⟩ := trodAll_cons r0
  obtain ⟨rfl, rfl, rfl⟩ := trodAll_nil r1
  obtain rfl : args = #[v0, v1] := by cases args; simp_all
  obtain ⟨rfl, rfl⟩ := trodVars_none hV
  obtain ⟨a0, rfl, rfl, rfl, w0⟩ := open_string Try.underlying9 (hval 0 9 v0 rfl rfl) h0
  obtain ⟨a1, rfl, rfl, rfl⟩ := open_bool Try.underlying4 (hval 1 4 v1 rfl rfl) h1
  clear hA0 hval0
  simp only [List.append_nil] at hW'
  refine (walk a0 a1 w0 W).mono fun e W' ⟨he, hg⟩ => ?_
  subst he
  exact ⟨_, rfl, post_of_same (pa := []) (pv := []) hW' (fun _ _ _ => (trodAll_cons_mk (shut_bool Try.underlying4 _) trodAll_mk0)) (fun sp _ => (trodAll_cons_mk (shut_string Try.underlying9 w0) (trodAll_cons_mk (shut_bool Try.underlying4 _) trodAll_mk0))) (fun _ _ => rfl) rfl
    (hg.frame _) hg.2.1 (ok_one (by kernel_rfl) rfl (okWide_bool_mk Try.underlying4 _))⟩

theorem over : Rows.fnCutSignTakesOffAnAddedSignRow.holds Try.pinned (OpenSpec.ofChange Rows.fnCutSignTakesOffAnAddedSignSpec) :=
  OpenClaim.holds_of_wide 4 Try.f4 rfl rfl rfl rfl rfl rfl rfl ⟨rfl, rfl, rfl, rfl, rfl⟩ rfl rfl rfl rfl rfl (by kernel_rfl) Try.func4 (by kernel_rfl)
    (of_decide_eq_true (by kernel_rfl)) (by unfold Func.isWrapper; first | (rw [if_pos (by decide +kernel)]; kernel_rfl) | (rw [if_neg (by decide +kernel)]; exact ⟨rfl, rfl⟩))
    (fun os started H enc _ => lifted os started H enc)

theorem proved : Rows.FnCutSignTakesOffAnAddedSignSaid :=
  over
end Go.Proofs.Qxb6625998a.fnCutSignTakesOffAnAddedSign
