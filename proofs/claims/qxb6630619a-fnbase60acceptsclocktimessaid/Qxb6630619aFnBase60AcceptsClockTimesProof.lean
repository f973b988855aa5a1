/- The proof of the clock times' statement: the walk by contracts, the plain law, the row's frame. -/
import Derived.Test.Qxb6630619aRows
import Derived.Test.Qxb6630619aWalkB
import Derived.Test.Qxb6630619aPlainC
import Derived.Deep.RegionWith
import Derived.WalkKit
import Derived.ProofKit
import Derived.OpenShut
import Derived.ShutString
namespace Go.Proofs.Qxb6630619a.fnBase60AcceptsClockTimes
open Go.ChangeShapes Go.WideShapes Go.ChangeAt Go.RowKit
open Go.ChangeMaps (open_string shut_string)
set_option linter.unusedVariables false      -- a walk need not use every 'w<i>' (that an integer argument fits its kind)

theorem grown_trans {a b c : World} (h : Grown a b) (h' : Grown b c) : Grown a c :=
  ⟨World.keptBut_trans h.1 h'.1, fun x => (h'.2.1 x).trans (h.2.1 x), Nat.le_trans h.2.2 h'.2.2⟩

theorem own : ownKnob Try.prog.godebug = none := by kernel_rfl

theorem walk (a0 : Int) (a1 : Int) (a2 : Int) (a3 : Bool) (w0 : (Lit.int .i64 a0).wf = true) (w1 : (Lit.int .i64 a1).wf = true) (w2 : (Lit.int .i64 a2).wf = true) (w : World) :
    Calls Try.prog 4 #[.int .i64 a0, .int .i64 a1, .int .i64 a2, .bool a3] w fun e w' => e = .returned (.bool true) ∧ Grown w w' := by
  have b0 : -9223372036854775808 ≤ a0 ∧ a0 ≤ 9223372036854775807 := bounds_i64 w0
  have b1 : -9223372036854775808 ≤ a1 ∧ a1 ≤ 9223372036854775807 := bounds_i64 w1
  have b2 : -9223372036854775808 ≤ a2 ∧ a2 ≤ 9223372036854775807 := bounds_i64 w2
  have l0 := itoa_length a0
  have l1 := fld_length a1 a3
  have l2 := fld_length a2 a3
  obtain ⟨B, hB⟩ : ∃ B, B = (decide (0 ≤ a1 ∧ a1 ≤ 59) && decide (0 ≤ a2 ∧ a2 ≤ 59)) := ⟨_, rfl⟩
  have HB := hide hB
  clear hB w0 w1 w2
  go_enter Try.func4, Try.ntmps4
  go_upto_region 2 with (first | (go_at_call 8; refine (itoa_any _ _ b0.1 b0.2).mono ?_; rintro e w1 ⟨rfl, hg1⟩) | (go_at_call_of 9 (Value.int .i64 a1); refine (field_any a1 a3 _ b1.1 b1.2).mono ?_; rintro e w2 ⟨rfl, hg2⟩) | (go_at_call 9; refine (field_any a2 a3 _ b2.1 b2.2).mono ?_; rintro e w3 ⟨rfl, hg3⟩))
  obtain ⟨S, hS⟩ : ∃ S : ByteArray, S = (({ data := (itoa a0).toArray } ++ { data := #[58] } ++ { data := (fld a1 a3).toArray } ++ { data := #[58] } ++ { data := (fld a2 a3).toArray }) : ByteArray) := ⟨_, rfl⟩
  have hsz : S.size ≤ 2000000 := by rw [hS]; simp [ByteArray.size]; omega
  have HD : Hid (b60 S.data.toList = B) := by
    show b60 S.data.toList = B
    rw [HB.out, ← clock a0 a1 a2 a3, hS]
    simp [ByteArray.data_append]
  have HS := hide hS
  clear hS l0 l1 l2 b0 b1 b2
  go_cut [9, 10] (fun v9 v w' => v9 = .string S ∧ v = .bool B ∧ w3 = w')
  case first =>
    by_cases c1 : 0 ≤ a1
    · by_cases c2 : a1 ≤ 59
      · by_cases c3 : 0 ≤ a2
        · by_cases c4 : a2 ≤ 59
          · go_wp2_with fail
            go_meet
            case rel => exact ⟨by rw [HS.out], by rw [HB.out]; simp [c1, c2, c3, c4], rfl⟩
          · go_wp2_with fail
            go_meet
            case rel => exact ⟨by rw [HS.out], by rw [HB.out]; simp; omega, rfl⟩
        · go_wp2_with fail
          go_meet
          case rel => exact ⟨by rw [HS.out], by rw [HB.out]; simp; omega, rfl⟩
      · go_wp2_with fail
        go_meet
        case rel => exact ⟨by rw [HS.out], by rw [HB.out]; simp; omega, rfl⟩
    · go_wp2_with fail
      go_meet
      case rel => exact ⟨by rw [HS.out], by rw [HB.out]; simp; omega, rfl⟩
  case rest =>
    obtain ⟨rfl, rfl, rfl⟩ := hcut
    clear HS HB
    go_wp2_with (go_at_call 6; refine (zzbase60_any _ _ hsz).mono ?_; rintro e w' ⟨rfl, rfl⟩)
    go_ret
    exact ⟨ret_bool (by rw [HD.out]; simp), grown_trans hg1 (grown_trans hg2 hg3)⟩

set_option maxRecDepth 100000 in
theorem lifted (os : Os) (started : os.Started) (H : Type) (enc : TypeId × Value → H) :
    ReturnsInHanded {} Try.checked os 4 .any (Rows.fnBase60AcceptsClockTimesSpec.pre6 enc Try.prog Try.f4 Rows.fnBase60AcceptsClockTimesRow.domain false) (Rows.fnBase60AcceptsClockTimesSpec.post enc Try.prog Try.f4 false true false false) := by
  refine returnsInHanded_of_change (C := Try.checked) own started (by kernel_rfl) Try.func4
    (ChangeSpec.witness6 (enc := enc) (C := Try.checked) false ⟨#[], #[.int .i64 0, .int .i64 0, .int .i64 0, .bool false], []⟩ 8 (by kernel_rfl) (by kernel_rfl) (by kernel_rfl) (by kernel_rfl)) ?_
  intro W base args ds gs before hval0 hW hcnd _
  have hval : ∀ (j : Nat) t v, Try.f4.params[j]? = some t → args[j]? = some v → Value.okWide Try.prog W .any base t v := hval0
  have hW' := hW
  obtain ⟨p, q, hA0, hV, rfl, hfz, hnd⟩ := hW
  have hA : DataW.TrodAll enc Try.prog W 0 (fun _ => true) true Try.f4.params.toList args.toList ds p := hA0
  rw [Try.params4] at hA hval
  obtain ⟨v0, vs0, d0, ds0, p0, q0, hargs, rfl, rfl, h0, r0⟩ := trodAll_cons hA
  obtain ⟨v1, vs1, d1, ds1, p1, q1, rfl, rfl, rfl, h1, r1⟩ := trodAll_cons r0
  obtain ⟨v2, vs2, d2, ds2, p2, q2, rfl, rfl, rfl, h2, r2⟩ := trodAll_cons r1
  obtain ⟨v3, vs3, d3, ds3, p3, q3, rfl, rfl, rfl, h3, r3⟩ := trodAll_cons r2
  obtain ⟨rfl, rfl, rfl⟩ := trodAll_nil r3
  obtain rfl : args = #[v0, v1, v2, v3] := by cases args; simp_all
  obtain ⟨rfl, rfl⟩ := trodVars_none hV
  obtain ⟨a0, rfl, rfl, rfl, w0⟩ := open_int Try.underlying2 (hval 0 2 v0 rfl rfl) h0
  obtain ⟨a1, rfl, rfl, rfl, w1⟩ := open_int Try.underlying2 (hval 1 2 v1 rfl rfl) h1
  obtain ⟨a2, rfl, rfl, rfl, w2⟩ := open_int Try.underlying2 (hval 2 2 v2 rfl rfl) h2
  obtain ⟨a3, rfl, rfl, rfl⟩ := open_bool Try.underlying4 (hval 3 4 v3 rfl rfl) h3
  clear hA0 hval0
  simp only [List.append_nil] at hW'
  refine (walk a0 a1 a2 a3 w0 w1 w2 W).mono fun e W' ⟨he, hg⟩ => ?_
  subst he
  exact ⟨_, rfl, post_of_same (pa := []) (pv := []) hW' (fun _ _ _ => (trodAll_cons_mk (shut_bool Try.underlying4 _) trodAll_mk0)) (fun sp _ => (trodAll_cons_mk (shut_int Try.underlying2 w0) (trodAll_cons_mk (shut_int Try.underlying2 w1) (trodAll_cons_mk (shut_int Try.underlying2 w2) (trodAll_cons_mk (shut_bool Try.underlying4 _) trodAll_mk0))))) (fun _ _ => rfl) rfl
    (hg.frame _) hg.2.1 (ok_one (by kernel_rfl) rfl (okWide_bool_mk Try.underlying4 _))⟩

theorem over : Rows.fnBase60AcceptsClockTimesRow.holds Try.pinned (OpenSpec.ofChange Rows.fnBase60AcceptsClockTimesSpec) :=
  OpenClaim.holds_of_wide 4 Try.f4 rfl rfl rfl rfl rfl rfl rfl ⟨rfl, rfl, rfl, rfl, rfl⟩ rfl rfl rfl rfl rfl (by kernel_rfl) Try.func4 (by kernel_rfl)
    (of_decide_eq_true (by kernel_rfl)) (by unfold Func.isWrapper; first | (rw [if_pos (by decide +kernel)]; kernel_rfl) | (rw [if_neg (by decide +kernel)]; exact ⟨rfl, rfl⟩))
    (fun os started H enc _ => lifted os started H enc)

theorem proved : Rows.FnBase60AcceptsClockTimesSaid :=
  over
end Go.Proofs.Qxb6630619a.fnBase60AcceptsClockTimes
