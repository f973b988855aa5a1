import Derived.Test.Qxb6625998aWalkA
namespace Go.Proofs.Qxb6625998a
open Go.RowKit

theorem isSign_any (n : Int) (w : World) (h1 : (n == 43) = false) (h2 : (n == 45) = false) :
    Calls Try.prog 10 #[.int .u8 n] w fun e w' => e = .returned (.bool false) ∧ w = w' := by
  go_enter Try.func10, Try.ntmps10
  go_wp2
  go_ret
  exact ⟨rfl, rfl⟩

set_option maxRecDepth 100000 in
set_option maxHeartbeats 400000 in
theorem wellcut_any (x : ByteArray) (w : World) (hx : x.size ≤ 2000000) :
    Calls Try.prog 7 #[.string x, .string (cutA x), .string (cutB x)] w fun e w' => e = .returned (.bool true) ∧ w = w' := by
  by_cases h0 : 0 < x.size
  case neg =>
    have he := empty_of x h0
    subst he
    have hA : cutA ByteArray.empty = ⟨#[]⟩ := rfl
    have hB : cutB ByteArray.empty = ⟨#[]⟩ := rfl
    rw [hA, hB]
    clear hA hB
    have hq : ((⟨#[]⟩ : ByteArray) ++ ⟨#[]⟩).toList.isEmpty = true := by rw [ByteArray.toList_eq]; simp
    go_enter Try.func7, Try.ntmps7
    go_wp2_with fail
    go_ret
    exact ⟨rfl, rfl⟩
  have he := isEmpty_no x h0
  have hBs := cutB_size x
  have HAB := hide (cutAB x)
  by_cases hc : (x[0].toNat : Int) = 43 ∨ (x[0].toNat : Int) = 45
  · have hA : cutA x = ⟨#[43]⟩ ∨ cutA x = ⟨#[45]⟩ := by
      rcases cutA_three x with h | h | h
      · exfalso
        have h2 := (cut_sign x h0 hc).1
        rw [h] at h2
        have := congrArg ByteArray.size h2
        simp at this
        omega
      · exact Or.inl h
      · exact Or.inr h
    generalize cutA x = A at HAB hA ⊢
    generalize cutB x = B at HAB hBs ⊢
    have hq : ((A ++ B).toList == x.toList) = true := by rw [HAB.out]; simp
    clear HAB hc
    rcases hA with rfl | rfl
    · go_enter Try.func7, Try.ntmps7
      go_wp2_with fail
      go_ret
      exact ⟨rfl, rfl⟩
    · go_enter Try.func7, Try.ntmps7
      go_wp2_with fail
      go_ret
      exact ⟨rfl, rfl⟩
  · obtain ⟨hA, hB⟩ := cut_plain x h0 hc
    have hA' : cutA x = ⟨#[]⟩ := hA
    have h43 : ((x[0].toNat : Int) == 43) = false := by simp; omega
    have h45 : ((x[0].toNat : Int) == 45) = false := by simp; omega
    rw [hA', hB] at HAB
    have hq : (((⟨#[]⟩ : ByteArray) ++ x).toList == x.toList) = true := by rw [HAB.out]; simp
    rw [hA', hB]
    have hsg := fun w => isSign_any (x[0].toNat : Int) w h43 h45
    clear hA hA' hB HAB hBs hc
    go_enter Try.func7, Try.ntmps7
    go_wp2_with (go_at_call 10; refine (hsg _).mono ?_; rintro e w' ⟨rfl, rfl⟩)
    go_ret
    exact ⟨rfl, rfl⟩
end Go.Proofs.Qxb6625998a
