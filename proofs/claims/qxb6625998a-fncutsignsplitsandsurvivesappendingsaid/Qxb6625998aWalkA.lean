import Derived.Test.Qxb6625998aRows
import Derived.Test.Qxb6625998aPlain
import Derived.WalkKit
import Derived.WalkSpells
import Derived.WalkLawsBesides
import Derived.Deep.DeepCutAuto
import Derived.BigQuiet
namespace Go.Proofs.Qxb6625998a
open Go.RowKit

theorem hide {p : Prop} (h : p) : Hid p := h
theorem ret_bool {a b : Bool} (h : a = b) : Ending.returned (.bool a) = .returned (.bool b) := by rw [h]

set_option maxRecDepth 100000 in
theorem cut_any (s : ByteArray) (w : World) :
    Calls Try.prog 9 #[.string s] w fun e w' => e = .returned (.tuple #[.string (cutA s), .string (cutB s)]) ∧ ∃ n, w' = w.drewN n := by
  by_cases h0 : 0 < s.size
  case neg =>
    have he := isEmpty_yes s h0
    obtain ⟨hA, hB⟩ := cut_empty s h0
    rw [hA, hB]
    clear hA hB
    go_enter Try.func9, Try.ntmps9
    go_wp2_with fail
    go_ret2
    exact ⟨rfl, 0, rfl⟩
  have he := isEmpty_no s h0
  by_cases hc : (s[0].toNat : Int) = 43 ∨ (s[0].toNat : Int) = 45
  · obtain ⟨hA, hB⟩ := cut_sign s h0 hc
    rw [hA, hB]
    clear hA hB
    rcases hc with hc | hc
    · go_enter Try.func9, Try.ntmps9
      go_wp2_with fail
      go_quiet (fail)
      go_wp2_with fail
      go_ret2
      exact ⟨rfl, _, rfl⟩
    · go_enter Try.func9, Try.ntmps9
      go_wp2_with fail
      go_quiet (fail)
      go_wp2_with fail
      go_ret2
      exact ⟨rfl, _, rfl⟩
  · obtain ⟨hA, hB⟩ := cut_plain s h0 hc
    rw [hA, hB]
    have h43 : ((s[0].toNat : Int) == 43) = false := by simp; omega
    have h45 : ((s[0].toNat : Int) == 45) = false := by simp; omega
    clear hA hB hc
    go_enter Try.func9, Try.ntmps9
    go_wp2_with fail
    go_ret2
    exact ⟨rfl, 0, rfl⟩

theorem zzcut_any (s : ByteArray) (w : World) :
    Calls Try.prog 6 #[.string s] w fun e w' => e = .returned (.tuple #[.string (cutA s), .string (cutB s)]) ∧ ∃ n, w' = w.drewN n := by
  have hcon := cut_any s w
  generalize cutA s = A at hcon ⊢
  generalize cutB s = B at hcon ⊢
  go_enter Try.func6, Try.ntmps6
  go_wp2_with (go_at_call 9; refine hcon.mono ?_; rintro e w1 ⟨rfl, n, rfl⟩)
  go_ret2
  exact ⟨rfl, n, rfl⟩

theorem bytes1_any (s : ByteArray) (b : Bool) (w : World) (hs : s.size ≤ maxLen) :
    Calls Try.prog 8 #[.string s, .bool b] w fun e w' => e = .returned (.bool (decide (s.size ≤ 1048576))) ∧ w = w' := by
  unfold maxLen at hs
  by_cases h : s.size ≤ 1048576
  · rw [decide_eq_true h]
    go_enter Try.func8, Try.ntmps8
    go_wp2_with fail
    go_ret
    exact ⟨rfl, rfl⟩
  · rw [decide_eq_false h]
    go_enter Try.func8, Try.ntmps8
    go_wp2_with fail
    go_ret
    exact ⟨rfl, rfl⟩

theorem bytes2_any (s t : ByteArray) (w : World) (hs : s.size ≤ maxLen) (ht : t.size ≤ maxLen) :
    Calls Try.prog 5 #[.string s, .string t] w fun e w' => e = .returned (.bool (decide (s.size + t.size ≤ 1048576))) ∧ w = w' := by
  unfold maxLen at hs ht
  by_cases h : s.size + t.size ≤ 1048576
  · rw [decide_eq_true h]
    go_enter Try.func5, Try.ntmps5
    go_wp2_with fail
    go_ret
    exact ⟨rfl, rfl⟩
  · rw [decide_eq_false h]
    go_enter Try.func5, Try.ntmps5
    go_wp2_with fail
    all_goals
      go_ret
      exact ⟨rfl, rfl⟩
end Go.Proofs.Qxb6625998a
