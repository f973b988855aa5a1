import Derived.Test.Qxb6625787aRows
import Derived.Test.Qxb6625787aPlain
import Derived.WalkKit
import Derived.WalkSpells
import Derived.WalkLawsBesides
import Derived.Deep.DeepCutAuto
import Derived.Deep.CutBlock
import Derived.Deep.OwnRows
import Derived.BigQuiet
namespace Go.Proofs.Qxb6625787a
open Go.RowKit

theorem hide {p : Prop} (h : p) : Hid p := h
theorem ret_bool {a b : Bool} (h : a = b) : Ending.returned (.bool a) = .returned (.bool b) := by rw [h]

theorem isSpace_any (n : Int) (w : World) :
    Calls Try.prog 10 #[.int .u8 n] w fun e w' => e = .returned (.bool (sp n)) ∧ w = w' := by
  by_cases h1 : n = 32
  · subst h1
    go_enter Try.func10, Try.ntmps10
    go_wp2
    go_ret
    exact ⟨rfl, rfl⟩
  by_cases h2 : n = 9
  · subst h2
    go_enter Try.func10, Try.ntmps10
    go_wp2
    go_ret
    exact ⟨rfl, rfl⟩
  by_cases h3 : n = 10
  · subst h3
    go_enter Try.func10, Try.ntmps10
    go_wp2
    go_ret
    exact ⟨rfl, rfl⟩
  have q1 : (n == 32) = false := by simpa using h1
  have q2 : (n == 9) = false := by simpa using h2
  have q3 : (n == 10) = false := by simpa using h3
  go_enter Try.func10, Try.ntmps10
  go_wp2
  go_ret
  exact ⟨ret_bool (by rw [sp, q1, q2, q3]; rfl), rfl⟩

set_option maxRecDepth 100000 in
set_option maxHeartbeats 1000000 in
theorem known_any (c : Int) (w : World) :
    Calls Try.prog 9 #[.string (nm c)] w fun e w' => e = .returned (.bool true) ∧ w = w' := by
  rcases nm_seven c with h | h | h | h | h | h | h
  all_goals
    rw [h]
    clear h
    go_enter Try.func9, Try.ntmps9
    go_wp2
    go_ret
    exact ⟨rfl, rfl⟩

theorem bytes_any (a : Option Addr) (len cap : Nat) (k : Int) (w : World) (hs : len ≤ maxLen) :
    Calls Try.prog 4 #[.slice a len cap, .int .i64 k] w fun e w' => e = .returned (.bool (decide (len ≤ 1048576))) ∧ w = w' := by
  unfold maxLen at hs
  by_cases h : len ≤ 1048576
  · rw [decide_eq_true h]
    go_enter Try.func4, Try.ntmps4
    go_wp2_with fail
    go_ret
    exact ⟨rfl, rfl⟩
  · rw [decide_eq_false h]
    go_enter Try.func4, Try.ntmps4
    go_wp2_with fail
    go_ret
    exact ⟨rfl, rfl⟩

theorem info5 : (Try.prog.info? 5).map (fun i => (i.zero, i.size, i.bytes)) = some (some (.int .u8 0), 1, 1) := by kernel_rfl

theorem eq_nil (w : World) (a : Option Addr) (n c : Nat) : (binOp .eql 22 (.slice a n c) (.slice none 0 0)).run Try.prog w = .ok (.bool a.isNone) w :=
  Lib.run_eql_slice_nil w _ _ a n c 0 0 Try.underlying22

theorem copy_nil (w : World) :
    Calls Try.prog 5 #[.slice none 0 0] w fun e w' => e = .returned (.slice none 0 0) ∧ w = w' := by
  have hq := fun w => eq_nil w none 0 0
  go_enter Try.func5, Try.ntmps5
  go_wp2_with fail
  go_ret
  exact ⟨rfl, rfl⟩

set_option maxRecDepth 100000 in
theorem copy_empty (x : Addr) (cap : Nat) (w : World) :
    Calls Try.prog 5 #[.slice (some x) 0 cap] w fun e w' => e = .returned (.slice (some ⟨w.heap.size, 0, none⟩) 0 0) ∧ Below w.heap.size w w' ∧ w'.heap.size = w.heap.size + 1 := by
  have hmk : ∀ w, (Instr.makeSlice 22 (.int .i64 0) (.int .i64 0)).run Try.prog w = .ok (.slice (some ⟨w.heap.size, 0, none⟩) 0 0) (w.alloc (.cells (madeCells #[.int .u8 0] 0) 5)) := run_make_row' (P := Try.prog) 22 5 (.int .u8 0) 1 Try.underlying22 info5 rfl .i64 .i64 0 (by omega) (by omega)
  have hq := fun w => eq_nil w (some x) 0 cap
  go_enter Try.func5, Try.ntmps5
  go_wp2_with fail
  go_loop [4] (fun i => i = .int .i64 0) (fun _ => 0)
  case atStart => rfl
  case round =>
    subst hrel
    go_wp2_with fail
    go_ret
    exact ⟨rfl, (Below.refl _ _).alloc (Nat.le_refl _) _, by simp⟩

/-- The copy's cells: the first k are laid. -/
def Copied (f : Nat → Int) (k len : Nat) (c : Array Value) : Prop := c.size = len ∧ ∀ j, j < k → c[j]? = some (.int .u8 (f j))
theorem copied_zero (f : Nat → Int) (len : Nat) (z : Value) : Copied f 0 len (madeCells #[z] len) := ⟨by simp [madeCells], fun j h => absurd h (by omega)⟩
theorem copied_step {f : Nat → Int} {k len : Nat} {c : Array Value} (h : k < len) (H : Copied f k len c) : Copied f (k + 1) len (c.setIfInBounds k (.int .u8 (f k))) := by
  refine ⟨by simpa using H.1, fun j hj => ?_⟩
  rw [Array.getElem?_setIfInBounds]
  by_cases e : k = j
  · rw [if_pos e, if_pos (by have := H.1; omega), e]
  · rw [if_neg e]; exact H.2 j (by omega)

set_option maxRecDepth 100000 in
set_option maxHeartbeats 400000 in
theorem copy_some (b o len cap : Nat) (f : Nat → Int) (w : World) (hlen : len ≤ 1048576) (hb : b < w.heap.size) (hc : ∀ j, j < len → w.cell? ⟨b, o + j, none⟩ = some (.int .u8 (f j))) :
    Calls Try.prog 5 #[.slice (some ⟨b, o, none⟩) len cap] w fun e w' => e = .returned (.slice (some ⟨w.heap.size, 0, none⟩) len len) ∧ Below w.heap.size w w' ∧ w'.heap.size = w.heap.size + 1 ∧ ∀ j, j < len → w'.cell? ⟨w.heap.size, j, none⟩ = some (.int .u8 (f j)) := by
  have hmk := run_make_row' (P := Try.prog) 22 5 (.int .u8 0) 1 Try.underlying22 info5 rfl .i64 .i64 len (by omega) (by omega)
  have hq := fun w => eq_nil w (some ⟨b, o, none⟩) len cap
  have HC := hide hc
  clear hc
  go_enter Try.func5, Try.ntmps5
  go_wp2_with fail
  go_loopw [4] (fun i w' => ∃ (k : Nat) (c : Array Value), k ≤ len ∧ i = .int .i64 k ∧ Copied f k len c ∧ w' = w.alloc (.cells c 5)) (fun i _ => len - (intOf i).toNat)
  case atStart => exact ⟨0, _, by omega, rfl, copied_zero f len _, rfl⟩
  case round =>
    obtain ⟨k, c, hk, rfl, HK, rfl⟩ := hrel
    clear hmk hq
    by_cases hlt : k < len
    · have hcell := HC.out k hlt
      obtain ⟨x, hx⟩ : ∃ x, c[k]? = some x := ⟨_, Array.getElem?_eq_getElem (show k < c.size by have := HK.1; omega)⟩
      go_wp2_with fail
      go_roundw
      case rel => exact ⟨k + 1, _, by omega, by go_num, copied_step hlt HK, rfl⟩
      case measure => simp [intOf]; omega
    · go_wp2_with fail
      go_ret
      exact ⟨rfl, (Below.refl _ _).alloc (Nat.le_refl _) _, by simp, fun j hj => by rw [World.cell?_alloc_at _ _ _ _ rfl]; exact HK.2 j (by omega)⟩
end Go.Proofs.Qxb6625787a
