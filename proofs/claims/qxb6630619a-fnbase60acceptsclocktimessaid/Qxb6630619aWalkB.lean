import Derived.Test.Qxb6630619aWalkB0
namespace Go.Proofs.Qxb6630619a
open Go.RowKit

/-- The buffer holds the digits that are laid so far. -/
def Laid (v : Int) (k n : Nat) (c : Array Value) (acc : List UInt8) : Prop :=
  c.size = 20 ∧ acc.length = 20 - k ∧ n < 10 ^ k ∧ dl 20 v.natAbs [] = dl k n acc ∧ (∀ j (h : j < acc.length), c[k + j]? = some (.int .u8 (acc[j].toNat : Int)))
def Done (v : Int) (k : Nat) (c : Array Value) (acc : List UInt8) : Prop :=
  c.size = 20 ∧ acc.length = 20 - k ∧ dl 20 v.natAbs [] = acc ∧ (∀ j (h : j < acc.length), c[k + j]? = some (.int .u8 (acc[j].toNat : Int)))

theorem cells_step {k n : Nat} {c : Array Value} {acc : List UInt8} (hk1 : 1 ≤ k) (hk2 : k ≤ 20) (hsz : c.size = 20)
    (h : ∀ j (h : j < acc.length), c[k + j]? = some (.int .u8 (acc[j].toNat : Int))) :
    ∀ j (h : j < (UInt8.ofNat (48 + n % 10) :: acc).length), (c.setIfInBounds (k - 1) (.int .u8 (48 + (n : Int) % 10)))[(k - 1) + j]? = some (.int .u8 ((UInt8.ofNat (48 + n % 10) :: acc)[j].toNat : Int)) := by
  intro j hj
  cases j with
  | zero =>
    rw [Array.getElem?_setIfInBounds]
    simp only [Nat.add_zero, List.getElem_cons_zero, digit_nat]
    rw [if_pos trivial, if_pos (by omega)]
    congr 2
  | succ j =>
    rw [Array.getElem?_setIfInBounds, if_neg (by omega)]
    rw [show k - 1 + (j + 1) = k + j by omega]
    simp only [List.getElem_cons_succ]
    exact h j (by simpa using hj)

theorem laid_start (v : Int) (h1 : -9223372036854775808 ≤ v) (h2 : v ≤ 9223372036854775807) (c : Array Value) (hc : c.size = 20) : Laid v 20 v.natAbs c [] :=
  ⟨hc, rfl, by omega, rfl, fun j h => absurd h (by simp)⟩
theorem laid_done {v : Int} {k n : Nat} {c : Array Value} {acc : List UInt8} (hk1 : 1 ≤ k) (hk2 : k ≤ 20) (H : Laid v k n c acc) (hn : n < 10) :
    Done v (k - 1) (c.setIfInBounds (k - 1) (.int .u8 (48 + (n : Int) % 10))) (UInt8.ofNat (48 + n % 10) :: acc) := by
  obtain ⟨hsz, hl, hp, he, hc⟩ := H
  refine ⟨by simpa using hsz, by simp; omega, ?_, cells_step hk1 hk2 hsz hc⟩
  obtain ⟨k, rfl⟩ : ∃ j, k = j + 1 := ⟨k - 1, by omega⟩
  rw [he, dl, if_pos (by omega)]
theorem laid_more {v : Int} {k n : Nat} {c : Array Value} {acc : List UInt8} (hk1 : 1 ≤ k) (hk2 : k ≤ 20) (H : Laid v k n c acc) (hn : ¬ n < 10) :
    1 ≤ k - 1 ∧ Laid v (k - 1) (n / 10) (c.setIfInBounds (k - 1) (.int .u8 (48 + (n : Int) % 10))) (UInt8.ofNat (48 + n % 10) :: acc) := by
  obtain ⟨hsz, hl, hp, he, hc⟩ := H
  obtain ⟨k, rfl⟩ : ∃ j, k = j + 1 := ⟨k - 1, by omega⟩
  have hp' : n / 10 < 10 ^ k := by
    rw [Nat.pow_succ] at hp; omega
  refine ⟨?_, by simpa using hsz, by simp; omega, by simpa using hp', ?_, cells_step hk1 hk2 hsz hc⟩
  · cases k with
    | zero => simp at hp'; omega
    | succ k => omega
  · rw [he, dl, if_neg (by omega)]; rfl

theorem ret_str {a b : ByteArray} (h : a = b) : Ending.returned (.string a) = .returned (.string b) := by rw [h]

set_option maxRecDepth 100000 in
set_option maxHeartbeats 400000 in
theorem itoa_any (v : Int) (w : World) (h1 : -9223372036854775808 ≤ v) (h2 : v ≤ 9223372036854775807) :
    Calls Try.prog 8 #[.int .i64 v] w fun e w' => e = .returned (.string ⟨(itoa v).toArray⟩) ∧ Grown w w' := by
  go_enter Try.func8, Try.ntmps8
  go_upto_if 12 with fail
  go_cut [3, 4] (fun b u w' => b = .bool (decide (v < 0)) ∧ u = .int .u64 v.natAbs ∧ w = w')
  case first =>
    by_cases hv : v < 0
    · have HW := hide (wrap_neg v h1 hv)
      go_wp2_with fail
      go_meet
      case rel => exact ⟨by simp [hv], by rw [HW.out], rfl⟩
    · have HW := hide (wrap_pos v h2 hv)
      go_wp2_with fail
      go_meet
      case rel => exact ⟨by simp, by rw [HW.out], rfl⟩
  case rest =>
    obtain ⟨rfl, rfl, rfl⟩ := hcut
    go_upto_block 0 with fail
    go_cut [4, 6] (fun u i w' => ∃ k : Nat, ∃ c : Array Value, ∃ acc : List UInt8, k ≤ 19 ∧ i = .int .i64 k ∧ Done v k c acc ∧ w' = w.alloc (.cells c 28))
    case first =>
      go_wp2_with fail
      go_loopw [4, 6] (fun u i w' => ∃ k n : Nat, ∃ c : Array Value, ∃ acc : List UInt8, 1 ≤ k ∧ k ≤ 20 ∧ n ≤ 9223372036854775808 ∧ i = .int .i64 k ∧ u = .int .u64 n ∧ Laid v k n c acc ∧ w' = w.alloc (.cells c 28)) (fun _ i _ => (intOf i).toNat)
      case atStart => exact ⟨20, v.natAbs, _, [], by omega, by omega, by omega, rfl, rfl, laid_start v h1 h2 _ rfl, rfl⟩
      case round =>
        obtain ⟨k, n, c, acc, hk1, hk2, hn64, rfl, rfl, HC, rfl⟩ := hrel
        obtain ⟨x, hx⟩ : ∃ x, c[k - 1]? = some x := ⟨_, Array.getElem?_eq_getElem (show k - 1 < c.size by have := HC.1; omega)⟩
        by_cases hn : n < 10
        · go_wp2_with fail
          go_meet
          case rel => exact ⟨k - 1, _, _, by omega, by go_num, laid_done hk1 hk2 HC hn, rfl⟩
        · have hq : ((n : Int) / 10 == 0) = false := by simp; omega
          go_wp2_with fail
          go_roundw
          case rel => exact ⟨k - 1, n / 10, _, _, (laid_more hk1 hk2 HC hn).1, by omega, by omega, by go_num, by go_num, (laid_more hk1 hk2 HC hn).2, rfl⟩
          case measure => simp [intOf]; omega
    case rest =>
      obtain ⟨k, c, acc, hk, rfl, HC, rfl⟩ := hcut
      have hsl := slice_buf w.heap.size k hk (w.alloc (.cells c 28))
      have hcv := conv_buf w.heap.size k acc (w.alloc (.cells c 28)) HC.2.1 (fun j h => by rw [World.cell?_alloc_at _ _ _ _ rfl]; exact HC.2.2.2 j h)
      have hlen : acc.length ≤ 20 := by have := HC.2.1; omega
      have HE : Hid (dl 20 v.natAbs [] = acc) := HC.2.2.1
      clear HC
      by_cases hv : v < 0
      · go_wp2_with fail
        go_ret
        exact ⟨ret_str (by rw [itoa, if_pos hv, HE.out]; apply ByteArray.ext; simp), (Grown.refl _).alloc _ _⟩
      · go_wp2_with fail
        go_ret
        exact ⟨ret_str (by rw [itoa, if_neg (by omega), HE.out]), (Grown.refl _).alloc _ _⟩

set_option maxRecDepth 100000 in
set_option maxHeartbeats 400000 in
theorem field_any (v : Int) (pad : Bool) (w : World) (h1 : -9223372036854775808 ≤ v) (h2 : v ≤ 9223372036854775807) :
    Calls Try.prog 9 #[.int .i64 v, .bool pad] w fun e w' => e = .returned (.string ⟨(fld v pad).toArray⟩) ∧ Grown w w' := by
  have hlen := itoa_length v
  cases pad with
  | false =>
    go_enter Try.func9, Try.ntmps9
    go_wp2_with (go_at_call 8; refine (itoa_any _ _ h1 h2).mono ?_; rintro e w' ⟨rfl, hg⟩)
    go_ret
    exact ⟨ret_str (by rw [fld, if_neg (by simp)]), hg⟩
  | true =>
    by_cases hv0 : 0 ≤ v
    · by_cases hv9 : v ≤ 9
      · go_enter Try.func9, Try.ntmps9
        go_wp2_with (go_at_call 8; refine (itoa_any _ _ h1 h2).mono ?_; rintro e w' ⟨rfl, hg⟩)
        go_ret
        exact ⟨ret_str (by rw [fld, if_pos ⟨rfl, hv0, hv9⟩]; apply ByteArray.ext; simp), hg⟩
      · go_enter Try.func9, Try.ntmps9
        go_wp2_with (go_at_call 8; refine (itoa_any _ _ h1 h2).mono ?_; rintro e w' ⟨rfl, hg⟩)
        go_ret
        exact ⟨ret_str (by rw [fld, if_neg (by omega)]), hg⟩
    · go_enter Try.func9, Try.ntmps9
      go_wp2_with (go_at_call 8; refine (itoa_any _ _ h1 h2).mono ?_; rintro e w' ⟨rfl, hg⟩)
      go_ret
      exact ⟨ret_str (by rw [fld, if_neg (by omega)]), hg⟩

theorem zzbase60_any (s : ByteArray) (w : World) (hs : s.size ≤ 2000000) :
    Calls Try.prog 6 #[.string s] w fun e w' => e = .returned (.bool (b60 s.data.toList)) ∧ w' = w := by
  go_enter Try.func6, Try.ntmps6
  go_wp2_with (go_at_call 10; refine (base60_any _ _ hs).mono ?_; rintro e w' ⟨rfl, rfl⟩)
  go_ret
  exact ⟨rfl, rfl⟩
end Go.Proofs.Qxb6630619a
