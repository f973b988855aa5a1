/- The guards on the sizes; the last of a key. -/
import Derived.Test.Qxb6626077aWalkD
import Derived.Lib.SlicesS
namespace Go.Proofs.Qxb6626077a
open Go.RowKit Go.Conc

/-- What the walk is told of a slice of sends that came in. -/
structure Sends (w : World) (A : Option Addr) (n : Nat) (ks os : Nat → ByteArray) (cs : Nat → Int) : Prop where
  addr : 0 < n → ∃ sb so, A = some ⟨sb, so, none⟩ ∧ sb < w.heap.size ∧ ∀ i, i < n → w.cell? ⟨sb, so + i * 3, none⟩ = some (.string (ks i)) ∧ w.cell? ⟨sb, so + i * 3 + 1, none⟩ = some (.string (os i)) ∧ w.cell? ⟨sb, so + i * 3 + 2, none⟩ = some (.int .i64 (cs i))
  kbd : ∀ i, i < n → (ks i).size ≤ 9223372036854775807
  obd : ∀ i, i < n → (os i).size ≤ 9223372036854775807

/-- It answers a bool; where that is yes, p holds. -/
def Verdict (e : Ending) (p : Prop) : Prop := ∃ b : Bool, e = .returned (.bool b) ∧ (b = true → p)
theorem Verdict.no (p : Prop) : Verdict (.returned (.bool false)) p := ⟨false, rfl, fun e => absurd e (by decide)⟩
theorem Verdict.yes {p : Prop} (h : p) : Verdict (.returned (.bool true)) p := ⟨true, rfl, fun _ => h⟩

def Small (n : Nat) (ks os : Nat → ByteArray) : Prop := ∀ i, i < n → (ks i).size ≤ 1048576 ∧ (os i).size ≤ 1048576

set_option maxRecDepth 100000 in
set_option maxHeartbeats 1000000 in
theorem bytes14_any (A : Option Addr) (n cap : Nat) (ks os : Nat → ByteArray) (cs : Nat → Int) (c : Int) (w : World) (h : Sends w A n ks os cs) (hn : n ≤ 9223372036854775807) :
    Calls Try.prog 14 #[.slice A n cap, .int .i64 c] w fun e w' => Verdict e (Small n ks os) ∧ w = w' := by
  have HS := hide h
  clear h
  by_cases hbig : n ≤ 1048576
  case neg =>
    go_enter Try.func14, Try.ntmps14
    go_wp2_with fail
    go_ret
    exact ⟨Verdict.no _, rfl⟩
  go_enter Try.func14, Try.ntmps14
  go_wp2_with fail
  go_loop [5, 6] (fun z i => ∃ m k : Nat, m ≤ 1048576 ∧ k ≤ n ∧ z = .int .i64 m ∧ i = .int .i64 k ∧ Hid (Small k ks os)) (fun _ i => n - (intOf i).toNat)
  case atStart => exact ⟨n, 0, hbig, Nat.zero_le _, by go_num, rfl, fun i hi => absurd hi (by omega)⟩
  case round =>
    obtain ⟨m, k, hm, hk, rfl, rfl, HK⟩ := hrel
    by_cases hlt : k < n
    · obtain ⟨sb, so, rfl, hsb, hc⟩ := HS.out.addr (by omega)
      have h0 := (hc k hlt).1
      have h1 := (hc k hlt).2.1
      have hb0 := HS.out.kbd k hlt
      have hb1 := HS.out.obd k hlt
      clear hc
      go_wp2_with fail
      all_goals first
        | (go_round
           case rel => exact ⟨m + (ks k).size + (os k).size, k + 1, by omega, by omega, by go_num, by go_num, fun i hi => by
             by_cases e : i = k
             · rw [e]; exact ⟨by omega, by omega⟩
             · exact HK.out i (by omega)⟩
           case measure => simp [intOf]; omega)
        | (go_ret
           exact ⟨Verdict.no _, rfl⟩)
    · go_wp2_with fail
      go_ret
      have : k = n := by omega
      exact ⟨Verdict.yes (by rw [← this]; exact HK.out), rfl⟩

/-- No later key is the key at i. -/
def LastOf (kk : Nat → ByteArray) (i n : Nat) : Prop := ∀ j, i < j → j < n → kk j ≠ kk i
def Says2 (e : Ending) (p : Prop) : Prop := ∃ b : Bool, e = .returned (.bool b) ∧ (b = true ↔ p)

set_option maxRecDepth 100000 in
set_option maxHeartbeats 400000 in
theorem lastOf_any (kb n cap i : Nat) (kk : Nat → ByteArray) (w : World) (hn : n ≤ 10000) (hi : i < n) (hc : ∀ j, j < n → w.cell? ⟨kb, j, none⟩ = some (.string (kk j))) :
    Calls Try.prog 10 #[.slice (some ⟨kb, 0, none⟩) n cap, .int .i64 (i : Nat)] w fun e w' => Says2 e (LastOf kk i n) ∧ ∃ nq, w' = w.drewN nq := by
  have HC := hide hc
  have hci := hc i hi
  clear hc
  go_enter Try.func10, Try.ntmps10
  go_wp2_with fail
  go_loopw [5] (fun j wr => ∃ k : Nat, i < k ∧ k ≤ n ∧ j = .int .i64 k ∧ Hid (∀ m, i < m → m < k → kk m ≠ kk i) ∧ ∃ nq, wr = w.drewN nq) (fun j _ => n - (intOf j).toNat)
  case atStart => exact ⟨i + 1, by omega, by omega, by go_num, fun m h1 h2 => absurd h2 (by omega), 0, rfl⟩
  case round =>
    obtain ⟨k, hk1, hk2, rfl, HK, nq0, rfl⟩ := hrel
    by_cases hlt : k < n
    · have hck := HC.out k hlt
      by_cases he : kk k = kk i
      · have hq : ((kk k).toList == (kk i).toList) = true := (Lib.bytes_beq_iff _ _).2 he
        have HE := hide he
        clear he
        go_wp2_with fail
        go_quiet (fail)
        go_wp2_with fail
        go_ret
        exact ⟨⟨false, rfl, ⟨fun e => absurd e (by decide), fun hl => absurd HE.out (hl k hk1 hlt)⟩⟩, nq0 + nq, by rw [World.drewN_drewN]⟩
      · have hq : ((kk k).toList == (kk i).toList) = false := (Lib.bytes_beq_false_iff _ _).2 he
        have HE := hide he
        clear he
        go_wp2_with fail
        go_quiet (fail)
        go_wp2_with fail
        go_roundw
        case rel => exact ⟨k + 1, by omega, by omega, by go_num, fun m h1 h2 => by
            by_cases e : m = k
            · rw [e]; exact HE.out
            · exact HK.out m h1 (by omega), _, rfl⟩
        case measure => simp [intOf]; omega
    · go_wp2_with fail
      go_ret
      have : k = n := by omega
      exact ⟨⟨true, rfl, ⟨fun _ j h1 h2 => HK.out j h1 (by omega), fun _ => rfl⟩⟩, _, rfl⟩
end Go.Proofs.Qxb6626077a
