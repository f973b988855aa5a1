import Derived.Test.Qxb6630619aRows
import Derived.Test.Qxb6630619aPlainD
import Derived.WalkKit
import Derived.WalkSpells
import Derived.WalkLawsBesides
import Derived.Deep.DeepCutAuto
import Derived.Deep.CutBlock
namespace Go.Proofs.Qxb6630619a.Split
open Go.RowKit

theorem hide {p : Prop} (h : p) : Hid p := h
theorem ret_bool {a b : Bool} (h : a = b) : Ending.returned (.bool a) = .returned (.bool b) := by rw [h]

theorem isDigit_any (n : Int) (w : World) :
    Calls Try.prog 11 #[.int .u8 n] w fun e w' => e = .returned (.bool (dgN n)) ∧ w = w' := by
  by_cases h1 : 48 ≤ n
  · by_cases h2 : n ≤ 57
    · have hd : dgN n = true := by simp [dgN, h1, h2]
      rw [hd]
      go_enter Try.func11, Try.ntmps11
      go_wp2
      go_ret
      exact ⟨rfl, rfl⟩
    · have hd : dgN n = false := by simp [dgN, h2]
      rw [hd]
      go_enter Try.func11, Try.ntmps11
      go_wp2
      go_ret
      exact ⟨rfl, rfl⟩
  · have hd : dgN n = false := by simp [dgN, h1]
    rw [hd]
    go_enter Try.func11, Try.ntmps11
    go_wp2
    go_ret
    exact ⟨rfl, rfl⟩

theorem du_not (c : UInt8) (h : dgN (c.toNat : Int) = false) (h' : ¬ (c.toNat : Int) = 95) : du c = false := du_no c h h'

theorem head_at (p : ByteArray) (h : 0 < p.size) : headOK p.data.toList = (dg p[0] && (p.data.toList.drop 1).all du) := by
  rw [list_cons p h]; rfl

set_option maxRecDepth 100000 in
set_option maxHeartbeats 400000 in
theorem headOK_any (p : ByteArray) (w : World) (hs : p.size ≤ 2000000) :
    Calls Try.prog 12 #[.string p] w fun e w' => e = .returned (.bool (headOK p.data.toList)) ∧ w = w' := by
  obtain ⟨R, hR⟩ : ∃ R, R = headOK p.data.toList := ⟨_, rfl⟩
  rw [← hR]
  have HR := hide hR
  clear hR
  by_cases h0 : 0 < p.size
  case neg =>
    have he : p = ByteArray.empty := by
      apply ByteArray.ext
      apply Array.toList_inj.1
      rw [list_nil p h0]; rfl
    subst he
    have HE : Hid (R = false) := HR.out
    clear HR
    go_enter Try.func12, Try.ntmps12
    go_wp2_with fail
    go_ret
    exact ⟨ret_bool HE.out.symm, rfl⟩
  have hne : ¬ p = ByteArray.empty := fun q => by rw [q] at h0; exact absurd h0 (by decide)
  have hz : ((p.size : Int) == 0) = false := by simp; exact hne
  have HH := hide (HR.out.trans (head_at p h0))
  by_cases hd : dgN (p[0].toNat : Int) = true
  case neg =>
    have hd' : dgN (p[0].toNat : Int) = false := by simpa using hd
    go_enter Try.func12, Try.ntmps12
    go_wp2_with (go_at_call 11; refine (isDigit_any _ _).mono ?_; rintro e w' ⟨rfl, rfl⟩)
    go_ret
    exact ⟨ret_bool (by rw [HH.out, dg, hd']; rfl), rfl⟩
  have HA : Hid (R = (p.data.toList.drop 1).all du) := by
    show R = _
    rw [HH.out, dg, hd, Bool.true_and]
  clear HH HR
  go_enter Try.func12, Try.ntmps12
  go_wp2_with (go_at_call 11; refine (isDigit_any _ _).mono ?_; rintro e w' ⟨rfl, rfl⟩)
  go_loop [3] (fun i => ∃ k : Nat, 1 ≤ k ∧ k ≤ p.size ∧ i = .int .i64 k ∧ Hid (R = (p.data.toList.drop k).all du)) (fun i => p.size - (intOf i).toNat)
  case atStart => exact ⟨1, by omega, by omega, rfl, HA⟩
  case round =>
    obtain ⟨k, hk1, hk2, rfl, HK⟩ := hrel
    by_cases hlt : k < p.size
    · by_cases hdk : dgN (p[k].toNat : Int) = true
      · have HD := hide (all_yes p k hlt (du_dig _ hdk))
        go_wp2_with (go_at_call 11; refine (isDigit_any _ _).mono ?_; rintro e w' ⟨rfl, rfl⟩)
        go_round
        case rel => exact ⟨k + 1, by omega, by omega, by go_num, HK.out.trans HD.out⟩
        case measure => simp [intOf]; omega
      · have hdk' : dgN (p[k].toNat : Int) = false := by simpa using hdk
        by_cases h95 : (p[k].toNat : Int) = 95
        · have HD := hide (all_yes p k hlt (du_us _ h95))
          go_wp2_with (go_at_call 11; refine (isDigit_any _ _).mono ?_; rintro e w' ⟨rfl, rfl⟩)
          go_round
          case rel => exact ⟨k + 1, by omega, by omega, by go_num, HK.out.trans HD.out⟩
          case measure => simp [intOf]; omega
        · have HD := hide (all_no p k hlt (du_not _ hdk' h95))
          go_wp2_with (go_at_call 11; refine (isDigit_any _ _).mono ?_; rintro e w' ⟨rfl, rfl⟩)
          go_ret
          exact ⟨ret_bool (HK.out.trans HD.out).symm, rfl⟩
    · have HD := hide (all_end p k hlt)
      go_wp2_with fail
      go_ret
      exact ⟨ret_bool (HK.out.trans HD.out).symm, rfl⟩

theorem group_one (p : ByteArray) (h : p.size = 1) (h0 : 0 < p.size) : groupOK p.data.toList = dgN (p[0].toNat : Int) := by
  rw [list_cons p (by omega), drop_end p 1 (by omega)]; rfl
theorem group_two (p : ByteArray) (h0 : 1 < p.size) : p.size = 2 → groupOK p.data.toList = ((decide (48 ≤ p[0].toNat) && decide (p[0].toNat ≤ 53)) && dgN (p[1].toNat : Int)) := by
  intro h
  rw [list_cons p (by omega), drop_at p 1 (by omega), drop_end p 2 (by omega)]; rfl
theorem group_other (p : ByteArray) (h1 : p.size ≠ 1) (h2 : p.size ≠ 2) : groupOK p.data.toList = false := by
  by_cases h0 : 0 < p.size
  · rw [list_cons p h0, drop_at p 1 (by omega), drop_at p 2 (by omega)]; rfl
  · rw [list_nil p h0]; rfl

set_option maxRecDepth 100000 in
set_option maxHeartbeats 400000 in
theorem groupOK_any (p : ByteArray) (w : World) (hs : p.size ≤ 2000000) :
    Calls Try.prog 13 #[.string p] w fun e w' => e = .returned (.bool (groupOK p.data.toList)) ∧ w = w' := by
  obtain ⟨R, hR⟩ : ∃ R, R = groupOK p.data.toList := ⟨_, rfl⟩
  rw [← hR]
  have HR := hide hR
  clear hR
  by_cases h1 : p.size = 1
  · have h0 : 0 < p.size := by omega
    have HG := hide (HR.out.trans (group_one p h1 h0))
    have hq : ((p.size : Int) == 1) = true := by simp [h1]
    have HS := hide h1
    clear h1 HR
    go_enter Try.func13, Try.ntmps13
    go_wp2_with (go_at_call 11; refine (isDigit_any _ _).mono ?_; rintro e w' ⟨rfl, rfl⟩)
    go_ret
    exact ⟨ret_bool HG.out.symm, rfl⟩
  have hq : ((p.size : Int) == 1) = false := by simp; omega
  by_cases h2 : p.size = 2
  · have h0 : 1 < p.size := by omega
    have HG := hide (HR.out.trans (group_two p h0 h2))
    have hq2 : ((p.size : Int) == 2) = true := by simp [h2]
    have HS := hide h2
    clear h1 h2 HR
    by_cases ha : 48 ≤ (p[0].toNat : Int)
    · by_cases hb : (p[0].toNat : Int) ≤ 53
      · go_enter Try.func13, Try.ntmps13
        go_wp2_with (go_at_call 11; refine (isDigit_any _ _).mono ?_; rintro e w' ⟨rfl, rfl⟩)
        go_ret
        exact ⟨ret_bool (by rw [HG.out, decide_eq_true (show 48 ≤ p[0].toNat by omega), decide_eq_true (show p[0].toNat ≤ 53 by omega)]; rfl), rfl⟩
      · go_enter Try.func13, Try.ntmps13
        go_wp2_with fail
        go_ret
        exact ⟨ret_bool (by rw [HG.out, decide_eq_false (show ¬ p[0].toNat ≤ 53 by omega), Bool.and_false, Bool.false_and]), rfl⟩
    · go_enter Try.func13, Try.ntmps13
      go_wp2_with fail
      go_ret
      exact ⟨ret_bool (by rw [HG.out, decide_eq_false (show ¬ 48 ≤ p[0].toNat by omega), Bool.false_and, Bool.false_and]), rfl⟩
  · have HG := hide (HR.out.trans (group_other p h1 h2))
    have hq2 : ((p.size : Int) == 2) = false := by simp; omega
    clear HR
    go_enter Try.func13, Try.ntmps13
    go_wp2_with fail
    go_ret
    exact ⟨ret_bool HG.out.symm, rfl⟩

theorem bytes_any (s : ByteArray) (w : World) (hs : s.size ≤ maxLen) :
    Calls Try.prog 5 #[.string s] w fun e w' => e = .returned (.bool (decide (s.size ≤ 1048576))) ∧ w = w' := by
  unfold maxLen at hs
  by_cases h : s.size ≤ 1048576
  · rw [decide_eq_true h]
    go_enter Try.func5, Try.ntmps5
    go_wp2_with fail
    go_ret
    exact ⟨rfl, rfl⟩
  · rw [decide_eq_false h]
    go_enter Try.func5, Try.ntmps5
    go_wp2_with fail
    go_ret
    exact ⟨rfl, rfl⟩
end Go.Proofs.Qxb6630619a.Split
