import Derived.Test.Qxb6630619aRows
import Derived.Test.Qxb6630619aPlain
import Derived.WalkKit
import Derived.WalkSpells
import Derived.WalkLawsBesides
import Derived.Deep.DeepCutAuto
import Derived.Deep.CutBlock
namespace Go.Proofs.Qxb6630619a
open Go.RowKit

theorem isDigit_any (n : Int) (w : World) :
    Calls Try.prog 14 #[.int .u8 n] w fun e w' => e = .returned (.bool (dgN n)) ∧ w = w' := by
  by_cases h1 : 48 ≤ n
  · by_cases h2 : n ≤ 57
    · have hd : dgN n = true := by simp [dgN, h1, h2]
      rw [hd]
      go_enter Try.func14, Try.ntmps14
      go_wp2
      go_ret
      exact ⟨rfl, rfl⟩
    · have hd : dgN n = false := by simp [dgN, h2]
      rw [hd]
      go_enter Try.func14, Try.ntmps14
      go_wp2
      go_ret
      exact ⟨rfl, rfl⟩
  · have hd : dgN n = false := by simp [dgN, h1]
    rw [hd]
    go_enter Try.func14, Try.ntmps14
    go_wp2
    go_ret
    exact ⟨rfl, rfl⟩


theorem ret_bool {a b : Bool} (h : a = b) : Ending.returned (.bool a) = .returned (.bool b) := by rw [h]

theorem hide {p : Prop} (h : p) : Hid p := h

set_option maxRecDepth 100000 in
set_option maxHeartbeats 1000000 in
theorem base60_any (s : ByteArray) (w : World) (hs : s.size ≤ 2000000) :
    Calls Try.prog 10 #[.string s] w fun e w' => e = .returned (.bool (b60 s.data.toList)) ∧ w' = w := by
  obtain ⟨t, ht⟩ : ∃ t : ByteArray, t = if sgn s.data.toList = true then s.extract 1 s.size else s := ⟨_, rfl⟩
  have hts : t.size ≤ 2000000 := by
    rw [ht]; split
    · simp; omega
    · exact hs
  obtain ⟨R, hR⟩ : ∃ R, R = b60 s.data.toList := ⟨_, rfl⟩
  rw [← hR]
  have HR : Hid (R = b60r t.data.toList) := by rw [hR, b60, strip_data s t ht]; exact rfl
  have HT : Hid (t = if sgn s.data.toList = true then s.extract 1 s.size else s) := ht
  clear ht hR
  obtain ⟨b, hb⟩ : ∃ b, b = sgn s.data.toList := ⟨_, rfl⟩
  have HB := hide hb
  clear hb
  go_enter Try.func10, Try.ntmps10
  go_upto_region 1 with fail
  go_cut [16] (fun v w' => v = .bool b ∧ w = w')
  case first =>
    by_cases h0 : 0 < s.size
    · have he := isEmpty_no s h0
      have HA := hide (sgn_at s h0)
      by_cases h43 : (s[0].toNat : Int) = 43
      · go_wp2_with fail
        go_meet
        case rel => exact ⟨by rw [HB.out, HA.out]; simp [show s[0].toNat = 43 by omega], rfl⟩
      · by_cases h45 : (s[0].toNat : Int) = 45
        · go_wp2_with fail
          go_meet
          case rel => exact ⟨by rw [HB.out, HA.out]; simp [show s[0].toNat = 45 by omega], rfl⟩
        · go_wp2_with fail
          go_meet
          case rel => exact ⟨by rw [HB.out, HA.out]; congr 1; rw [Bool.eq_iff_iff]; simp; omega, rfl⟩
    · have he := isEmpty_yes s h0
      go_wp2_with fail
      go_meet
      case rel => exact ⟨by rw [HB.out, list_nil s h0]; rfl, rfl⟩
  case rest =>
    obtain ⟨rfl, rfl⟩ := hcut
    go_upto_if 16 with fail
    go_cut [0] (fun v w' => v = .string t ∧ w = w')
    case first =>
      cases b with
      | true =>
        have h0 := sgn_pos s HB.out.symm
        go_wp2_with fail
        go_meet
        case rel => exact ⟨by rw [HT.out, if_pos HB.out.symm], rfl⟩
      | false =>
        go_wp2_with fail
        go_meet
        case rel => exact ⟨by rw [HT.out, ← HB.out, if_neg (by simp)], rfl⟩
    case rest =>
      obtain ⟨rfl, rfl⟩ := hcut
      clear HT hs
      by_cases h0 : 0 < t.size
      case neg =>
        have he := isEmpty_yes t h0
        go_wp2_with fail
        go_ret
        exact ⟨by rw [HR.out, list_nil t h0]; rfl, rfl⟩
      have he := isEmpty_no t h0
      by_cases hd : dgN (t[0].toNat : Int) = true
      case neg =>
        have hd' : dgN (t[0].toNat : Int) = false := by simpa using hd
        go_wp2_with (go_at_call 14; refine (isDigit_any _ _).mono ?_; rintro e w' ⟨rfl, rfl⟩)
        go_ret
        exact ⟨by rw [HR.out, list_cons t h0]; simp [b60r, dg, hd'], rfl⟩
      have HR2 : Hid (R = grp false ((t.data.toList.drop 1).dropWhile du)) := by
        show R = _
        rw [HR.out, list_cons t h0]; simp [b60r, dg, hd]
      clear HR
      go_upto_block 0 with (go_at_call 14; refine (isDigit_any _ _).mono ?_; rintro e w' ⟨rfl, rfl⟩)
      go_cut [3] (fun i w' => ∃ k : Nat, 1 ≤ k ∧ k ≤ t.size ∧ i = .int .i64 k ∧ Hid (t.data.toList.drop k = (t.data.toList.drop 1).dropWhile du) ∧ w = w')
      case first =>
        go_wp2_with fail
        go_loop [3] (fun i => ∃ k : Nat, 1 ≤ k ∧ k ≤ t.size ∧ i = .int .i64 k ∧ Hid ((t.data.toList.drop k).dropWhile du = (t.data.toList.drop 1).dropWhile du)) (fun i => t.size - (intOf i).toNat)
        case atStart => exact ⟨1, by omega, by omega, rfl, rfl⟩
        case round =>
          obtain ⟨k, hk1, hk2, rfl, HK⟩ := hrel
          by_cases hlt : k < t.size
          · have HD := hide (drop_at t k hlt)
            by_cases hdk : dgN (t[k].toNat : Int) = true
            · go_wp2_with (go_at_call 14; refine (isDigit_any _ _).mono ?_; rintro e w' ⟨rfl, rfl⟩)
              go_round
              case rel => exact ⟨k + 1, by omega, by omega, by go_num, by rw [Hid, ← HK.out, HD.out]; simp [du, dg, hdk]⟩
              case measure => simp [intOf]; omega
            · have hdk' : dgN (t[k].toNat : Int) = false := by simpa using hdk
              by_cases h95 : (t[k].toNat : Int) = 95
              · go_wp2_with (go_at_call 14; refine (isDigit_any _ _).mono ?_; rintro e w' ⟨rfl, rfl⟩)
                go_round
                case rel => exact ⟨k + 1, by omega, by omega, by go_num, by rw [Hid, ← HK.out, HD.out]; simp [du, show t[k].toNat = 95 by omega]⟩
                case measure => simp [intOf]; omega
              · go_wp2_with (go_at_call 14; refine (isDigit_any _ _).mono ?_; rintro e w' ⟨rfl, rfl⟩)
                go_meet
                case rel => exact ⟨k, hk1, hk2, rfl, by rw [Hid, ← HK.out, HD.out]; simp [du, dg, hdk', show t[k].toNat ≠ 95 by omega], rfl⟩
          · have HD := hide (drop_end t k (by omega))
            go_wp2_with fail
            go_meet
            case rel => exact ⟨k, hk1, hk2, rfl, by rw [Hid, ← HK.out, HD.out]; rfl, rfl⟩
      case rest =>
        obtain ⟨k1, hk1, hk2, rfl, HK, rfl⟩ := hcut
        have HR3 : Hid (R = grp false (t.data.toList.drop k1)) := by rw [HK.out]; exact HR2
        clear HR2 HK he hd
        go_upto_block 2 with fail
        go_cut [3, 4] (fun i g w' => ∃ k n : Nat, k ≤ t.size ∧ n ≤ k ∧ i = .int .i64 k ∧ g = .int .i64 n ∧ Hid (R = grp (decide (0 < n)) (t.data.toList.drop k)) ∧ Hid (∀ h : k < t.size, t[k].toNat ≠ 58) ∧ w = w')
        case first =>
          go_wp2_with fail
          go_loop [3, 4] (fun i g => ∃ k n : Nat, k ≤ t.size ∧ n ≤ k ∧ i = .int .i64 k ∧ g = .int .i64 n ∧ Hid (R = grp (decide (0 < n)) (t.data.toList.drop k))) (fun i _ => t.size - (intOf i).toNat)
          case atStart => exact ⟨k1, 0, by omega, by omega, rfl, rfl, HR3⟩
          case round =>
            obtain ⟨k, n, hk, hn, rfl, rfl, HK⟩ := hrel
            clear HR3
            by_cases hlt : k < t.size
            · by_cases h58 : (t[k].toNat : Int) = 58
              · by_cases hl1 : k + 1 < t.size
                · by_cases hda : dgN (t[k + 1].toNat : Int) = true
                  · by_cases hl2 : k + 2 < t.size
                    · by_cases hle : (t[k + 1].toNat : Int) ≤ 53
                      · by_cases hdb : dgN (t[k + 2].toNat : Int) = true
                        · have HS := hide (st_two t k (decide (0 < n)) n hl2 h58 hle hda hdb)
                          go_wp2_with (go_at_call 14; refine (isDigit_any _ _).mono ?_; rintro e w' ⟨rfl, rfl⟩)
                          go_round
                          case rel => exact ⟨k + 3, n + 1, by omega, by omega, by go_num, by go_num, by rw [Hid, HK.out, HS.out]⟩
                          case measure => simp [intOf]; omega
                        · have hdb' : dgN (t[k + 2].toNat : Int) = false := by simpa using hdb
                          have HS := hide (st_one t k (decide (0 < n)) n hl2 h58 (fun q => hdb q.2) hda)
                          go_wp2_with (go_at_call 14; refine (isDigit_any _ _).mono ?_; rintro e w' ⟨rfl, rfl⟩)
                          go_round
                          case rel => exact ⟨k + 2, n + 1, by omega, by omega, by go_num, by go_num, by rw [Hid, HK.out, HS.out]⟩
                          case measure => simp [intOf]; omega
                      · have HS := hide (st_one t k (decide (0 < n)) n hl2 h58 (fun q => hle q.1) hda)
                        go_wp2_with (go_at_call 14; refine (isDigit_any _ _).mono ?_; rintro e w' ⟨rfl, rfl⟩)
                        go_round
                        case rel => exact ⟨k + 2, n + 1, by omega, by omega, by go_num, by go_num, by rw [Hid, HK.out, HS.out]⟩
                        case measure => simp [intOf]; omega
                    · have HS := hide (st_last t k (decide (0 < n)) n hl1 hl2 h58 hda)
                      go_wp2_with (go_at_call 14; refine (isDigit_any _ _).mono ?_; rintro e w' ⟨rfl, rfl⟩)
                      go_round
                      case rel => exact ⟨k + 2, n + 1, by omega, by omega, by go_num, by go_num, by rw [Hid, HK.out, HS.out]⟩
                      case measure => simp [intOf]; omega
                  · have hda' : dgN (t[k + 1].toNat : Int) = false := by simpa using hda
                    have HS := hide (st_bad t k (decide (0 < n)) hl1 h58 hda')
                    go_wp2_with (go_at_call 14; refine (isDigit_any _ _).mono ?_; rintro e w' ⟨rfl, rfl⟩)
                    all_goals
                      go_ret
                      exact ⟨ret_bool (by rw [HK.out, HS.out]), rfl⟩
                · have HS := hide (st_end t k (decide (0 < n)) hlt hl1 h58)
                  go_wp2_with fail
                  go_ret
                  exact ⟨ret_bool (by rw [HK.out, HS.out]), rfl⟩
              · go_wp2_with fail
                go_meet
                case rel => exact ⟨k, n, hk, hn, rfl, rfl, HK, fun _ => by omega, rfl⟩
            · go_wp2_with fail
              go_meet
              case rel => exact ⟨k, n, hk, hn, rfl, rfl, HK, fun h => absurd h hlt, rfl⟩
        case rest =>
          obtain ⟨k, n, hk, hn, rfl, rfl, HK, HN, rfl⟩ := hcut
          have HG := hide (HK.out.trans (st_no t k (decide (0 < n)) HN.out))
          clear HK HN HR3
          by_cases hn0 : 0 < n
          case neg =>
            go_wp2_with fail
            go_ret
            exact ⟨ret_bool (by rw [HG.out]; simp [hn0]), rfl⟩
          have HG1 : Hid (R = tailOk (t.data.toList.drop k)) := by rw [Hid, HG.out]; simp [hn0]
          clear HG
          go_upto_region 18 with fail
          go_cut [112] (fun v w' => ((v = .bool true ∧ k < t.size ∧ Hid (R = (t.data.toList.drop (k + 1)).all du)) ∨ (v = .bool false ∧ Hid (R = decide (k = t.size)))) ∧ w = w')
          case first =>
            by_cases hlt : k < t.size
            · by_cases h46 : (t[k].toNat : Int) = 46
              · have HE := hide (tail_dot t k hlt h46)
                go_wp2_with fail
                go_meet
                case rel => exact ⟨Or.inl ⟨rfl, hlt, HG1.out.trans HE.out⟩, rfl⟩
              · have HE := hide (tail_no t k hlt h46)
                go_wp2_with fail
                go_meet
                case rel => exact ⟨Or.inr ⟨by simp; omega, (HG1.out.trans HE.out).trans (by simp; omega)⟩, rfl⟩
            · have HE := hide (tail_end t k hlt)
              go_wp2_with fail
              go_meet
              case rel => exact ⟨Or.inr ⟨by first | rfl | (simp; omega), (HG1.out.trans HE.out).trans (by simp; omega)⟩, rfl⟩
          case rest =>
            obtain ⟨hc, rfl⟩ := hcut
            clear HG1
            rcases hc with ⟨rfl, hlt, HG2⟩ | ⟨rfl, HG2⟩
            · go_wp2_with fail
              go_loop [3] (fun i => ∃ k : Nat, k ≤ t.size ∧ i = .int .i64 k ∧ Hid (R = (t.data.toList.drop k).all du)) (fun i => t.size - (intOf i).toNat)
              case atStart => exact ⟨k + 1, by omega, by go_num, HG2⟩
              case round =>
                obtain ⟨j, hj, rfl, HJ⟩ := hrel
                by_cases hlt : j < t.size
                · by_cases hdk : dgN (t[j].toNat : Int) = true
                  · have HD := hide (all_yes t j hlt (du_dig _ hdk))
                    go_wp2_with (go_at_call 14; refine (isDigit_any _ _).mono ?_; rintro e w' ⟨rfl, rfl⟩)
                    go_round
                    case rel => exact ⟨j + 1, by omega, by go_num, by rw [Hid, HJ.out, HD.out]⟩
                    case measure => simp [intOf]; omega
                  · have hdk' : dgN (t[j].toNat : Int) = false := by simpa using hdk
                    by_cases h95 : (t[j].toNat : Int) = 95
                    · have HD := hide (all_yes t j hlt (du_us _ h95))
                      go_wp2_with (go_at_call 14; refine (isDigit_any _ _).mono ?_; rintro e w' ⟨rfl, rfl⟩)
                      go_round
                      case rel => exact ⟨j + 1, by omega, by go_num, by rw [Hid, HJ.out, HD.out]⟩
                      case measure => simp [intOf]; omega
                    · have HD := hide (all_no t j hlt (du_no _ hdk' h95))
                      go_wp2_with (go_at_call 14; refine (isDigit_any _ _).mono ?_; rintro e w' ⟨rfl, rfl⟩)
                      go_ret
                      exact ⟨ret_bool (by rw [HJ.out, HD.out]; simp; omega), rfl⟩
                · have HD := hide (all_end t j hlt)
                  go_wp2_with fail
                  go_ret
                  exact ⟨ret_bool (by rw [HJ.out, HD.out]; simp; omega), rfl⟩
            · go_wp2_with fail
              go_ret
              exact ⟨ret_bool (by rw [HG2.out, Bool.eq_iff_iff]; simp; omega), rfl⟩
end Go.Proofs.Qxb6630619a
