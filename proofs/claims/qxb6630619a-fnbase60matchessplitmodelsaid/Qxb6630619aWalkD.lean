import Derived.Test.Qxb6630619aWalkC
namespace Go.Proofs.Qxb6630619a.Split
open Go.RowKit

theorem nd_yes (c : UInt8) (h : ¬ (c.toNat : Int) = 46) : nd c = true := by simp [nd]; omega
theorem nd_no (c : UInt8) (h : (c.toNat : Int) = 46) : nd c = false := by simp [nd]; omega

/-- The first k bytes hold no dot. -/
def NoDot (t : ByteArray) (k : Nat) : Prop :=
  t.data.toList.takeWhile nd = t.data.toList.take k ++ (t.data.toList.drop k).takeWhile nd ∧ t.data.toList.dropWhile nd = (t.data.toList.drop k).dropWhile nd

theorem noDot_zero (t : ByteArray) : NoDot t 0 := ⟨by simp, by simp⟩
theorem noDot_step (t : ByteArray) (k : Nat) (h : k < t.size) (hc : ¬ (t[k].toNat : Int) = 46) (H : NoDot t k) : NoDot t (k + 1) := by
  obtain ⟨h1, h2⟩ := H
  have hn := nd_yes _ hc
  rw [drop_at t k h] at h1 h2
  rw [List.takeWhile_cons, if_pos hn] at h1
  rw [List.dropWhile_cons, if_pos hn] at h2
  refine ⟨?_, h2⟩
  rw [h1, List.take_succ_eq_append_getElem (by simpa using h), List.append_assoc]; rfl
theorem noDot_end (t : ByteArray) (k : Nat) (h : ¬ k < t.size) (H : NoDot t k) : t.data.toList.takeWhile nd = t.data.toList ∧ t.data.toList.dropWhile nd = [] := by
  obtain ⟨h1, h2⟩ := H
  rw [drop_end t k (by omega)] at h1 h2
  rw [List.take_of_length_le (by simpa using h)] at h1
  exact ⟨by simpa using h1, by simpa using h2⟩
theorem noDot_dot (t : ByteArray) (k : Nat) (h : k < t.size) (hc : (t[k].toNat : Int) = 46) (H : NoDot t k) : t.data.toList.takeWhile nd = t.data.toList.take k ∧ tailOk (t.data.toList.dropWhile nd) = (t.data.toList.drop (k + 1)).all du := by
  obtain ⟨h1, h2⟩ := H
  have hn := nd_no _ hc
  have hd := tail_dot t k h hc
  rw [drop_at t k h] at h1 h2 hd
  rw [List.takeWhile_cons, if_neg (by simp [hn])] at h1
  rw [List.dropWhile_cons, if_neg (by simp [hn])] at h2
  exact ⟨by simpa using h1, by rw [h2, hd]⟩

/-- What is to come behind i = k, with n pieces told and the last begun at st. -/
def pcsAt (B : ByteArray) (n st k : Nat) : Bool :=
  if k ≤ B.size then pcs n ((B.data.toList.drop st).take (k - st)) (B.data.toList.drop k) else decide (2 ≤ n)

theorem ext_list (B : ByteArray) (st k : Nat) (_ : k ≤ B.size) : (B.extract st k).data.toList = (B.data.toList.drop st).take (k - st) := by
  simp [ByteArray.data_extract, List.extract_eq_take_drop]
theorem pcs_hit (B : ByteArray) (n st k : Nat) (h : k = B.size ∨ ∃ h : k < B.size, (B[k].toNat : Int) = 58) :
    pcsAt B n st k = (ok n (B.extract st k).data.toList && pcsAt B (n + 1) (k + 1) (k + 1)) := by
  rcases h with h | ⟨h, hc⟩
  · rw [ext_list B st k (by omega), pcsAt, if_pos (by omega), pcsAt, if_neg (by omega), drop_end B k (by omega), pcs]
  · rw [ext_list B st k (by omega), pcsAt, if_pos (by omega), pcsAt, if_pos (by omega), drop_at B k h, pcs, if_pos (by omega), Nat.sub_self, List.take_zero]
theorem pcs_miss (B : ByteArray) (n st k : Nat) (hst : st ≤ k) (h : k < B.size) (hc : ¬ (B[k].toNat : Int) = 58) : pcsAt B n st k = pcsAt B n st (k + 1) := by
  rw [pcsAt, if_pos (by omega), pcsAt, if_pos (by omega), drop_at B k h, pcs, if_neg (by omega)]
  congr 1
  rw [show k + 1 - st = (k - st) + 1 by omega, List.take_succ_eq_append_getElem (by simp; omega)]
  congr 2
  rw [List.getElem_drop]
  simp [show st + (k - st) = k by omega]
  rfl

theorem smr_end (t : ByteArray) (k : Nat) (h : ¬ k < t.size) (H : NoDot t k) : smr t.data.toList = pcsAt t 0 0 0 := by
  have := noDot_end t k h H
  rw [smr, this.1, this.2, pcsAt, if_pos (by omega)]; simp [tailOk]
theorem smr_dot (t : ByteArray) (k : Nat) (h : k < t.size) (hc : (t[k].toNat : Int) = 46) (H : NoDot t k) : smr t.data.toList = ((t.extract (k + 1) t.size).data.toList.all du && pcsAt (t.extract 0 k) 0 0 0) := by
  have := noDot_dot t k h hc H
  rw [smr, this.1, this.2, pcsAt, if_pos (by omega), ext_list t (k + 1) t.size (Nat.le_refl _), ext_list t 0 k (by omega)]
  have e : ((t.data.toList.drop (k + 1)).take (t.size - (k + 1))) = t.data.toList.drop (k + 1) := List.take_of_length_le (by simp)
  rw [e]
  simp

set_option maxRecDepth 100000 in
set_option maxHeartbeats 1000000 in
theorem split_any (s : ByteArray) (w : World) (hs : s.size ≤ 2000000) :
    Calls Try.prog 7 #[.string s] w fun e w' => e = .returned (.bool (sm s.data.toList)) ∧ w = w' := by
  obtain ⟨t, ht⟩ : ∃ t : ByteArray, t = if sgn s.data.toList = true then s.extract 1 s.size else s := ⟨_, rfl⟩
  have hts : t.size ≤ 2000000 := by
    rw [ht]; split
    · simp; omega
    · exact hs
  obtain ⟨R, hR⟩ : ∃ R, R = sm s.data.toList := ⟨_, rfl⟩
  rw [← hR]
  have HR : Hid (R = smr t.data.toList) := by rw [hR, sm, strip_data s t ht]; exact rfl
  have HT : Hid (t = if sgn s.data.toList = true then s.extract 1 s.size else s) := ht
  clear ht hR
  obtain ⟨b, hb⟩ : ∃ b, b = sgn s.data.toList := ⟨_, rfl⟩
  have HB := hide hb
  clear hb
  go_enter Try.func7, Try.ntmps7
  go_upto_region 1 with fail
  go_cut [23] (fun v w' => v = .bool b ∧ w = w')
  case first =>
    by_cases h0 : 0 < s.size
    · have he := isEmpty_no s h0
      have HA := hide (sgn_at s h0)
      by_cases h43 : (s[0].toNat : Int) = 43
      · go_wp2_with fail
        go_meet
        case rel => exact ⟨by rw [HB.out, HA.out]; simp [show s[0].toNat = 43 by omega], rfl⟩
      · by_cases h45 : (s[0].toNat : Int) = 45
        · go_wp2_with fail
          go_meet
          case rel => exact ⟨by rw [HB.out, HA.out]; simp [show s[0].toNat = 45 by omega], rfl⟩
        · go_wp2_with fail
          go_meet
          case rel => exact ⟨by rw [HB.out, HA.out]; congr 1; rw [Bool.eq_iff_iff]; simp; omega, rfl⟩
    · have he := isEmpty_yes s h0
      go_wp2_with fail
      go_meet
      case rel => exact ⟨by rw [HB.out, list_nil s h0]; rfl, rfl⟩
  case rest =>
    obtain ⟨rfl, rfl⟩ := hcut
    go_upto_if 23 with fail
    go_cut [0] (fun v w' => v = .string t ∧ w = w')
    case first =>
      cases b with
      | true =>
        have h0 := sgn_pos s HB.out.symm
        go_wp2_with fail
        go_meet
        case rel => exact ⟨by rw [HT.out, if_pos HB.out.symm], rfl⟩
      | false =>
        go_wp2_with fail
        go_meet
        case rel => exact ⟨by rw [HT.out, ← HB.out, if_neg (by simp)], rfl⟩
    case rest =>
      obtain ⟨rfl, rfl⟩ := hcut
      clear HT hs HB
      go_upto_block 0 with fail
      go_cut [3] (fun v w' => ∃ B : ByteArray, v = .string B ∧ B.size ≤ 2000000 ∧ Hid (R = pcsAt B 0 0 0) ∧ w = w')
      case first =>
        go_wp2_with fail
        go_loop [3, 4] (fun v i => ∃ k : Nat, k ≤ t.size ∧ v = .string t ∧ i = .int .i64 k ∧ NoDot t k) (fun _ i => t.size - (intOf i).toNat)
        case atStart => exact ⟨0, by omega, rfl, rfl, noDot_zero t⟩
        case round =>
          obtain ⟨k, hk, rfl, rfl, HK⟩ := hrel
          by_cases hlt : k < t.size
          case neg =>
            have HE := hide (smr_end t k hlt HK)
            go_wp2_with fail
            go_meet
            case rel => exact ⟨t, rfl, hts, HR.out.trans HE.out, rfl⟩
          by_cases h46 : (t[k].toNat : Int) = 46
          case neg =>
            have HS := noDot_step t k hlt h46 HK
            go_wp2_with fail
            go_round
            case rel => exact ⟨k + 1, by omega, rfl, by go_num, HS⟩
            case measure => simp [intOf]; omega
          obtain ⟨F, hF⟩ : ∃ F : ByteArray, F = t.extract (k + 1) t.size := ⟨_, rfl⟩
          have hFs : F.size ≤ 2000000 := by rw [hF]; simp; omega
          have HD : Hid (R = (F.data.toList.all du && pcsAt (t.extract 0 k) 0 0 0)) := by
            show R = _
            rw [HR.out, smr_dot t k hlt h46 HK, hF]
          have HF := hide hF
          clear hF HK HR
          go_upto_region 9 with fail
          go_cut [5] (fun v w' => v = .string F ∧ w = w')
          case first =>
            go_wp2_with fail
            go_meet
            case rel => exact ⟨by rw [HF.out], rfl⟩
          case rest =>
            obtain ⟨rfl, rfl⟩ := hcut
            go_wp2_with fail
            go_loop [6] (fun j => ∃ m : Nat, m ≤ F.size ∧ j = .int .i64 m ∧ Hid (F.data.toList.all du = (F.data.toList.drop m).all du)) (fun j => F.size - (intOf j).toNat)
            case atStart => exact ⟨0, by omega, rfl, by rw [Hid, List.drop_zero]⟩
            case round =>
              obtain ⟨m, hm, rfl, HM⟩ := hrel
              by_cases hml : m < F.size
              · by_cases hdk : dgN (F[m].toNat : Int) = true
                · have HD1 := hide (all_yes F m hml (du_dig _ hdk))
                  go_wp2_with (go_at_call 11; refine (isDigit_any _ _).mono ?_; rintro e w' ⟨rfl, rfl⟩)
                  go_round
                  case rel => exact ⟨m + 1, by omega, by go_num, HM.out.trans HD1.out⟩
                  case measure => simp [intOf]; omega
                · have hdk' : dgN (F[m].toNat : Int) = false := by simpa using hdk
                  by_cases h95 : (F[m].toNat : Int) = 95
                  · have HD1 := hide (all_yes F m hml (du_us _ h95))
                    go_wp2_with (go_at_call 11; refine (isDigit_any _ _).mono ?_; rintro e w' ⟨rfl, rfl⟩)
                    go_round
                    case rel => exact ⟨m + 1, by omega, by go_num, HM.out.trans HD1.out⟩
                    case measure => simp [intOf]; omega
                  · have HD1 := hide (all_no F m hml (du_not _ hdk' h95))
                    go_wp2_with (go_at_call 11; refine (isDigit_any _ _).mono ?_; rintro e w' ⟨rfl, rfl⟩)
                    go_ret
                    exact ⟨ret_bool (by rw [HD.out, HM.out, HD1.out, Bool.false_and]), rfl⟩
              · have HD1 := hide (all_end F m hml)
                go_wp2_with fail
                go_meet
                case rel => exact ⟨t.extract 0 k, rfl, by simp; omega, by rw [Hid, HD.out, HM.out, HD1.out, Bool.true_and], rfl⟩
      case rest =>
        obtain ⟨B, rfl, hB, HP, rfl⟩ := hcut
        clear HR hts
        go_wp2_with fail
        go_loop [7, 8, 9] (fun a st i => ∃ n m k : Nat, k ≤ B.size + 1 ∧ m ≤ k ∧ n ≤ k ∧ a = .int .i64 n ∧ st = .int .i64 m ∧ i = .int .i64 k ∧ Hid (R = pcsAt B n m k)) (fun _ _ i => B.size + 1 - (intOf i).toNat)
        case atStart => exact ⟨0, 0, 0, by omega, by omega, by omega, rfl, rfl, rfl, HP⟩
        case round =>
          obtain ⟨n, m, k, hk, hm, hn, rfl, rfl, rfl, HK⟩ := hrel
          clear HP
          by_cases hle : k ≤ B.size
          case neg =>
            go_wp2_with fail
            go_ret
            exact ⟨ret_bool (by rw [HK.out, pcsAt, if_neg (by omega), Bool.eq_iff_iff]; simp; omega), rfl⟩
          go_upto_region 20 with fail
          go_cut [76] (fun v w' => ((v = .bool true ∧ Hid (k = B.size ∨ ∃ h : k < B.size, (B[k].toNat : Int) = 58)) ∨ (v = .bool false ∧ k < B.size ∧ Hid (pcsAt B n m k = pcsAt B n m (k + 1)))) ∧ w = w')
          case first =>
            by_cases heq : k < B.size
            · have hq : ((k : Int) == (B.size : Int)) = false := by simp; omega
              by_cases h58 : (B[k].toNat : Int) = 58
              · go_wp2_with fail
                go_meet
                case rel => exact ⟨Or.inl ⟨rfl, Or.inr ⟨heq, h58⟩⟩, rfl⟩
              · have HS := hide (pcs_miss B n m k hm heq h58)
                go_wp2_with fail
                go_meet
                case rel => exact ⟨Or.inr ⟨by first | rfl | (simp; omega), heq, HS⟩, rfl⟩
            · have hq : ((k : Int) == (B.size : Int)) = true := by simp; omega
              go_wp2_with fail
              go_meet
              case rel => exact ⟨Or.inl ⟨rfl, Or.inl (by omega)⟩, rfl⟩
          case rest =>
            obtain ⟨hc, rfl⟩ := hcut
            rcases hc with ⟨rfl, HH⟩ | ⟨rfl, heq, HH⟩
            · have HG := hide (HK.out.trans (pcs_hit B n m k HH.out))
              clear HK HH
              have hez : (B.extract m k).size ≤ 2000000 := by simp; omega
              cases n with
              | zero =>
                have hcon := fun w => headOK_any (B.extract m k) w hez
                obtain ⟨c, hc⟩ : ∃ c, c = headOK (B.extract m k).data.toList := ⟨_, rfl⟩
                rw [← hc] at hcon
                have HO : Hid (R = (c && pcsAt B 1 (k + 1) (k + 1))) := by rw [hc]; exact HG
                clear HG hc
                cases c with
                | true =>
                  go_wp2_with (go_at_call 12; refine (hcon _).mono ?_; rintro e w' ⟨rfl, rfl⟩)
                  go_round
                  case rel => exact ⟨1, k + 1, k + 1, by omega, by omega, by omega, rfl, by go_num, by go_num, HO.out⟩
                  case measure => simp [intOf]; omega
                | false =>
                  go_wp2_with (go_at_call 12; refine (hcon _).mono ?_; rintro e w' ⟨rfl, rfl⟩)
                  go_ret
                  exact ⟨ret_bool HO.out.symm, rfl⟩
              | succ n =>
                have hcon := fun w => groupOK_any (B.extract m k) w hez
                obtain ⟨c, hc⟩ : ∃ c, c = groupOK (B.extract m k).data.toList := ⟨_, rfl⟩
                rw [← hc] at hcon
                have HO : Hid (R = (c && pcsAt B (n + 2) (k + 1) (k + 1))) := by rw [hc]; exact HG
                clear HG hc
                cases c with
                | true =>
                  go_wp2_with (go_at_call 13; refine (hcon _).mono ?_; rintro e w' ⟨rfl, rfl⟩)
                  go_round
                  case rel => exact ⟨n + 2, k + 1, k + 1, by omega, by omega, by omega, by go_num, by go_num, by go_num, HO.out⟩
                  case measure => simp [intOf]; omega
                | false =>
                  go_wp2_with (go_at_call 13; refine (hcon _).mono ?_; rintro e w' ⟨rfl, rfl⟩)
                  go_ret
                  exact ⟨ret_bool HO.out.symm, rfl⟩
            · go_wp2_with fail
              go_round
              case rel => exact ⟨n, m, k + 1, by omega, by omega, by omega, rfl, rfl, by go_num, HK.out.trans HH.out⟩
              case measure => simp [intOf]; omega
end Go.Proofs.Qxb6630619a.Split
