import Derived.Test.Qxb6625787aWalkB
namespace Go.Proofs.Qxb6625787a
open Go.RowKit

set_option maxRecDepth 100000 in
set_option maxHeartbeats 1000000 in
theorem law_some (x : Addr) (len cap k : Nat) (f : Nat → Int) (w : World) (hlen : len ≤ 1048576) (hk : k ≤ len)
    (hcp : Calls Try.prog 5 #[.slice (some x) len cap] w fun e w' => e = .returned (.slice (some ⟨w.heap.size, 0, none⟩) len len) ∧ Below w.heap.size w w' ∧ w'.heap.size = w.heap.size + 1 ∧ ∀ j, j < len → w'.cell? ⟨w.heap.size, j, none⟩ = some (.int .u8 (f j))) :
    Calls Try.prog 3 #[.slice (some x) len cap, .int .i64 k] w fun e w' => e = .returned (.bool true) ∧ Below w.heap.size w w' := by
  have hby := fun w => bytes_any (some x) len cap k w (by unfold maxLen; omega)
  rw [decide_eq_true hlen] at hby
  obtain ⟨B1, hB1⟩ : ∃ B, B = w.heap.size := ⟨_, rfl⟩
  rw [← hB1] at hcp ⊢
  have HB1 := hide hB1
  clear hB1
  go_enter Try.func3, Try.ntmps3
  go_wp2_with (go_at_call 4; refine (hby _).mono ?_; rintro e w' ⟨rfl, rfl⟩)
  refine hcp.mono ?_
  rintro e w1 ⟨rfl, hb1, hz1, hc1⟩
  have c2 := copy_some B1 0 len len f w1 hlen (by omega) (by simpa using hc1)
  obtain ⟨B2, hB2⟩ : ∃ B, B = w1.heap.size := ⟨_, rfl⟩
  rw [← hB2] at c2
  have h12 : B1 < B2 := by omega
  have HC1 := hide hc1
  have HB2 := hide hB2
  clear hcp hc1 hz1 hB2 hby
  go_wp2_with fail
  refine c2.mono ?_
  rintro e w2 ⟨rfl, hb2, hz2, hc2⟩
  have c3 := scanner_any (some ⟨B1, 0, none⟩) len len k w2
  obtain ⟨B3, hB3⟩ : ∃ B, B = w2.heap.size := ⟨_, rfl⟩
  rw [← hB3] at c3
  have h23 : B2 < B3 := by omega
  have HC2 := hide hc2
  have HB3 := hide hB3
  clear hc2 hz2 hB3 c2
  go_wp2_with fail
  refine c3.mono ?_
  rintro e w3 ⟨rfl, hb3, _, hs3⟩
  have hcell3 : ∀ j, j < len → w3.cell? ⟨B1, j, none⟩ = some (.int .u8 (f j)) := by
    intro j hj
    rw [hb3.cell (p := ⟨B1, j, none⟩) (by show B1 < B3; omega), hb2.cell (p := ⟨B1, j, none⟩) h12]
    exact HC1.out j hj
  have c4 := zzwhat_core _ _ w3 _ (peek_some B3 B1 len len k f w3 hlen hk (by omega) hs3 hcell3)
  have hpk := at1_ge f k len
  have hpl := at1_le f k len hk
  have HSP := hide (fun j => at1_sp f k len j)
  have HNO := hide (at1_no f k len hk)
  have HPP := hide (at1_at1 f k len hk)
  obtain ⟨p, hp⟩ : ∃ p, p = at1 f k len := ⟨_, rfl⟩
  rw [← hp] at c4 hpk hpl HSP HNO HPP
  obtain ⟨c, hcc⟩ : ∃ c, c = pk f p len := ⟨_, rfl⟩
  rw [← hcc] at c4
  have HCC := hide hcc
  have HC3 := hide hcell3
  clear hp hcc c3 hcell3 hs3
  go_wp2_with fail
  refine c4.mono ?_
  rintro e w4 ⟨rfl, HA4⟩
  have c5 := zzat_any B3 _ len len p w4 HA4.2.2
  clear c4
  go_wp2_with fail
  refine c5.mono ?_
  rintro e w' ⟨rfl, rfl⟩
  have c6 := zzwhat_core _ _ w4 _ (peek_some B3 B1 len len p f w4 hlen hpl (by omega) HA4.2.2 (fun j hj => by rw [HA4.1.cell (p := ⟨B1, j, none⟩) (by show B1 < B3; omega)]; exact HC3.out j hj))
  rw [HPP.out, ← HCC.out] at c6
  clear c5
  go_wp2_with fail
  refine c6.mono ?_
  rintro e w5 ⟨rfl, HA5⟩
  have c7 := zzat_any B3 _ len len p w5 HA5.2.2
  clear c6
  go_wp2_with fail
  refine c7.mono ?_
  rintro e w' ⟨rfl, rfl⟩
  clear c7
  have hb5 : Below B3 w2 w5 := (hb3.trans HA4.1).trans HA5.1
  have HC5 : Hid (∀ j, j < len → w5.cell? ⟨B2, j, none⟩ = some (.int .u8 (f j))) := by
    intro j hj
    rw [hb5.cell (p := ⟨B2, j, none⟩) h23]
    exact HC2.out j hj
  have hfin : Below B1 w w5 := (hb1.trans (hb2.mono (by omega))).trans (hb5.mono (by omega))
  have HF := hide hfin
  clear hfin hb1 hb2 hb3 hb5 HA4 HA5 HC1 HC2 HC3 HB1 HB2 HB3 HPP HCC
  go_upto_if 55 with (go_at_call 9; refine (known_any _ _).mono ?_; rintro e w' ⟨rfl, rfl⟩)
  go_cut [] (fun w' => w5 = w')
  case first =>
    go_wp2_with fail
    go_meet
    case rel => exact rfl
  case rest =>
  subst hcut
  go_wp2_with fail
  go_loop [12] (fun i => ∃ j : Nat, k ≤ j ∧ j ≤ p ∧ i = .int .i64 j) (fun i => p - (intOf i).toNat)
  case atStart => exact ⟨k, by omega, by omega, rfl⟩
  case round =>
    obtain ⟨j, hj1, hj2, rfl⟩ := hrel
    by_cases hlt : j < p
    · have hcell := HC5.out j (by omega)
      have hsp := HSP.out j hj1 hlt
      go_wp2_with (go_at_call 10; refine (isSpace_any _ _).mono ?_; rintro e w' ⟨rfl, rfl⟩)
      go_round
      case rel => exact ⟨j + 1, by omega, by omega, by go_num⟩
      case measure => simp [intOf]; omega
    · by_cases hpe : p < len
      · have hcell := HC5.out p hpe
        have hno := HNO.out hpe
        go_wp2_with (go_at_call 10; refine (isSpace_any _ _).mono ?_; rintro e w' ⟨rfl, rfl⟩)
        go_ret
        exact ⟨ret_bool (by simp), HF.out⟩
      · go_wp2_with fail
        go_ret
        exact ⟨ret_bool (by simp), HF.out⟩

set_option maxRecDepth 100000 in
set_option maxHeartbeats 1000000 in
theorem law_nil (w : World) :
    Calls Try.prog 3 #[.slice none 0 0, .int .i64 0] w fun e w' => e = .returned (.bool true) ∧ Below w.heap.size w w' := by
  have hby := fun w => bytes_any none 0 0 0 w (by unfold maxLen; omega)
  have hcp := fun w => copy_nil w
  have c3 : Calls Try.prog 6 #[.slice none 0 0, .int .i64 0] w fun e w' => e = .returned (.pointer (some ⟨w.heap.size, 0, none⟩)) ∧ Below w.heap.size w w' ∧ w'.heap.size = w.heap.size + 1 ∧ Sc w' w.heap.size none 0 0 0 := scanner_any none 0 0 0 w
  obtain ⟨B3, hB3⟩ : ∃ B, B = w.heap.size := ⟨_, rfl⟩
  rw [← hB3] at c3 ⊢
  clear hB3
  go_enter Try.func3, Try.ntmps3
  go_wp2_with (first | (go_at_call 4; refine (hby _).mono ?_; rintro e w' ⟨rfl, rfl⟩) | (go_at_call 5; refine (hcp _).mono ?_; rintro e w' ⟨rfl, rfl⟩))
  clear hby hcp
  refine c3.mono ?_
  rintro e w3 ⟨rfl, hb3, _, hs3⟩
  have c4 := zzwhat_core _ _ w3 _ (peek_end B3 none 0 0 w3 hs3)
  clear c3 hs3
  go_wp2_with fail
  refine c4.mono ?_
  rintro e w4 ⟨rfl, HA4⟩
  have c5 : Calls Try.prog 8 #[.pointer (some ⟨B3, 0, none⟩)] w4 fun e w' => e = .returned (.int .i64 0) ∧ w4 = w' := zzat_any B3 _ 0 0 0 w4 HA4.2.2
  clear c4
  go_wp2_with fail
  refine c5.mono ?_
  rintro e w' ⟨rfl, rfl⟩
  have c6 := zzwhat_core _ _ w4 _ (peek_end B3 none 0 0 w4 HA4.2.2)
  clear c5
  go_wp2_with fail
  refine c6.mono ?_
  rintro e w5 ⟨rfl, HA5⟩
  have c7 : Calls Try.prog 8 #[.pointer (some ⟨B3, 0, none⟩)] w5 fun e w' => e = .returned (.int .i64 0) ∧ w5 = w' := zzat_any B3 _ 0 0 0 w5 HA5.2.2
  clear c6
  go_wp2_with fail
  refine c7.mono ?_
  rintro e w' ⟨rfl, rfl⟩
  clear c7
  have HF := hide ((hb3.trans HA4.1).trans HA5.1)
  clear hb3 HA4 HA5
  go_wp2_with (go_at_call 9; refine (known_any _ _).mono ?_; rintro e w' ⟨rfl, rfl⟩)
  go_loop [12] (fun i => i = .int .i64 0) (fun _ => 0)
  case atStart => rfl
  case round =>
    subst hrel
    go_wp2_with fail
    go_ret
    exact ⟨ret_bool (by simp), HF.out⟩
end Go.Proofs.Qxb6625787a
