/- The first law, walked. -/
import Derived.Test.Qxb6626077aThree
import Derived.BigQuiet
namespace Go.Proofs.Qxb6626077a
open Go.RowKit Go.Conc

theorem Made3.part0 {w0 W w' : World} {B : Nat} {kv wv xv xv' pv : Value} {k m x p t X : Nat} {ks : Nat → ByteArray} {wb : Nat → Nat} (h : Made3 w0 W B kv wv xv pv k m x p t 0 ks wb) (hX : wb x = X) (hx : x + 1 ≤ t)
    (hA : App W w' B 28 xv xv' x (pvals (fun i => wb i) x) (.pointer (some ⟨X, 0, none⟩))) : Made3 w0 w' B kv wv xv' pv k m (x + 1) p t 0 ks wb := by
  refine h.part (X := X) (by rw [Nat.zero_add]; exact hX) (by omega) ?_
  rw [pvals_congr (wb := fun i => wb i) (fun i hi => by rw [Nat.zero_add])]
  exact hA

set_option maxRecDepth 100000 in
set_option maxHeartbeats 2000000 in
theorem law3 (A A2 : Option Addr) (n1 cap n2 cap2 : Nat) (ks op oq : Nat → ByteArray) (cp cq : Nat → Int) (w : World) (h : Sends w A n1 ks op cp) (h2 : Sends w A2 n2 (fun j => ks (n1 + j)) oq cq) (hn : n1 ≤ 9223372036854775807) (hn2 : n2 ≤ 9223372036854775807) :
    Calls Try.prog 3 #[.slice A n1 cap, .slice A2 n2 cap2] w fun e w' => e = .returned (.bool true) ∧ Below w.heap.size w w' := by
  have hby := bytes5_any A A2 n1 cap n2 cap2 ks op (fun j => ks (n1 + j)) oq cp cq w h h2 hn hn2
  have HS := hide h
  have HS2 := hide h2
  clear h h2
  obtain ⟨B, hB⟩ : ∃ B, B = w.heap.size := ⟨_, rfl⟩
  rw [← hB]
  have HB := hide hB
  clear hB
  by_cases hsm : n1 ≤ 4096
  case neg =>
    go_enter Try.func3, Try.ntmps3
    go_wp2_with (go_at_call 5; refine hby.mono ?_; rintro e w' ⟨⟨b, rfl, HV⟩, rfl⟩)
    all_goals (go_ret; exact ⟨ret_bool rfl, Below.refl _ _⟩)
  by_cases hsm2 : n2 ≤ 4096
  case neg =>
    go_enter Try.func3, Try.ntmps3
    go_wp2_with (go_at_call 5; refine hby.mono ?_; rintro e w' ⟨⟨b, rfl, HV⟩, rfl⟩)
    all_goals (go_ret; exact ⟨ret_bool rfl, Below.refl _ _⟩)
  go_enter Try.func3, Try.ntmps3
  go_wp2_with (go_at_call 5; refine hby.mono ?_; rintro e w' ⟨⟨b, rfl, HV⟩, rfl⟩)
  all_goals first | (go_ret; exact ⟨ret_bool rfl, Below.refl _ _⟩) | skip
  have hbf : (!b) = false := by assumption
  have hbt : b = true := by simpa using hbf
  replace HV := hide (HV hbt)
  subst hbt
  clear hby
  go_loopw [5, 6] (fun z i wr => ∃ m k : Nat, m ≤ 1048576 ∧ k ≤ n1 ∧ z = .int .i64 m ∧ i = .int .i64 k ∧ ∃ nq, wr = w.drewN nq) (fun _ i _ => n1 - (intOf i).toNat)
  case atStart => exact ⟨0, 0, by omega, Nat.zero_le _, rfl, rfl, 0, rfl⟩
  case round =>
    obtain ⟨m, k, hm, hk, rfl, rfl, nq0, rfl⟩ := hrel
    by_cases hlt : k < n1
    · obtain ⟨sb, so, rfl, hsb, hc⟩ := HS.out.addr (by omega)
      have h0 : (w.drewN nq0).cell? ⟨sb, so + k * 3, none⟩ = _ := (hc k hlt).1
      have h1 : (w.drewN nq0).cell? ⟨sb, so + k * 3 + 1, none⟩ = _ := (hc k hlt).2.1
      have hb0 := (HV.out.1 k hlt).1
      have hb1 := (HV.out.1 k hlt).2
      clear hc
      obtain ⟨W, HW⟩ : ∃ W, Hid (w.drewN nq0 = W) := ⟨_, rfl⟩
      rw [HW.out] at h0 h1
      rw [HW.out]
      go_wp2_with fail
      go_quiet (fail)
      by_cases hbig : m + (40 + (ks k).size + (op k).size) ≤ 1048576
      · go_wp2_with fail
        go_roundw
        case rel => exact ⟨m + (40 + (ks k).size + (op k).size), k + 1, by omega, by omega, by go_num, by go_num, nq0 + nq, by rw [← HW.out, World.drewN_drewN]⟩
        case measure => simp [intOf]; omega
      · go_wp2_with fail
        go_ret
        exact ⟨ret_bool rfl, by rw [← HW.out, World.drewN_drewN]; exact below_drewN (Below.refl _ _) _⟩
    · obtain rfl : n1 = k := by omega
      clear hlt hk
      go_wp2_with fail
      go_loopw [5, 7] (fun z i wr => ∃ m k : Nat, m ≤ 1048576 ∧ k ≤ n2 ∧ z = .int .i64 m ∧ i = .int .i64 k ∧ ∃ nq, wr = w.drewN nq) (fun _ i _ => n2 - (intOf i).toNat)
      case atStart => exact ⟨m, 0, hm, Nat.zero_le _, rfl, rfl, nq0, rfl⟩
      case round =>
        clear hm
        obtain ⟨m, k, hm, hk, rfl, rfl, nq0, rfl⟩ := hrel
        by_cases hlt : k < n2
        · obtain ⟨sb, so, rfl, hsb, hc⟩ := HS2.out.addr (by omega)
          have h0 : (w.drewN nq0).cell? ⟨sb, so + k * 3, none⟩ = some (.string (ks (n1 + k))) := (hc k hlt).1
          have h1 : (w.drewN nq0).cell? ⟨sb, so + k * 3 + 1, none⟩ = _ := (hc k hlt).2.1
          have hb0 : (ks (n1 + k)).size ≤ 1048576 := (HV.out.2 k hlt).1
          have hb1 := (HV.out.2 k hlt).2
          clear hc
          obtain ⟨W, HW⟩ : ∃ W, Hid (w.drewN nq0 = W) := ⟨_, rfl⟩
          rw [HW.out] at h0 h1
          rw [HW.out]
          go_wp2_with fail
          go_quiet (fail)
          by_cases hbig : m + (40 + (ks (n1 + k)).size + (oq k).size) ≤ 1048576
          · go_wp2_with fail
            go_roundw
            case rel => exact ⟨m + (40 + (ks (n1 + k)).size + (oq k).size), k + 1, by omega, by omega, by go_num, by go_num, nq0 + nq, by rw [← HW.out, World.drewN_drewN]⟩
            case measure => simp [intOf]; omega
          · go_wp2_with fail
            go_ret
            exact ⟨ret_bool rfl, by rw [← HW.out, World.drewN_drewN]; exact below_drewN (Below.refl _ _) _⟩
        · obtain rfl : n2 = k := by omega
          clear hlt hk hm
          have HW : Hid (Below B w (w.drewN nq0)) := below_drewN (Below.refl _ _) _
          have hBW : B ≤ (w.drewN nq0).heap.size := by rw [HB.out]; exact Nat.le_refl _
          generalize w.drewN nq0 = W at *
          obtain ⟨N, HN⟩ : ∃ N, Hid (n1 + n2 = N) := ⟨_, rfl⟩
          have hadd : (n1 : Int) + (n2 : Int) = (N : Int) := by rw [← HN.out]; omega
          have hNle : N ≤ 8192 := by rw [← HN.out]; omega
          have HM := hide (Made3.start N n1 (by omega) (by omega) HW.out hBW ks)
          have m26 := mk26 N (by omega)
          have m27 := mk27 N (by omega)
          have m28 := mk27 n1 (by omega)
          go_wp2_with fail
          go_loopg [9, 10, 11, 12] n1 (fun g kv wv xv i wr => ∃ k wb, g = n1 - k ∧ k ≤ n1 ∧ i = .int .i64 (k : Nat) ∧ Hid (Made3 w wr B kv wv xv (.slice none 0 0) k k k 0 k 0 ks wb))
          case atStart => exact ⟨0, _, rfl, Nat.zero_le _, rfl, HM⟩
          case round =>
            obtain ⟨k, wb, hg, hk, rfl, HM2⟩ := hrel
            have HG := hide hg
            clear hg HM HW hBW m26 m27 m28
            by_cases hlt : k < n1
            · obtain ⟨sb, so, rfl, hsb, hc⟩ := HS.out.addr (by omega)
              have hsB : sb < B := by rw [HB.out]; exact hsb
              have h0 : wr.cell? ⟨sb, so + k * 3, none⟩ = _ := (HM2.out.below.cell (p := ⟨sb, so + k * 3, none⟩) hsB).trans (hc k hlt).1
              have h1 : wr.cell? ⟨sb, so + k * 3 + 1, none⟩ = _ := (HM2.out.below.cell (p := ⟨sb, so + k * 3 + 1, none⟩) hsB).trans (hc k hlt).2.1
              have h2 : wr.cell? ⟨sb, so + k * 3 + 2, none⟩ = _ := (HM2.out.below.cell (p := ⟨sb, so + k * 3 + 2, none⟩) hsB).trans (hc k hlt).2.2
              have hnw := new3 HM2.out sb (so + k * 3) hsB h0 h1 h2
              have HC := hide (hc k hlt).1
              clear hc
              obtain ⟨X, HX⟩ : ∃ x, Hid (wr.heap.size = x) := ⟨_, rfl⟩
              rw [HX.out] at hnw
              go_wp2_with fail
              go_region_held3 (fun w' => w'.cell? ⟨sb, so + k * 3, none⟩ = some (.string (ks k)) ∧ w'.cell? ⟨sb, so + k * 3 + 1, none⟩ = some (.string (op k)) ∧ w'.cell? ⟨sb, so + k * 3 + 2, none⟩ = some (.int .i64 (cp k))) (go_keep)
                ((go_at_call 6; refine hnw.mono ?_; rintro e w1 ⟨rfl, HE⟩; have q0 := HE.c0; have q1 := HE.c1; have q2 := HE.c2))
              have HM3 := HE.made
              obtain ⟨wb2, HWB⟩ : ∃ f, Hid (upd wb k wr.heap.size = f) := ⟨_, rfl⟩
              rw [HWB.out] at HM3
              have HXX : Hid (wb2 k = X) := by rw [Hid, ← HWB.out, ← HX.out]; simp [upd]
              clear hnw h0 h1 h2 q0 q1 q2 HE HM2
              go_wp2_with (first | (at_builtin; refine wpList_app rfl _ _ 27 rfl Try.underlying27 info28 rfl HM3.out.one HM3.out.size (.pointer (some ⟨X, 0, none⟩)) rfl (by omega) (by decide) rfl rfl ?_))
              intro v4 w4 hA4
              have HM4 := hide (HM3.out.part0 HXX.out (by omega) hA4)
              clear hA4 HM3
              go_wp2_with (first | (at_builtin; refine wpList_app rfl _ _ 27 rfl Try.underlying27 info28 rfl HM4.out.ptrs HM4.out.size (.pointer (some ⟨X, 0, none⟩)) rfl (by omega) (by decide) rfl rfl ?_))
              intro v5 w5 hA5
              have HM5 := hide (HM4.out.ptr HXX.out (by omega) hA5)
              clear hA5 HM4
              have q0 : w5.cell? ⟨sb, so + k * 3, none⟩ = some (.string (ks k)) := (HM5.out.below.cell (p := ⟨sb, so + k * 3, none⟩) hsB).trans HC.out
              go_wp2_with (first | (at_builtin; refine wpList_app rfl _ _ 26 rfl Try.underlying26 info9 rfl HM5.out.keys HM5.out.size (.string (ks k)) rfl (by omega) (by decide) rfl rfl ?_))
              intro v6 w6 hA6
              have HM6 := hide (HM5.out.key hA6)
              clear hA6 HM5 q0
              go_wp2_with fail
              go_roundg (n1 - (k + 1))
              case measure => rw [HG.out]; omega
              case rel => exact ⟨k + 1, _, rfl, by omega, by go_num, HM6⟩
            · obtain rfl : n1 = k := by omega
              clear hlt hk HG
              have m29 := mk27 n2 (by omega)
              obtain ⟨pb, pc, rfl⟩ := HM2.out.one.2
              have HN2 := hide (HM2.out.next (n2 := n2) (by omega))
              clear HM2
              go_wp2_with fail
              go_loopg [9, 10, 14, 15] n2 (fun g kv wv xv i wr => ∃ k wb, g = n2 - k ∧ k ≤ n2 ∧ i = .int .i64 (k : Nat) ∧ Hid (Made3 w wr B kv wv xv (.slice (some ⟨pb, 0, none⟩) n1 pc) (n1 + k) (n1 + k) k n1 (n1 + k) n1 ks wb))
              case atStart => exact ⟨0, _, rfl, Nat.zero_le _, rfl, HN2⟩
              case round =>
                clear HN2 m29 wb
                obtain ⟨k, wb, hg, hk, rfl, HM2⟩ := hrel
                have HG := hide hg
                clear hg
                by_cases hlt : k < n2
                · obtain ⟨sb, so, rfl, hsb, hc⟩ := HS2.out.addr (by omega)
                  have hsB : sb < B := by rw [HB.out]; exact hsb
                  have h0 : wr.cell? ⟨sb, so + k * 3, none⟩ = some (.string (ks (n1 + k))) := (HM2.out.below.cell (p := ⟨sb, so + k * 3, none⟩) hsB).trans (hc k hlt).1
                  have h1 : wr.cell? ⟨sb, so + k * 3 + 1, none⟩ = _ := (HM2.out.below.cell (p := ⟨sb, so + k * 3 + 1, none⟩) hsB).trans (hc k hlt).2.1
                  have h2 : wr.cell? ⟨sb, so + k * 3 + 2, none⟩ = _ := (HM2.out.below.cell (p := ⟨sb, so + k * 3 + 2, none⟩) hsB).trans (hc k hlt).2.2
                  have hnw := new3 HM2.out sb (so + k * 3) hsB h0 h1 h2
                  have HC : Hid (w.cell? ⟨sb, so + k * 3, none⟩ = some (.string (ks (n1 + k)))) := (hc k hlt).1
                  clear hc
                  obtain ⟨X, HX⟩ : ∃ x, Hid (wr.heap.size = x) := ⟨_, rfl⟩
                  rw [HX.out] at hnw
                  go_wp2_with fail
                  go_region_held3 (fun w' => w'.cell? ⟨sb, so + k * 3, none⟩ = some (.string (ks (n1 + k))) ∧ w'.cell? ⟨sb, so + k * 3 + 1, none⟩ = some (.string (oq k)) ∧ w'.cell? ⟨sb, so + k * 3 + 2, none⟩ = some (.int .i64 (cq k))) (go_keep)
                    ((go_at_call 6; refine hnw.mono ?_; rintro e w1 ⟨rfl, HE⟩; have q0 := HE.c0; have q1 := HE.c1; have q2 := HE.c2))
                  have HM3 := HE.made
                  obtain ⟨wb2, HWB⟩ : ∃ f, Hid (upd wb (n1 + k) wr.heap.size = f) := ⟨_, rfl⟩
                  rw [HWB.out] at HM3
                  have HXX : Hid (wb2 (n1 + k) = X) := by rw [Hid, ← HWB.out, ← HX.out]; simp [upd]
                  clear hnw h0 h1 h2 q0 q1 q2 HE HM2
                  go_wp2_with (first | (at_builtin; refine wpList_app rfl _ _ 27 rfl Try.underlying27 info28 rfl HM3.out.one HM3.out.size (.pointer (some ⟨X, 0, none⟩)) rfl (by omega) (by decide) rfl rfl ?_))
                  intro v4 w4 hA4
                  have HM4 := hide (HM3.out.part HXX.out (by omega) hA4)
                  clear hA4 HM3
                  go_wp2_with (first | (at_builtin; refine wpList_app rfl _ _ 27 rfl Try.underlying27 info28 rfl HM4.out.ptrs HM4.out.size (.pointer (some ⟨X, 0, none⟩)) rfl (by omega) (by decide) rfl rfl ?_))
                  intro v5 w5 hA5
                  have HM5 := hide (HM4.out.ptr HXX.out (by omega) hA5)
                  clear hA5 HM4
                  have q0 : w5.cell? ⟨sb, so + k * 3, none⟩ = some (.string (ks (n1 + k))) := (HM5.out.below.cell (p := ⟨sb, so + k * 3, none⟩) hsB).trans HC.out
                  go_wp2_with (first | (at_builtin; refine wpList_app rfl _ _ 26 rfl Try.underlying26 info9 rfl HM5.out.keys HM5.out.size (.string (ks (n1 + k))) rfl (by omega) (by decide) rfl rfl ?_))
                  intro v6 w6 hA6
                  have HM6 := hide (HM5.out.key hA6)
                  clear hA6 HM5 q0
                  go_wp2_with fail
                  go_roundg (n2 - (k + 1))
                  case measure => rw [HG.out]; omega
                  case rel => exact ⟨k + 1, _, rfl, by omega, by go_num, HM6⟩
                · obtain rfl : n2 = k := by omega
                  clear hlt hk HG
                  have HM3 := HM2.out
                  rw [HN.out] at HM3
                  replace HM3 := hide HM3
                  clear HM2
                  obtain ⟨kb, kc, rfl⟩ := HM3.out.keys.2
                  obtain ⟨qb, qc, rfl⟩ := HM3.out.ptrs.2
                  obtain ⟨xb, xc, rfl⟩ := HM3.out.one.2
                  obtain ⟨hkk, hkb, hr1, hr2, hr3⟩ := HM3.out.readyN HN.out
                  have HK := hide hkk
                  have R1 := hide hr1
                  have R2 := hide hr2
                  have R3 := hide hr3
                  have HW := hide HM3.out.below
                  have hBV := HM3.out.size
                  clear hkk hr1 hr2 hr3 HM3
                  have HF : Hid (∀ j, j < N → kfOf wr (wb j) = ks j) := R1.out.kf
                  have HFs : Hid (∀ j, j < n1 + n2 → kfOf wr (wb j) = ks j) := by rw [HN.out]; exact HF.out
                  obtain ⟨kf, HKF⟩ : ∃ kf, Hid (kfOf wr = kf) := ⟨_, rfl⟩
                  rw [HKF.out] at HF HFs
                  have k1 := new_holds kf wr
                  obtain ⟨L, HL⟩ : ∃ L, Hid (wr.heap.size = L) := ⟨_, rfl⟩
                  rw [HL.out] at R1 R2 R3 hBV k1 hkb
                  obtain ⟨ra, HA⟩ : ∃ r, Hid (L + 2 = r) := ⟨_, rfl⟩
                  rw [HA.out] at k1
                  go_wp2_with (go_at_call 7; refine k1.mono ?_; rintro e V2 ⟨rfl, hb2, hh2⟩)
                  have hsz2 : L ≤ V2.heap.size := by rw [← HL.out]; exact hb2.size
                  have k2 := add_ready hh2 (R2.out.under hb2) (fun j hj => HFs.out j (by omega)) hsz2 0 n1 pc 0 (by omega) (fun _ => rfl) (by simp; omega)
                  rw [adds_first (n := n1) (fun j hj => HFs.out j (by omega)) n1 (Nat.le_refl _)] at k2
                  have HB2 := hide hb2
                  clear k1 hh2 hb2
                  refine k2.mono ?_
                  rintro e V3 ⟨rfl, hb3, hh3⟩
                  have hsz3 : L ≤ V3.heap.size := Nat.le_trans hsz2 hb3.size
                  have HB3 := hide (HB2.out.trans hb3)
                  have hll := lasts_length_le ks n1
                  have k3 := add_ready hh3 (R3.out.under HB3.out) (fun j hj => HFs.out (n1 + j) (by omega)) hsz3 0 n2 xc 0 (by omega) (fun _ => rfl) (by rw [List.length_map]; omega)
                  rw [adds_third HFs.out, HN.out] at k3
                  obtain ⟨xs, HX⟩ : ∃ xs, Hid ((lasts ks N).map wb = xs) := ⟨_, rfl⟩
                  rw [HX.out] at k3
                  obtain ⟨m, HK2⟩ : ∃ m, Hid (m = (lasts ks N).length) := ⟨_, rfl⟩
                  have hlen : xs.length = m := by rw [← HX.out, List.length_map, HK2.out]
                  have hmN : m ≤ N := by rw [HK2.out]; exact lasts_length_le _ _
                  clear k2 hh3 hb3 hll
                  go_wp2_with fail
                  refine k3.mono ?_
                  rintro e V4 ⟨rfl, hb4, hh4⟩
                  have hsz4 : L ≤ V4.heap.size := Nat.le_trans hsz3 hb4.size
                  have HB4 := hide (HB3.out.trans hb4)
                  have HH4 := hide hh4
                  have k4 := queue_holds hh4 (by omega)
                  rw [hlen] at k4
                  clear k3 hh4 hb4 HB2 HB3 hsz2 hsz3
                  go_wp2_with fail
                  refine k4.mono ?_
                  rintro e V5 ⟨A1, c1, rfl, hb5, hg5⟩
                  have HB5 := hide (HB4.out.trans (hb5.mono hsz4))
                  have HH5 := hide (HH4.out.under hb5)
                  have HG5 := hide hg5
                  have R5 := hide (R1.out.under HB5.out)
                  have HK5 : Hid (∀ j, j < N → V5.cell? ⟨kb, j, none⟩ = some (.string (ks j))) := fun j hj => (HB5.out.cell (p := ⟨kb, j, none⟩) hkb).trans (HK.out j hj)
                  have HW5 := hide (HW.out.trans (HB5.out.mono hBV))
                  clear k4 hb5 hg5 HH4 HB4 hsz4 R1 R2 R3 HK HW
                  go_wp2_with fail

                  go_loopw [19, 20] (fun d i w' => ∃ e k : Nat, Hid (e = cnt ks N k) ∧ e ≤ k ∧ k ≤ N ∧ d = .int .i64 e ∧ i = .int .i64 k ∧ ∃ nq, w' = V5.drewN nq) (fun _ i _ => N - (intOf i).toNat)
                  case atStart => exact ⟨0, 0, rfl, Nat.le_refl _, Nat.zero_le _, rfl, rfl, 0, rfl⟩
                  case round =>
                    obtain ⟨e, k, HC, hek, hk, rfl, rfl, nq0, rfl⟩ := hrel
                    by_cases hlt : k < N
                    · by_cases hl : LastOf ks k N
                      · have hcall := last_yes (kc := kc) (w := V5.drewN nq0) (by omega) hlt HK5.out hl
                        have hem : e < m := by rw [HC.out, HK2.out]; exact cnt_lt ks N k hlt hl
                        have hxk : xs[e]? = some (wb k) := by rw [← HX.out, List.getElem?_map, HC.out, lasts_at ks N k hlt hl]; rfl
                        obtain ⟨g1, rfl, _, hg1⟩ := HG5.out (by omega)
                        have D1 := hide (hg1 e (wb k) hxk)
                        have D2 := hide (R5.out.ptr k hlt)
                        have D3 := hide (HK5.out k hlt)
                        have DM := hide (List.mem_of_getElem? hxk)
                        have DK := hide (HF.out k hlt)
                        replace hl := hide hl
                        have hne := neq28_same ⟨wb k, 0, none⟩
                        clear hg1 hxk
                        go_wp2_with (go_at_call 10; refine hcall.mono ?_; rintro e' w' ⟨rfl, nq1, rfl⟩)
                        clear hcall
                        obtain ⟨U, HU⟩ : ∃ U, Hid (V5.drewN (nq0 + nq1) = U) := ⟨_, rfl⟩
                        have d1 : (V5.drewN (nq0 + nq1)).cell? ⟨g1, e, none⟩ = some (.pointer (some ⟨wb k, 0, none⟩)) := D1.out
                        have d2 : (V5.drewN (nq0 + nq1)).cell? ⟨qb, k, none⟩ = some (.pointer (some ⟨wb k, 0, none⟩)) := D2.out
                        try rw [World.drewN_drewN]
                        rw [HU.out] at d1 d2 ⊢
                        go_quiet (fail)
                        clear d1 d2
                        go_wp2_with fail
                        obtain ⟨T, HT⟩ : ∃ T, Hid (U.drewN nq = T) := ⟨_, rfl⟩
                        have d2 : T.cell? ⟨qb, k, none⟩ = some (.pointer (some ⟨wb k, 0, none⟩)) := by rw [← HT.out, ← HU.out]; exact D2.out
                        have d3 : T.cell? ⟨kb, k, none⟩ = some (.string (ks k)) := by rw [← HT.out, ← HU.out]; exact D3.out
                        have HHT : Hid (Holds T.drew L ra kf xs 1) := HH5.out.under (by rw [← HT.out, ← HU.out]; exact (below_drewN (below_drewN (Below.refl _ _) _) _).drew)
                        have hwo := waitingOf_holds HHT.out (wb k) DM.out
                        rw [DK.out] at hwo
                        rw [HT.out]
                        go_region_held3 (fun w' => w'.cell? ⟨qb, k, none⟩ = some (.pointer (some ⟨wb k, 0, none⟩)) ∧ w'.cell? ⟨kb, k, none⟩ = some (.string (ks k))) (go_keep)
                          ((go_at_call 11; refine hwo.mono ?_; rintro e' w' ⟨rfl, rfl⟩))
                        go_wp2_with fail
                        go_roundw
                        case rel => exact ⟨e + 1, k + 1, by rw [Hid, cnt_yes _ _ _ hl.out, HC.out], by omega, by omega, by go_num, by go_num, nq0 + nq1 + nq + 1, by rw [← HT.out, ← HU.out, World.drewN_drewN]; rfl⟩
                        case measure => simp [intOf]; omega
                      · have hcall := last_no (kc := kc) (w := V5.drewN nq0) (by omega) hlt HK5.out hl
                        replace hl := hide hl
                        go_wp2_with (go_at_call 10; refine hcall.mono ?_; rintro e' w' ⟨rfl, nq, rfl⟩)
                        go_roundw
                        case rel => exact ⟨e, k + 1, by rw [Hid, cnt_no _ _ _ hl.out, HC.out], by omega, by omega, by go_num, by go_num, _, rfl⟩
                        case measure => simp [intOf]; omega
                    · obtain rfl : N = k := by omega
                      clear hlt hk
                      obtain rfl : e = m := by rw [HC.out, HK2.out, cnt_all]
                      have w1 := waitingLen_holds (HH5.out.under (below_drewN (Below.refl _ _) nq0))
                      have w2 := woken_holds (HH5.out.under (below_drewN (Below.refl _ _) nq0))
                      rw [hlen] at w1
                      have HW6 : Hid (Below B w (V5.drewN nq0)) := below_drewN HW5.out nq0
                      generalize V5.drewN nq0 = T at *
                      go_wp2_with (first | (go_at_call 12; refine w1.mono ?_; rintro e w' ⟨rfl, rfl⟩) | (go_at_call 13; refine w2.mono ?_; rintro e w' ⟨rfl, rfl⟩))
                      go_ret
                      exact ⟨ret_bool rfl, HW6.out⟩
end Go.Proofs.Qxb6626077a
