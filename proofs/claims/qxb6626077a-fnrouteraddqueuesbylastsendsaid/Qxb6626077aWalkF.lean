/- The second law, from its tests to the sends made. -/
import Derived.Test.Qxb6626077aRouted
import Derived.BigQuiet
namespace Go.Proofs.Qxb6626077a
open Go.RowKit Go.Conc

theorem mk26 (n : Nat) (hn : n ≤ 10000) (w : World) : (Instr.makeSlice 26 (.int .i64 0) (.int .i64 (n : Int))).run Try.prog w = .ok (.slice (some ⟨w.heap.size, 0, none⟩) 0 n) (w.alloc (.cells (madeCells #[.string ByteArray.empty] n) 9)) := by
  obtain ⟨i0, hi, hz0, hz1, hz2⟩ := info_parts info9
  have hr := run_make (P := Try.prog) w 26 9 i0 _ Try.underlying26 hi hz0 .i64 .i64 0 n (by omega) (by omega) (by rw [hz2]; omega) (by omega)
  have hc : (Value.string ByteArray.empty).cells = #[.string ByteArray.empty] := rfl
  simpa [hz1, hc] using hr
theorem mk27 (n : Nat) (hn : n ≤ 10000) (w : World) : (Instr.makeSlice 27 (.int .i64 0) (.int .i64 (n : Int))).run Try.prog w = .ok (.slice (some ⟨w.heap.size, 0, none⟩) 0 n) (w.alloc (.cells (madeCells #[.pointer none] n) 28)) := by
  obtain ⟨i0, hi, hz0, hz1, hz2⟩ := info_parts info28
  have hr := run_make (P := Try.prog) w 27 28 i0 _ Try.underlying27 hi hz0 .i64 .i64 0 n (by omega) (by omega) (by rw [hz2]; omega) (by omega)
  have hc : (Value.pointer none).cells = #[.pointer none] := rfl
  simpa [hz1, hc] using hr
theorem OwnAt.made (w : World) (B : Nat) (hB : B ≤ w.heap.size) (e : TypeId) (z : Value) (n : Nat) (hn : n ≤ 10000) : OwnAt (w.alloc (.cells (madeCells #[z] n) e)) B e (.slice (some ⟨w.heap.size, 0, none⟩) 0 n) 0 [] :=
  ⟨World.ownsRow_made w _ n hB (by unfold maxLen; omega) (by rw [size_madeCells]; omega), _, _, rfl⟩
theorem Made.start {w0 W : World} {B : Nat} (n : Nat) (hn : n ≤ 10000) (hb : Below B w0 W) (hB : B ≤ W.heap.size) (ks : Nat → ByteArray) :
    Made w0 ((W.alloc (.cells (madeCells #[.string ByteArray.empty] n) 9)).alloc (.cells (madeCells #[.pointer none] n) 28)) B (.slice (some ⟨W.heap.size, 0, none⟩) 0 n) (.slice (some ⟨W.heap.size + 1, 0, none⟩) 0 n) 0 0 ks (fun _ => 0) := by
  refine ⟨(hb.alloc hB _).alloc (by simp; omega) _, by simp; omega, (OwnAt.made W B hB 9 _ n hn).alloc _, ?_, fun i hi => absurd hi (by omega)⟩
  have := OwnAt.made (W.alloc (.cells (madeCells #[.string ByteArray.empty] n) 9)) B (by simp; omega) 28 (.pointer none) n hn
  show OwnAt _ _ _ _ _ []
  simpa using this

/-- What the walk is told behind the making of a send: the cells of the one at hand; the slice that it is laid into. -/
structure NewW (wr w1 : World) (B : Nat) (wv : Value) (k : Nat) (ks os : Nat → ByteArray) (cs : Nat → Int) (wb : Nat → Nat) (sb o : Nat) : Prop where
  eq : w1 = wr.drew.alloc (.cells (waitCells (ks k) (os k) (cs k)) 47)
  c0 : w1.cell? ⟨sb, o, none⟩ = some (.string (ks k))
  c1 : w1.cell? ⟨sb, o + 1, none⟩ = some (.string (os k))
  c2 : w1.cell? ⟨sb, o + 2, none⟩ = some (.int .i64 (cs k))
  own : OwnAt w1 B 28 wv k (pvals wb k)
  size : B ≤ w1.heap.size
theorem newW {w0 wr : World} {B : Nat} {kv wv : Value} {k : Nat} {ks os : Nat → ByteArray} {cs : Nat → Int} {wb : Nat → Nat} (h : Made w0 wr B kv wv k k ks wb) (sb o : Nat) (hp : sb < B)
    (h0 : wr.cell? ⟨sb, o, none⟩ = some (.string (ks k))) (h1 : wr.cell? ⟨sb, o + 1, none⟩ = some (.string (os k))) (h2 : wr.cell? ⟨sb, o + 2, none⟩ = some (.int .i64 (cs k))) :
    Calls Try.prog 6 #[.string (ks k), .string (os k), .int .i64 (cs k)] wr.drew fun e w1 => e = .returned (.pointer (some ⟨wr.heap.size, 0, none⟩)) ∧ NewW wr w1 B wv k ks os cs wb sb o := by
  refine (newWaiting_any _ _ _ _).mono ?_
  rintro e w1 ⟨rfl, rfl⟩
  have hs := h.size
  obtain ⟨hb, ho, h3, h4⟩ := h.call (os k) (cs k)
  have hbb : Below B wr (wr.drew.alloc (.cells (waitCells (ks k) (os k) (cs k)) 47)) := (Below.refl _ _).drew.alloc hs _
  refine ⟨rfl, rfl, ?_, ?_, ?_, h3, by simp; omega⟩
  · rw [hbb.cell (p := ⟨sb, o, none⟩) hp]; exact h0
  · rw [hbb.cell (p := ⟨sb, o + 1, none⟩) hp]; exact h1
  · rw [hbb.cell (p := ⟨sb, o + 2, none⟩) hp]; exact h2
theorem NewW.app {w0 wr w1 w3 : World} {B : Nat} {kv wv wv' : Value} {k : Nat} {ks os : Nat → ByteArray} {cs : Nat → Int} {wb : Nat → Nat} {sb o : Nat} (h : NewW wr w1 B wv k ks os cs wb sb o) (hm : Made w0 wr B kv wv k k ks wb) (hp : sb < B)
    (hA : App w1 w3 B 28 wv wv' k (pvals wb k) (.pointer (some ⟨wr.heap.size, 0, none⟩))) :
    Hid (Made w0 w3 B kv wv' k (k + 1) ks (upd wb k wr.heap.size)) ∧ w3.cell? ⟨sb, o, none⟩ = some (.string (ks k)) ∧ w3.cell? ⟨sb, o + 1, none⟩ = some (.string (os k)) ∧ w3.cell? ⟨sb, o + 2, none⟩ = some (.int .i64 (cs k)) := by
  have hbb : Below B w1 w3 := hA.below (Below.refl _ _) h.size h.own
  refine ⟨hm.ptr h.eq hA, ?_, ?_, ?_⟩
  · rw [hbb.cell (p := ⟨sb, o, none⟩) hp]; exact h.c0
  · rw [hbb.cell (p := ⟨sb, o + 1, none⟩) hp]; exact h.c1
  · rw [hbb.cell (p := ⟨sb, o + 2, none⟩) hp]; exact h.c2
theorem Made.ready {w0 W : World} {B kb kc pb pc n : Nat} {ks : Nat → ByteArray} {wb : Nat → Nat} (h : Made w0 W B (.slice (some ⟨kb, 0, none⟩) n kc) (.slice (some ⟨pb, 0, none⟩) n pc) n n ks wb) :
    (∀ j, j < n → W.cell? ⟨kb, j, none⟩ = some (.string (ks j))) ∧ Ready W W.heap.size pb n ks wb ∧ n ≤ pc := by
  obtain ⟨_, _, _, h1⟩ := h.keys.at
  obtain ⟨h2, _, h3, h4⟩ := h.ptrs.at
  refine ⟨fun j hj => h1 j _ (by simp [kvals, hj]), ⟨fun j hj => h4 j _ (by simp [pvals, hj]), fun j hj => ⟨(h.waits j hj).2.row.lt, (h.waits j hj).2.cell⟩, h3⟩, h2⟩
theorem last_yes {ks : Nat → ByteArray} {kb n kc i : Nat} {w : World} (hn : n ≤ 10000) (hi : i < n) (hc : ∀ j, j < n → w.cell? ⟨kb, j, none⟩ = some (.string (ks j))) (hl : LastOf ks i n) :
    Calls Try.prog 10 #[.slice (some ⟨kb, 0, none⟩) n kc, .int .i64 (i : Nat)] w fun e w' => e = .returned (.bool true) ∧ ∃ nq, w' = w.drewN nq := by
  refine (lastOf_any kb n kc i ks w hn hi hc).mono ?_
  rintro e w' ⟨⟨b, rfl, hb⟩, h⟩
  rw [hb.2 hl]; exact ⟨rfl, h⟩
theorem last_no {ks : Nat → ByteArray} {kb n kc i : Nat} {w : World} (hn : n ≤ 10000) (hi : i < n) (hc : ∀ j, j < n → w.cell? ⟨kb, j, none⟩ = some (.string (ks j))) (hl : ¬ LastOf ks i n) :
    Calls Try.prog 10 #[.slice (some ⟨kb, 0, none⟩) n kc, .int .i64 (i : Nat)] w fun e w' => e = .returned (.bool false) ∧ ∃ nq, w' = w.drewN nq := by
  refine (lastOf_any kb n kc i ks w hn hi hc).mono ?_
  rintro e w' ⟨⟨b, rfl, hb⟩, h⟩
  cases b
  · exact ⟨rfl, h⟩
  · exact absurd (hb.1 rfl) hl

theorem cut1 (pb n pc c : Nat) (h : c ≤ pc) (w : World) : (Instr.slice 27 (.slice (some ⟨pb, 0, none⟩) n pc) none (some (.int .i64 (c : Int))) (some (.int .i64 (c : Int)))).run Try.prog w = .ok (.slice (some ⟨pb, 0, none⟩) c c) w := by
  obtain ⟨i0, hi, hz0, hz1, hz2⟩ := info_parts info28
  have he : Try.prog.elem 27 = 28 := by kernel_rfl
  rw [run_slice_hm (P := Try.prog) w 27 _ n pc (by rw [he]; exact Try.underlying27) .i64 .i64 c c (by omega) (by omega) (by omega), he]
  simp [sizeOf, typeInfo, hi, hz1, sliced, Addr.add]
theorem cut2 (pb n pc c : Nat) (h : c ≤ n) (w : World) : (Instr.slice 27 (.slice (some ⟨pb, 0, none⟩) n pc) (some (.int .i64 (c : Int))) none none).run Try.prog w = .ok (.slice (some ⟨pb, if pc = c then 0 else c, none⟩) (n - c) (pc - c)) w := by
  obtain ⟨i0, hi, hz0, hz1, hz2⟩ := info_parts info28
  have he : Try.prog.elem 27 = 28 := by kernel_rfl
  rw [run_slice_l (P := Try.prog) w 27 _ n pc (by rw [he]; exact Try.underlying27) .i64 c (by omega) (by omega), he]
  by_cases e : pc = c
  · simp [sizeOf, typeInfo, hi, hz1, sliced, e]
  · simp [sizeOf, typeInfo, hi, hz1, sliced, e, Addr.add]
    intro h0; exact h0.symm
theorem adds_first {kf : Nat → ByteArray} {wb : Nat → Nat} {ks : Nat → ByteArray} {n : Nat} (h : ∀ j, j < n → kf (wb j) = ks j) (c : Nat) (hc : c ≤ n) : adds kf [] ((List.range c).map fun i => wb (0 + i)) = (lasts ks c).map wb := by
  have : (fun i => wb (0 + i)) = wb := by funext i; rw [Nat.zero_add]
  rw [this]; exact adds_lasts kf wb ks n h c hc
theorem adds_second {kf : Nat → ByteArray} {wb : Nat → Nat} {ks : Nat → ByteArray} {n : Nat} (h : ∀ j, j < n → kf (wb j) = ks j) (c l : Nat) (hc : c + l ≤ n) : adds kf ((lasts ks c).map wb) ((List.range l).map fun i => wb (c + i)) = (lasts ks (c + l)).map wb := by
  rw [← adds_lasts kf wb ks n h c (by omega), adds_append, range_split]; exact adds_lasts kf wb ks n h (c + l) hc

theorem Sends.drewN {w : World} {A : Option Addr} {n : Nat} {ks os : Nat → ByteArray} {cs : Nat → Int} (h : Sends w A n ks os cs) (nq : Nat) : Sends (w.drewN nq) A n ks os cs := ⟨h.addr, h.kbd, h.obd⟩

set_option maxRecDepth 100000 in
set_option maxHeartbeats 1000000 in
theorem law4 (A : Option Addr) (n cap : Nat) (ks os : Nat → ByteArray) (cs : Nat → Int) (cut : Int) (w : World) (h : Sends w A n ks os cs) (hn : n ≤ 9223372036854775807) :
    Calls Try.prog 4 #[.slice A n cap, .int .i64 cut] w fun e w' => e = .returned (.bool true) ∧ Below w.heap.size w w' := by
  have hby := bytes14_any A n cap ks os cs cut w h hn
  have HS := hide h
  clear h
  obtain ⟨B, hB⟩ : ∃ B, B = w.heap.size := ⟨_, rfl⟩
  rw [← hB]
  have HB := hide hB
  clear hB
  by_cases hsm : n ≤ 4096
  case neg =>
    go_enter Try.func4, Try.ntmps4
    go_wp2_with (go_at_call 14; refine hby.mono ?_; rintro e w' ⟨⟨b, rfl, HV⟩, rfl⟩)
    all_goals (go_ret; exact ⟨ret_bool rfl, Below.refl _ _⟩)
  go_enter Try.func4, Try.ntmps4
  go_wp2_with (go_at_call 14; refine hby.mono ?_; rintro e w' ⟨⟨b, rfl, HV⟩, rfl⟩)
  all_goals first | (go_ret; exact ⟨ret_bool rfl, Below.refl _ _⟩) | skip
  have hbf : (!b) = false := by assumption
  have hbt : b = true := by simpa using hbf
  replace HV := hide (HV hbt)
  subst hbt
  clear hby
  go_loopw [5, 6] (fun z i wr => ∃ m k : Nat, m ≤ 1048576 ∧ k ≤ n ∧ z = .int .i64 m ∧ i = .int .i64 k ∧ ∃ nq, wr = w.drewN nq) (fun _ i _ => n - (intOf i).toNat)
  case atStart => exact ⟨0, 0, by omega, Nat.zero_le _, rfl, rfl, 0, rfl⟩
  case round =>
    obtain ⟨m, k, hm, hk, rfl, rfl, nq0, rfl⟩ := hrel
    by_cases hlt : k < n
    · obtain ⟨sb, so, rfl, hsb, hc⟩ := HS.out.addr (by omega)
      have h0 : (w.drewN nq0).cell? ⟨sb, so + k * 3, none⟩ = _ := (hc k hlt).1
      have h1 : (w.drewN nq0).cell? ⟨sb, so + k * 3 + 1, none⟩ = _ := (hc k hlt).2.1
      have hb0 := (HV.out k hlt).1
      have hb1 := (HV.out k hlt).2
      clear hc
      obtain ⟨W, HW⟩ : ∃ W, Hid (w.drewN nq0 = W) := ⟨_, rfl⟩
      rw [HW.out] at h0 h1
      rw [HW.out]
      go_wp2_with fail
      go_quiet (fail)
      by_cases hbig : m + (40 + (ks k).size + (os k).size) ≤ 1048576
      · go_wp2_with fail
        go_roundw
        case rel => exact ⟨m + (40 + (ks k).size + (os k).size), k + 1, by omega, by omega, by go_num, by go_num, nq0 + nq, by rw [← HW.out, World.drewN_drewN]⟩
        case measure => simp [intOf]; omega
      · go_wp2_with fail
        go_ret
        exact ⟨ret_bool rfl, by rw [← HW.out, World.drewN_drewN]; exact below_drewN (Below.refl _ _) _⟩
    · obtain rfl : n = k := by omega
      clear hlt hk hm
      by_cases hc0 : cut < 0
      · go_wp2_with fail
        go_ret
        exact ⟨ret_bool rfl, below_drewN (Below.refl _ _) _⟩
      by_cases hc1 : (n : Int) < cut
      · go_wp2_with fail
        go_ret
        exact ⟨ret_bool rfl, below_drewN (Below.refl _ _) _⟩
      obtain ⟨c, rfl⟩ : ∃ c : Nat, cut = (c : Int) := ⟨cut.toNat, by omega⟩
      have hcn : c ≤ n := by omega
      have HW : Hid (Below B w (w.drewN nq0)) := below_drewN (Below.refl _ _) _
      have hBW : B ≤ (w.drewN nq0).heap.size := by rw [HB.out]; exact Nat.le_refl _
      generalize w.drewN nq0 = W at *
      have HM := hide (Made.start n (by omega) HW.out hBW ks)
      have m26 := mk26 n (by omega)
      have m27 := mk27 n (by omega)
      go_wp2_with fail
      go_loopg [7, 8, 9] n (fun g kv wv i wr => ∃ k wb, g = n - k ∧ k ≤ n ∧ i = .int .i64 (k : Nat) ∧ Hid (Made w wr B kv wv k k ks wb))
      case atStart => exact ⟨0, _, rfl, Nat.zero_le _, rfl, HM⟩
      case round =>
        obtain ⟨k, wb, hg, hk, rfl, HM2⟩ := hrel
        have HG := hide hg
        clear hg HM HW hBW m26 m27
        by_cases hlt : k < n
        · obtain ⟨sb, so, rfl, hsb, hc⟩ := HS.out.addr (by omega)
          have hsB : sb < B := by rw [HB.out]; exact hsb
          have h0 : wr.cell? ⟨sb, so + k * 3, none⟩ = _ := (HM2.out.below.cell (p := ⟨sb, so + k * 3, none⟩) hsB).trans (hc k hlt).1
          have h1 : wr.cell? ⟨sb, so + k * 3 + 1, none⟩ = _ := (HM2.out.below.cell (p := ⟨sb, so + k * 3 + 1, none⟩) hsB).trans (hc k hlt).2.1
          have h2 : wr.cell? ⟨sb, so + k * 3 + 2, none⟩ = _ := (HM2.out.below.cell (p := ⟨sb, so + k * 3 + 2, none⟩) hsB).trans (hc k hlt).2.2
          have hnw := newW HM2.out sb (so + k * 3) hsB h0 h1 h2
          obtain ⟨x, HX⟩ : ∃ x, Hid (wr.heap.size = x) := ⟨_, rfl⟩
          rw [HX.out] at hnw
          have HC := hide hc
          clear hc
          go_wp2_with fail
          go_region_held3 (fun w' => w'.cell? ⟨sb, so + k * 3, none⟩ = some (.string (ks k)) ∧ w'.cell? ⟨sb, so + k * 3 + 1, none⟩ = some (.string (os k)) ∧ w'.cell? ⟨sb, so + k * 3 + 2, none⟩ = some (.int .i64 (cs k))) (go_keep)
            ((first
              | (go_at_call 6; refine hnw.mono ?_; rintro e w1 ⟨rfl, HN⟩; have n0 := HN.c0; have n1 := HN.c1; have n2 := HN.c2)
              | (refine step_app rfl _ _ 27 rfl Try.underlying27 info28 rfl HN.own HN.size (.pointer (some ⟨x, 0, none⟩)) rfl (by omega) (by decide) rfl rfl ?_; intro v3 w3 hA; rw [← HX.out] at hA; obtain ⟨HM3, n30, n31, n32⟩ := HN.app HM2.out hsB hA)))
          clear hnw n0 n1 n2 h0 h1 h2 n31 n32
          clear HN hA HM2
          go_wp2_with (first | (at_builtin; refine wpList_app rfl _ _ 26 rfl Try.underlying26 info9 rfl HM3.out.keys HM3.out.size (.string (ks k)) rfl (by omega) (by decide) rfl rfl ?_))
          intro v5 w5 hA5
          have HM5 := hide (HM3.out.key hA5)
          clear hA5 HM3 n30
          go_wp2_with fail
          go_roundg (n - (k + 1))
          case measure => rw [HG.out]; omega
          case rel => exact ⟨k + 1, _, rfl, by omega, by go_num, HM5⟩
        · obtain rfl : n = k := by omega
          clear hlt hk HG
          obtain ⟨kb, kc, rfl⟩ := HM2.out.keys.2
          obtain ⟨pb, pc, rfl⟩ := HM2.out.ptrs.2
          obtain ⟨hkk, hrd, hpc⟩ := HM2.out.ready
          have HK := hide hkk
          have HR := hide hrd
          have HW := hide HM2.out.below
          have hBr := HM2.out.size
          clear hkk hrd HM2
          go_wp2_with fail
          go_loopw [10, 11] (fun d i w' => ∃ m k : Nat, Hid (m = cnt ks n k) ∧ m ≤ k ∧ k ≤ n ∧ d = .int .i64 m ∧ i = .int .i64 k ∧ ∃ nq, w' = wr.drewN nq) (fun _ i _ => n - (intOf i).toNat)
          case atStart => exact ⟨0, 0, rfl, Nat.le_refl _, Nat.zero_le _, rfl, rfl, 0, rfl⟩
          case round =>
            obtain ⟨m, k, HC, hmk, hk, rfl, rfl, nq0, rfl⟩ := hrel
            by_cases hlt : k < n
            · by_cases hl : LastOf ks k n
              · have hcall := last_yes (kc := kc) (w := wr.drewN nq0) (by omega) hlt HK.out hl
                replace hl := hide hl
                go_wp2_with (go_at_call 10; refine hcall.mono ?_; rintro e w' ⟨rfl, nq, rfl⟩)
                go_roundw
                case rel => exact ⟨m + 1, k + 1, by rw [Hid, cnt_yes _ _ _ hl.out, HC.out], by omega, by omega, by go_num, by go_num, _, rfl⟩
                case measure => simp [intOf]; omega
              · have hcall := last_no (kc := kc) (w := wr.drewN nq0) (by omega) hlt HK.out hl
                replace hl := hide hl
                go_wp2_with (go_at_call 10; refine hcall.mono ?_; rintro e w' ⟨rfl, nq, rfl⟩)
                go_roundw
                case rel => exact ⟨m, k + 1, by rw [Hid, cnt_no _ _ _ hl.out, HC.out], by omega, by omega, by go_num, by go_num, _, rfl⟩
                case measure => simp [intOf]; omega
            · obtain rfl : n = k := by omega
              clear hlt hk
              have HK2 : Hid (m = (lasts ks n).length) := HC.out
              have HR2 : Hid (Ready (wr.drewN nq0) (wr.drewN nq0).heap.size pb n ks wb) := ⟨HR.out.ptr, HR.out.wait, HR.out.lt⟩
              have HW2 : Hid (Below B w (wr.drewN nq0)) := below_drewN HW.out nq0
              have hBV : B ≤ (wr.drewN nq0).heap.size := hBr
              clear HC HK HR HW hBr
              generalize wr.drewN nq0 = V at *
              have HF : Hid (∀ j, j < n → kfOf V (wb j) = ks j) := HR2.out.kf
              have k1 := new_holds (kfOf V) V
              obtain ⟨L, HL⟩ : ∃ L, Hid (V.heap.size = L) := ⟨_, rfl⟩
              rw [HL.out] at HR2 hBV k1
              obtain ⟨ra, HA⟩ : ∃ r, Hid (L + 2 = r) := ⟨_, rfl⟩
              rw [HA.out] at k1
              have s1 := cut1 pb n pc c (by omega)
              have s2 := cut2 pb n pc c hcn
              obtain ⟨so, HO⟩ : ∃ so, Hid ((if pc = c then 0 else c) = so) := ⟨_, rfl⟩
              rw [HO.out] at s2
              go_wp2_with (go_at_call 7; refine k1.mono ?_; rintro e V2 ⟨rfl, hb2, hh2⟩)
              have hsz2 : L ≤ V2.heap.size := by rw [← HL.out]; exact hb2.size
              have HR3 := hide (HR2.out.under hb2)
              have k2 := add_ready hh2 HR3.out HF.out hsz2 0 c c 0 (by omega) (fun _ => rfl) (by simp; omega)
              rw [adds_first HF.out c hcn] at k2
              have HW3 := hide (HW2.out.trans (hb2.mono hBV))
              clear k1 hh2 hb2 HW2 HR2
              refine k2.mono ?_
              rintro e V3 ⟨rfl, hb3, hh3⟩
              have hsz3 : L ≤ V3.heap.size := Nat.le_trans hsz2 hb3.size
              have HR4 := hide (HR3.out.under hb3)
              have hll := lasts_length_le ks c
              have k3 := add_ready hh3 HR4.out HF.out hsz3 so (n - c) (pc - c) c (by omega) (fun h0 => by rw [← HO.out, if_neg (by omega)]) (by rw [List.length_map]; omega)
              rw [adds_second HF.out c (n - c) (by omega), show c + (n - c) = n by omega] at k3
              obtain ⟨xs, HX⟩ : ∃ xs, Hid ((lasts ks n).map wb = xs) := ⟨_, rfl⟩
              rw [HX.out] at k3
              have hlen : xs.length = m := by rw [← HX.out, List.length_map, HK2.out]
              have HW4 := hide (HW3.out.trans (hb3.mono hBV))
              clear k2 hh3 hb3 HW3 HR3 hsz2 hll
              go_wp2_with fail
              refine k3.mono ?_
              rintro e V4 ⟨rfl, hb4, hh4⟩
              have hsz4 : L ≤ V4.heap.size := Nat.le_trans hsz3 hb4.size
              have HR5 := hide (HR4.out.under hb4)
              have HW5 := hide (HW4.out.trans (hb4.mono hBV))
              have k4 := new_holds (kfOf V) V4
              obtain ⟨M, HM⟩ : ∃ M, Hid (V4.heap.size = M) := ⟨_, rfl⟩
              have hhu := fun (w' : World) (h : Below V4.heap.size V4 w') => hh4.under h
              rw [HM.out] at k4 hsz4
              simp only [HM.out] at hhu
              replace hhu := hide hhu
              obtain ⟨rr, HQ⟩ : ∃ r, Hid (M + 2 = r) := ⟨_, rfl⟩
              rw [HQ.out] at k4
              clear k3 hh4 hb4 HW4 HR4 hsz3
              go_wp2_with fail
              refine k4.mono ?_
              rintro e V5 ⟨rfl, hb5, hh5⟩
              have hsz5 : M ≤ V5.heap.size := by rw [← HM.out]; exact hb5.size
              have HR6 := hide ((HR5.out.up hsz4).under hb5)
              have HW6 := hide (HW5.out.trans (hb5.mono (Nat.le_trans hBV hsz4)))
              have k5 := add_ready hh5 HR6.out HF.out hsz5 0 n pc 0 (by omega) (fun _ => rfl) (by simp; omega)
              rw [adds_first HF.out n (Nat.le_refl _), HX.out] at k5
              have HB5 := hide hb5
              clear k4 hh5 hb5 HW5 HR5
              go_wp2_with fail
              refine k5.mono ?_
              rintro e V6 ⟨rfl, hb6, hh6⟩
              have HR7 := hide (HR6.out.under hb6)
              have HW7 := hide (HW6.out.trans (hb6.mono (Nat.le_trans hBV hsz4)))
              have HA6 := hide (hhu.out _ (HB5.out.trans hb6))
              have HB6 := hide hh6
              have hsz6 : M ≤ V6.heap.size := Nat.le_trans hsz5 hb6.size
              have k6 := queue_holds HA6.out (by omega)
              rw [hlen] at k6
              clear k5 hh6 hb6 HB5 hhu HW6 HR6 hsz5
              go_wp2_with fail
              refine k6.mono ?_
              rintro e V7 ⟨A1, c1, rfl, hb7, hg7⟩
              have HR8 := hide (HR7.out.under (hb7.mono hsz6))
              have HW8 := hide (HW7.out.trans (hb7.mono (Nat.le_trans (Nat.le_trans hBV hsz4) hsz6)))
              have HA7 := hide (HA6.out.under hb7)
              have HB7 := hide (HB6.out.under hb7)
              have hsz7 : M ≤ V7.heap.size := Nat.le_trans hsz6 hb7.size
              have k7 := queue_holds HB7.out (by omega)
              rw [hlen] at k7
              replace hg7 := hide hg7
              clear k6 hb7 HA6 HB6 HR7 HW7 hsz6
              go_wp2_with fail
              refine k7.mono ?_
              rintro e V8 ⟨A2, c2, rfl, hb8, hg8⟩
              have HR9 := hide (HR8.out.under (hb8.mono hsz7))
              have HW9 := hide (HW8.out.trans (hb8.mono (Nat.le_trans (Nat.le_trans hBV hsz4) hsz7)))
              have HA8 := hide (HA7.out.under hb8)
              have HB8 := hide (HB7.out.under hb8)
              have HG1 := hide (hg7.out.under hb8)
              replace hg8 := hide hg8
              clear k7 hb8 HA7 HB7 HR8 HW8 hsz7 hg7
              go_wp2_with fail
              clear s1 s2
              go_loopw [16] (fun i w' => ∃ k : Nat, k ≤ m ∧ i = .int .i64 k ∧ ∃ nq, w' = V8.drewN nq) (fun i _ => m - (intOf i).toNat)
              case atStart => exact ⟨0, Nat.zero_le _, rfl, 0, rfl⟩
              case round =>
                obtain ⟨k, hk, rfl, nq0, rfl⟩ := hrel
                by_cases hlt : k < m
                · obtain ⟨g1, rfl, _, hg1⟩ := HG1.out (by omega)
                  obtain ⟨g2, rfl, _, hg2⟩ := hg8.out (by omega)
                  obtain ⟨y, hy⟩ : ∃ y, xs[k]? = some y := ⟨_, List.getElem?_eq_getElem (by omega)⟩
                  have d1 : (V8.drewN nq0).cell? ⟨g1, k, none⟩ = _ := hg1 k y hy
                  have d2 : (V8.drewN nq0).cell? ⟨g2, k, none⟩ = _ := hg2 k y hy
                  have hne := neq28_same ⟨y, 0, none⟩
                  clear hg1 hg2 hy
                  obtain ⟨U, HU⟩ : ∃ U, Hid (V8.drewN nq0 = U) := ⟨_, rfl⟩
                  rw [HU.out] at d1 d2 ⊢
                  go_wp2_with fail
                  go_region_held3 (fun w' => w'.cell? ⟨g1, k, none⟩ = some (.pointer (some ⟨y, 0, none⟩)) ∧ w'.cell? ⟨g2, k, none⟩ = some (.pointer (some ⟨y, 0, none⟩))) (go_keep) ((fail))
                  go_wp2_with fail
                  go_roundw
                  case rel => exact ⟨k + 1, by omega, by go_num, nq0 + 1, by rw [← HU.out]; rfl⟩
                  case measure => simp [intOf]; omega
                · obtain rfl : m = k := by omega
                  clear hlt hk
                  have HW10 : Hid (Below B w (V8.drewN nq0)) := below_drewN HW9.out nq0
                  have HA9 : Hid (Holds (V8.drewN nq0) L ra (kfOf V) xs 1) := HA8.out.under (below_drewN (Below.refl _ _) _)
                  have HB9 : Hid (Holds (V8.drewN nq0) M rr (kfOf V) xs 1) := HB8.out.under (below_drewN (Below.refl _ _) _)
                  obtain ⟨U, HU⟩ : ∃ U, Hid (V8.drewN nq0 = U) := ⟨_, rfl⟩
                  rw [HU.out] at HA9 HB9 HW10 ⊢
                  have W1 : Hid (∀ nq, Calls Try.prog 13 #[.pointer (some ⟨ra, 0, none⟩)] (U.drewN nq) fun e w' => e = .returned (.int .i64 1) ∧ U.drewN nq = w') := fun nq => woken_holds (HA9.out.under (below_drewN (Below.refl _ _) nq))
                  have W2 : Hid (∀ nq, Calls Try.prog 13 #[.pointer (some ⟨rr, 0, none⟩)] (U.drewN nq) fun e w' => e = .returned (.int .i64 1) ∧ U.drewN nq = w') := fun nq => woken_holds (HB9.out.under (below_drewN (Below.refl _ _) nq))
                  by_cases hn0 : n = 0
                  · have hd : ¬ (0 < n) := by omega
                    have hd2 : ¬ ((0 : Int) < (n : Int)) := by omega
                    replace hn0 := hide hn0
                    go_wp2_with fail
                    go_quiet (fail)
                    have w1 := W1.out nq
                    have w2 := W2.out nq
                    have HW11 : Hid (Below B w (U.drewN nq)) := below_drewN HW10.out nq
                    generalize U.drewN nq = T at *
                    go_wp2_with (first | (go_at_call 13; refine w1.mono ?_; rintro e w' ⟨rfl, rfl⟩) | (go_at_call 13; refine w2.mono ?_; rintro e w' ⟨rfl, rfl⟩))
                    go_ret
                    exact ⟨ret_bool rfl, HW11.out⟩
                  · obtain ⟨n1, rfl⟩ : ∃ n1, n = n1 + 1 := ⟨n - 1, by omega⟩
                    obtain ⟨hm1, hl1⟩ := lasts_last ks n1
                    rw [← HK2.out] at hm1 hl1
                    obtain ⟨m1, rfl⟩ : ∃ m1, m = m1 + 1 := ⟨m - 1, by omega⟩
                    obtain ⟨g1, rfl, _, hg1⟩ := HG1.out (by omega)
                    have d1 : (V8.drewN nq0).cell? ⟨g1, m1, none⟩ = _ := hg1 m1 (wb n1) (by rw [← HX.out, List.getElem?_map, show m1 = m1 + 1 - 1 by omega, hl1]; rfl)
                    have d2 : (V8.drewN nq0).cell? ⟨pb, n1, none⟩ = _ := HR9.out.ptr n1 (by omega)
                    have hne := neq28_same ⟨wb n1, 0, none⟩
                    rw [HU.out] at d1 d2
                    have hd : decide (0 < ((n1 + 1 : Nat) : Int)) = true := by simp
                    have i1 : ((m1 + 1 : Nat) : Int) - 1 = (m1 : Int) := by omega
                    have i2 : ((n1 + 1 : Nat) : Int) - 1 = (n1 : Int) := by omega
                    have j1 : m1 < m1 + 1 := by omega
                    have j2 : n1 < n1 + 1 := by omega
                    clear hg1 hl1
                    go_wp2_with fail
                    go_quiet (fail)
                    clear d1 d2 hne hd i1 i2 j1 j2
                    have w1 := W1.out nq
                    have w2 := W2.out nq
                    have HW11 : Hid (Below B w (U.drewN nq)) := below_drewN HW10.out nq
                    generalize U.drewN nq = T at *
                    go_wp2_with (first | (go_at_call 13; refine w1.mono ?_; rintro e w' ⟨rfl, rfl⟩) | (go_at_call 13; refine w2.mono ?_; rintro e w' ⟨rfl, rfl⟩))
                    go_ret
                    exact ⟨ret_bool rfl, HW11.out⟩
end Go.Proofs.Qxb6626077a
