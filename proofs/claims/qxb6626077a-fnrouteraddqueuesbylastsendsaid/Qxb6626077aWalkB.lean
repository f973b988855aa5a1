/- 'add'. -/
import Derived.Test.Qxb6626077aSel
import Derived.Deep.RegionHeld
namespace Go.Proofs.Qxb6626077a
open Go.RowKit Go.Conc Go.MuLone

theorem ChgL.below {w w' : World} {B0 rb : Nat} {ini : Bool} {q : List (Nat × Nat)} (h : ChgL w w' rb q) (hr : RL w B0 rb ini q) (hB : B0 ≤ w.heap.size) : Below B0 w w' := by
  obtain ⟨S, hc, hS⟩ := h
  refine hc.below hB (fun a ha => ?_)
  rcases hS a ha with ⟨e, _⟩ | ⟨y, hy, e⟩
  · rw [e]; exact hr.base
  · rw [e]; exact (hr.els y hy).1
theorem MapSet.below {w w' : World} {B0 mb : Nat} (h : MapSet w w' mb) (hB : B0 ≤ w.heap.size) (hm : B0 ≤ mb) : Below B0 w w' :=
  h.chg.below hB (fun a ha => by rw [List.mem_singleton.1 ha]; exact hm)

/-- The look-up, in whatever world that holds the map. -/
theorem look_run {w : World} {B0 rb cb mb : Nat} {lk : Int} {ini : Bool} {q : List (Nat × Nat)} {wk : Nat} {kvs : List (ByteArray × Value)} (h : RT w B0 rb cb mb lk ini q wk kvs) (kk : ByteArray) (n : Nat) :
    (Instr.lookup 49 (.map (some mb)) (.string kk) true).run Try.prog (w.drewN n) = .ok (.tuple #[(mlook kvs kk).getD (.pointer none), .bool (mlook kvs kk).isSome]) (w.drewN n) :=
  run_lookup_str (h.drewN n).mi kk

/-- PushBack, and what the store into the map will then make of it. -/
theorem push_step {w W : World} {B0 rb cb mb : Nat} {lk : Int} {ini : Bool} {q : List (Nat × Nat)} {wk : Nat} {kvs : List (ByteArray × Value)} (h : RT W B0 rb cb mb lk ini q wk kvs) (hb : Below B0 w W) (hB : B0 ≤ W.heap.size) (hlen : q.length ≤ 10000)
    (x : Nat) (kk : ByteArray) (hx : x < B0) (hk : W.cell? ⟨x, 0, none⟩ = some (.string kk)) :
    Calls Try.prog 20 #[.pointer (some ⟨rb, 7, none⟩), .iface 28 (.pointer (some ⟨x, 0, none⟩))] W.drew fun e w2 =>
      e = .returned (.pointer (some ⟨W.heap.size, 0, none⟩)) ∧ ∃ w3, (Instr.mapUpdate 49 (.map (some mb)) (.string kk) (.pointer (some ⟨W.heap.size, 0, none⟩))).run Try.prog w2 = .ok () w3 ∧
        w2.cell? ⟨rb, 12, none⟩ = some (.map (some mb)) ∧ w2.cell? ⟨x, 0, none⟩ = some (.string kk) ∧
        w3.cell? ⟨rb, 12, none⟩ = some (.map (some mb)) ∧ w3.cell? ⟨x, 0, none⟩ = some (.string kk) ∧ Hid (RT w3 B0 rb cb mb lk true (q ++ [(W.heap.size, x)]) wk (mput kvs kk (.pointer (some ⟨W.heap.size, 0, none⟩)))) ∧ Hid (Below B0 w w3) := by
  have hd : RT W.drew B0 rb cb mb lk ini q wk kvs := h.drewN 1
  have hbd : Below B0 w W.drew := hb.drew
  refine (Push_RL (w := W.drew) x hd.rl hB hlen).mono ?_
  rintro e w2 ⟨rfl, hr2, hc2, hz2⟩
  have ht2 := hd.list hc2 hr2
  have hb2 := hc2.below hd.rl hB
  obtain ⟨w3, hu, hm3, hs3⟩ := run_update_str ht2.mi kk (.pointer (some ⟨W.heap.size, 0, none⟩))
  have hb3 := hs3.below (Nat.le_trans hB hb2.size) h.hmb
  have hk2 : w2.cell? ⟨x, 0, none⟩ = some (.string kk) := by rw [hb2.cell (p := ⟨x, 0, none⟩) hx]; exact hk
  refine ⟨rfl, w3, hu, ht2.c12, hk2, (ht2.map hs3 hm3).c12, ?_, ht2.map hs3 hm3, (hbd.trans hb2).trans hb3⟩
  rw [hb3.cell (p := ⟨x, 0, none⟩) hx]; exact hk2

/-- The loop's state: k of the sends are in. -/
structure Round (kf : Nat → ByteArray) (q : List (Nat × Nat)) (wi : Nat → Nat) (k : Nat) (q' : List (Nat × Nat)) (kvs' : List (ByteArray × Value)) : Prop where
  says : Says kf q' kvs'
  snds : q'.map Prod.snd = adds kf (q.map Prod.snd) ((List.range k).map wi)
  len : q'.length ≤ q.length + k

theorem Round.step {kf : Nat → ByteArray} {q : List (Nat × Nat)} {wi : Nat → Nat} {k : Nat} {q' : List (Nat × Nat)} {kvs' : List (ByteArray × Value)} (h : Round kf q wi k q' kvs') (eb : Nat) :
    Round kf q wi (k + 1) (rem kf q' (kf (wi k)) ++ [(eb, wi k)]) (mput kvs' (kf (wi k)) (.pointer (some ⟨eb, 0, none⟩))) := by
  refine ⟨h.says.step eb (wi k), ?_, ?_⟩
  · rw [rem_snd, h.snds, List.range_succ, List.map_append, adds, adds, List.foldl_append]; rfl
  · have := List.length_filter_le (fun y : Nat × Nat => decide (kf y.2 ≠ kf (wi k))) q'
    have h2 := h.len
    simp only [rem, List.length_append, List.length_singleton]; omega

/-- Behind 'add': the router holds the sends, and is woken. -/
def Added (w' : World) (B0 rb cb mb : Nat) (kf : Nat → ByteArray) (q : List (Nat × Nat)) (wi : Nat → Nat) (l : Nat) : Prop :=
  ∃ ini' q' kvs', RT w' B0 rb cb mb 0 ini' q' 1 kvs' ∧ Round kf q wi l q' kvs'

set_option maxRecDepth 100000 in
set_option maxHeartbeats 1000000 in
theorem add_any {B0 rb cb mb : Nat} {kf : Nat → ByteArray} {ini : Bool} {q : List (Nat × Nat)} {wk : Nat} {kvs : List (ByteArray × Value)} (sb so l c : Nat) (wi : Nat → Nat) (w : World) (h : RT w B0 rb cb mb 0 ini q wk kvs)
    (hsay : Says kf q kvs) (hB : B0 ≤ w.heap.size) (hsb : sb < B0) (hs : ∀ i, i < l → w.cell? ⟨sb, so + i, none⟩ = some (.pointer (some ⟨wi i, 0, none⟩)))
    (hwi : ∀ i, i < l → wi i < B0 ∧ w.cell? ⟨wi i, 0, none⟩ = some (.string (kf (wi i)))) (hlen : q.length + l ≤ 9000) :
    Calls Try.prog 15 #[.pointer (some ⟨rb, 0, none⟩), .slice (some ⟨sb, so, none⟩) l c] w fun e w' => e = .returned (.tuple #[]) ∧ Below B0 w w' ∧ Added w' B0 rb cb mb kf q wi l := by
  have hlk := lock_free Try.muLib ⟨rb, 5, none⟩ w h.c5 (h.rl.rrow.frozen _)
  have HT := hide (h.lock 1)
  have HB1 : Hid (Below B0 w (w.setCell ⟨rb, 5, none⟩ (.int .i32 1))) := (Below.refl _ _).setCell h.rl.base _
  have HS := hide hs
  have HW := hide hwi
  have HY := hide hsay
  clear h hs hwi hsay
  refine calls_of_wpN Try.func15 rfl ?_
  simp only [Try.ntmps15, List.size_toArray, List.length_cons, List.length_nil, Nat.reduceAdd, Nat.reduceSub, Array.replicate_succ, Array.replicate_zero, List.push_toArray, List.append_toArray, List.nil_append, List.cons_append]
  refine wpN_seq_k ?_
  intro K hK
  go_wp2_with (go_at_call 18; refine hlk.mono ?_; rintro e w' ⟨rfl, rfl⟩)
  clear hlk
  generalize w.setCell ⟨rb, 5, none⟩ (.int .i32 1) = v at *
  refine wpN_seq_k ?_
  intro K hK
  go_wp2_with fail
  go_loopg [14] l (fun g i wr => ∃ k ini' q' kvs', g = l - k ∧ k ≤ l ∧ i = .int .i64 (k : Nat) ∧ Hid (Below B0 w wr) ∧ Hid (RT wr B0 rb cb mb 1 ini' q' wk kvs') ∧ Hid (Round kf q wi k q' kvs'))
  case atStart => exact ⟨0, _, _, _, rfl, Nat.zero_le _, rfl, HB1, HT, ⟨HY, rfl, Nat.le_refl _⟩⟩
  case round =>
    obtain ⟨k, ini', q', kvs', hg, hk, rfl, HB, HR, HQ⟩ := hrel
    have HG := hide hg
    clear hg HT HB1 HY
    by_cases hlt : k < l
    · have hcell : wr.cell? ⟨sb, so + k, none⟩ = some (.pointer (some ⟨wi k, 0, none⟩)) := by rw [HB.out.cell (p := ⟨sb, so + k, none⟩) hsb]; exact HS.out k hlt
      have hkey : wr.cell? ⟨wi k, 0, none⟩ = some (.string (kf (wi k))) := by rw [HB.out.cell (p := ⟨wi k, 0, none⟩) (HW.out k hlt).1]; exact (HW.out k hlt).2
      have hxB := (HW.out k hlt).1
      have h12 := HR.out.c12
      have hBr : B0 ≤ wr.heap.size := Nat.le_trans hB HB.out.size
      have hlook := look_run HR.out (kf (wi k))
      rw [HQ.out.says.2.1] at hlook
      have HQ1 := hide (fun eb => HQ.out.step eb)
      have hql : q'.length ≤ 9000 := by have := HQ.out.len; omega
      cases hq : qlook kf q' (kf (wi k)) with
      | none =>
        rw [hq] at hlook
        obtain ⟨hrem, _⟩ := qlook_none hq
        rw [hrem] at HQ1
        clear hq hrem HQ
        generalize wi k = x at *
        generalize kf x = kk at *
        simp only [Option.getD_none, Option.isSome_none] at hlook
        go_wp2_with fail
        go_quiet (fail)
        go_wp2_with fail
        have HR0 := hide (HR.out.drewN nq)
        have HB0 : Hid (Below B0 w (wr.drewN nq)) := below_drewN HB.out nq
        have hBW : B0 ≤ (wr.drewN nq).heap.size := hBr
        have h12W : (wr.drewN nq).cell? ⟨rb, 12, none⟩ = some (.map (some mb)) := h12
        have hkeyW : (wr.drewN nq).cell? ⟨x, 0, none⟩ = some (.string kk) := hkey
        clear hlook hcell h12 hkey hBr HR HB
        generalize wr.drewN nq = W at *
        have hp := push_step HR0.out HB0.out hBW (by omega) x kk hxB hkeyW
        clear HR0 HB0
        go_region_held (fun w' => w'.cell? ⟨rb, 12, none⟩ = some (.map (some mb)) ∧ w'.cell? ⟨x, 0, none⟩ = some (.string kk)) (go_keep)
          ((go_at_call 20; refine hp.mono ?_; rintro e w2 ⟨rfl, w3, hu, h122, hk2, h123, hk3, HT3, HB3⟩))
        clear hp hu h122 hk2 h123 hk3
        go_wp2_with fail
        go_roundg (l - (k + 1))
        case measure => rw [HG.out]; omega
        case rel => exact ⟨k + 1, _, _, _, rfl, by omega, by go_num, HB3, HT3, HQ1.out _⟩
      | some v =>
        have hini : ini' = true := by
          cases e : ini' with
          | true => rfl
          | false =>
            have := (HR.out.rl.unini e).1
            rw [this] at hq; cases hq
        subst hini
        rw [hq] at hlook
        obtain ⟨q1, y, q2, rfl, rfl, hrem⟩ := qlook_some HQ.out.says.2.2 hq
        rw [hrem] at HQ1
        clear hq hrem HQ
        generalize wi k = x at *
        generalize kf x = kk at *
        simp only [Option.getD_some, Option.isSome_some] at hlook
        go_wp2_with fail
        go_quiet (fail)
        have HR0 := hide (HR.out.drewN nq)
        have HB0 : Hid (Below B0 w (wr.drewN nq)) := below_drewN HB.out nq
        have hBW : B0 ≤ (wr.drewN nq).heap.size := hBr
        have hkeyW : (wr.drewN nq).cell? ⟨x, 0, none⟩ = some (.string kk) := hkey
        clear hlook hcell h12 hkey hBr HR HB
        generalize wr.drewN nq = V at *
        have hr := Remove_RL HR0.out.rl (by omega)
        go_wp2_with (go_at_call 19; refine hr.mono ?_; rintro e W ⟨rfl, hr2, hc2, hz2⟩)
        have HR1 := hide (HR0.out.list hc2 hr2)
        have hb2 := hc2.below HR0.out.rl hBW
        have HB1 := hide (HB0.out.trans hb2)
        have hBW2 : B0 ≤ W.heap.size := Nat.le_trans hBW hb2.size
        have hkeyW2 : W.cell? ⟨x, 0, none⟩ = some (.string kk) := by rw [hb2.cell (p := ⟨x, 0, none⟩) hxB]; exact hkeyW
        have h12W := HR1.out.c12
        have hql2 : (q1 ++ q2).length ≤ 10000 := by simp only [List.length_append, List.length_cons] at hql ⊢; omega
        clear hr hr2 hc2 hz2 hb2 HR0 HB0 hkeyW hBW
        have hp := push_step HR1.out HB1.out hBW2 hql2 x kk hxB hkeyW2
        clear HR1 HB1
        go_region_held (fun w' => w'.cell? ⟨rb, 12, none⟩ = some (.map (some mb)) ∧ w'.cell? ⟨x, 0, none⟩ = some (.string kk)) (go_keep)
          ((go_at_call 20; refine hp.mono ?_; rintro e w2 ⟨rfl, w3, hu, h122, hk2, h123, hk3, HT3, HB3⟩))
        clear hp hu h122 hk2 h123 hk3
        go_wp2_with fail
        go_roundg (l - (k + 1))
        case measure => rw [HG.out]; omega
        case rel => exact ⟨k + 1, _, _, _, rfl, by omega, by go_num, HB3, HT3, HQ1.out _⟩
    · obtain rfl : k = l := by omega
      have hul := unlock_held Try.muLib ⟨rb, 5, none⟩ wr HR.out.c5 (HR.out.rl.rrow.frozen _)
      have HR2 := hide (HR.out.lock 0)
      have HB2 : Hid (Below B0 w (wr.setCell ⟨rb, 5, none⟩ (.int .i32 0))) := HB.out.setCell HR.out.rl.base _
      clear HR HB HS HW HG hlt hk
      go_wp2_with fail
      refine wpN_seq_k ?_
      intro K2 hK2
      go_wp2_with (go_at_call 21; refine hul.mono ?_; rintro e w' ⟨rfl, rfl⟩)
      clear hul
      generalize wr.setCell ⟨rb, 5, none⟩ (.int .i32 0) = V at *
      have h4 := HR2.out.c4
      refine wpN_seq_k ?_
      intro K3 hK3
      go_wp2_with fail
      obtain ⟨s, r, hch⟩ := HR2.out.ch
      refine wpN_seq_kN ?_
      intro K4 hK4
      by_cases h0 : wk = 0
      · rw [if_pos h0] at hch
        have HF : Hid (Below B0 w (V.setChan cb 1 (#[].push (.agg #[])) false (s + 1) r false) ∧ Added (V.setChan cb 1 (#[].push (.agg #[])) false (s + 1) r false) B0 rb cb mb kf q wi k) :=
          ⟨below_setChan HB2.out HR2.out.hcb _ _ _ _ _ _, _, _, _, HR2.out.chan (s + 1) r, HQ.out⟩
        refine wpN_send_room (c := cb) (v := .agg #[]) (z := .agg #[]) rfl ?_ hch (by simp) ?_
        · simp [go_sem, execOp, scase, Act.eval]
        · clear hch HR2 HB2 h4 HQ
          generalize V.setChan cb 1 (#[].push (.agg #[])) false (s + 1) r false = U at *
          simp only [Act.put, List.setIfInBounds_toArray, List.set_cons_succ, List.set_cons_zero]
          go_wp2_with fail
          refine wpN_of ?_
          go_wp2_with fail
          go_end0
          exact ⟨rfl, HF.out.1, HF.out.2⟩
      · rw [if_neg h0] at hch
        have HF : Hid (Below B0 w V ∧ Added V B0 rb cb mb kf q wi k) := by
          refine ⟨HB2.out, ini', q', kvs', ⟨HR2.out.rl, HR2.out.c4, HR2.out.c5, HR2.out.c12, HR2.out.hcb, HR2.out.hmb, ⟨s, r, ?_⟩, HR2.out.mi⟩, HQ.out⟩
          rw [hch]; rfl
        refine wpN_send_full (c := cb) (v := .agg #[]) (z := .agg #[]) rfl ?_ hch (by simp) ?_
        · simp [go_sem, execOp, scase, Act.eval]
        · clear hch HR2 HB2 h4 HQ
          simp only [Act.put, List.setIfInBounds_toArray, List.set_cons_succ, List.set_cons_zero]
          go_wp2_with fail
          refine wpN_of ?_
          go_wp2_with fail
          go_end0
          exact ⟨rfl, HF.out.1, HF.out.2⟩
end Go.Proofs.Qxb6626077a
