/- The guard over two slices; what the router answers of a key; the place of a last send. -/
import Derived.Test.Qxb6626077aRouted
namespace Go.Proofs.Qxb6626077a
open Go.RowKit Go.Conc

set_option maxRecDepth 100000 in
set_option maxHeartbeats 1000000 in
theorem bytes5_any (A A2 : Option Addr) (n cap n2 cap2 : Nat) (ks os ks2 os2 : Nat → ByteArray) (cs cs2 : Nat → Int) (w : World) (h : Sends w A n ks os cs) (h2 : Sends w A2 n2 ks2 os2 cs2) (hn : n ≤ 9223372036854775807) (hn2 : n2 ≤ 9223372036854775807) :
    Calls Try.prog 5 #[.slice A n cap, .slice A2 n2 cap2] w fun e w' => Verdict e (Small n ks os ∧ Small n2 ks2 os2) ∧ w = w' := by
  have HS := hide h
  have HS2 := hide h2
  clear h h2
  by_cases hbig : n ≤ 1048576
  case neg =>
    go_enter Try.func5, Try.ntmps5
    go_wp2_with fail
    go_ret
    exact ⟨Verdict.no _, rfl⟩
  go_enter Try.func5, Try.ntmps5
  go_wp2_with fail
  go_loop [5, 6] (fun z i => ∃ m k : Nat, m ≤ 1048576 ∧ k ≤ n ∧ z = .int .i64 m ∧ i = .int .i64 k ∧ Hid (Small k ks os)) (fun _ i => n - (intOf i).toNat)
  case atStart => exact ⟨n, 0, hbig, Nat.zero_le _, by go_num, rfl, fun i hi => absurd hi (by omega)⟩
  case round =>
    obtain ⟨m, k, hm, hk, rfl, rfl, HK⟩ := hrel
    by_cases hlt : k < n
    · obtain ⟨sb, so, rfl, hsb, hc⟩ := HS.out.addr (by omega)
      have h0 := (hc k hlt).1
      have h1 := (hc k hlt).2.1
      have hb0 := HS.out.kbd k hlt
      have hb1 := HS.out.obd k hlt
      clear hc
      go_wp2_with fail
      all_goals first
        | (go_round
           case rel => exact ⟨m + (ks k).size + (os k).size, k + 1, by omega, by omega, by go_num, by go_num, fun i hi => by
             by_cases e : i = k
             · rw [e]; exact ⟨by omega, by omega⟩
             · exact HK.out i (by omega)⟩
           case measure => simp [intOf]; omega)
        | (go_ret
           exact ⟨Verdict.no _, rfl⟩)
    · obtain rfl : n = k := by omega
      clear hlt hk
      by_cases hbig2 : n2 ≤ 1048576
      case neg =>
        go_wp2_with fail
        go_ret
        exact ⟨Verdict.no _, rfl⟩
      by_cases hsum : m + n2 ≤ 1048576
      case neg =>
        go_wp2_with fail
        go_ret
        exact ⟨Verdict.no _, rfl⟩
      go_wp2_with fail
      go_loop [5, 7] (fun z i => ∃ m k : Nat, m ≤ 1048576 ∧ k ≤ n2 ∧ z = .int .i64 m ∧ i = .int .i64 k ∧ Hid (Small k ks2 os2)) (fun _ i => n2 - (intOf i).toNat)
      case atStart => exact ⟨m + n2, 0, hsum, Nat.zero_le _, by go_num, rfl, fun i hi => absurd hi (by omega)⟩
      case round =>
        clear hsum hm
        obtain ⟨m, k, hm, hk, rfl, rfl, HK2⟩ := hrel
        by_cases hlt : k < n2
        · obtain ⟨sb, so, rfl, hsb, hc⟩ := HS2.out.addr (by omega)
          have h0 := (hc k hlt).1
          have h1 := (hc k hlt).2.1
          have hb0 := HS2.out.kbd k hlt
          have hb1 := HS2.out.obd k hlt
          clear hc
          go_wp2_with fail
          all_goals first
            | (go_round
               case rel => exact ⟨m + (ks2 k).size + (os2 k).size, k + 1, by omega, by omega, by go_num, by go_num, fun i hi => by
                 by_cases e : i = k
                 · rw [e]; exact ⟨by omega, by omega⟩
                 · exact HK2.out i (by omega)⟩
               case measure => simp [intOf]; omega)
            | (go_ret
               exact ⟨Verdict.no _, rfl⟩)
        · obtain rfl : n2 = k := by omega
          go_wp2_with fail
          go_ret
          exact ⟨Verdict.yes ⟨HK.out, HK2.out⟩, rfl⟩

theorem lasts_at (ks : Nat → ByteArray) (n i : Nat) (hi : i < n) (hl : LastOf ks i n) : (lasts ks n)[cnt ks n i]? = some i := by
  unfold lasts cnt
  obtain ⟨r, rfl⟩ : ∃ r, n = i + (r + 1) := ⟨n - i - 1, by omega⟩
  rw [List.range_add, List.filter_append, List.getElem?_append_right (Nat.le_refl _), Nat.sub_self, List.range_succ_eq_map, List.map_cons, List.filter_cons, Nat.add_zero, if_pos ((lastB_iff _ _ _).2 hl)]
  rfl
theorem cnt_lt (ks : Nat → ByteArray) (n i : Nat) (hi : i < n) (hl : LastOf ks i n) : cnt ks n i < (lasts ks n).length := by
  have := lasts_at ks n i hi hl
  exact (List.getElem?_eq_some_iff.1 this).1

theorem qlook_mem {kf : Nat → ByteArray} : ∀ {q : List (Nat × Nat)}, (q.map fun x => kf x.2).Nodup → ∀ {eb x : Nat}, (eb, x) ∈ q → qlook kf q (kf x) = some (.pointer (some ⟨eb, 0, none⟩)) := by
  intro q
  induction q with
  | nil => intro _ eb x h; cases h
  | cons y r ih =>
    intro hn eb x h
    rw [List.map_cons, List.nodup_cons] at hn
    rw [qlook]
    rcases List.mem_cons.1 h with e | e
    · rw [← e]; simp
    · rw [if_neg]
      · exact ih hn.2 e
      · intro q
        exact hn.1 (by rw [← q]; exact List.mem_map_of_mem (f := fun x : Nat × Nat => kf x.2) e)
theorem waitingOf_holds {W : World} {B0 rb : Nat} {kf : Nat → ByteArray} {xs : List Nat} {wk : Nat} (h : Holds W B0 rb kf xs wk) (x : Nat) (hx : x ∈ xs) :
    Calls Try.prog 11 #[.pointer (some ⟨rb, 0, none⟩), .string (kf x)] W fun e w' => e = .returned (.pointer (some ⟨x, 0, none⟩)) ∧ W = w' := by
  obtain ⟨cb, mb, ini, q, kvs, h1, h2, rfl⟩ := h
  obtain ⟨⟨eb, y⟩, hy, rfl⟩ := List.mem_map.1 hx
  refine waitingOf_some h1 (kf y) eb ⟨y, 0, none⟩ ?_ (h1.rl.els _ hy).2.2.2
  rw [h2.2.1]; exact qlook_mem h2.2.2 hy
end Go.Proofs.Qxb6626077a
