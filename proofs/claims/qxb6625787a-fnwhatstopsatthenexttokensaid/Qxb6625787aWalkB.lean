import Derived.Test.Qxb6625787aWalkA
namespace Go.Proofs.Qxb6625787a
open Go.RowKit

/-- The scanner at block b: its text, its place. -/
def Sc (w : World) (b : Nat) (ta : Option Addr) (len cap k : Nat) : Prop :=
  w.cell? ⟨b, 0, none⟩ = some (.slice ta len cap) ∧ w.cell? ⟨b, 1, none⟩ = some (.int .i64 k) ∧ w.frozen? ⟨b, 1, none⟩ = false

/-- Nothing below b has turned, nothing was made, the scanner stands at k. -/
def Aft (w w' : World) (b : Nat) (ta : Option Addr) (len cap k : Nat) : Prop :=
  Below b w w' ∧ w'.heap.size = w.heap.size ∧ Sc w' b ta len cap k

theorem Aft.drewN {w w' : World} {b : Nat} {ta : Option Addr} {len cap k : Nat} (h : Aft w w' b ta len cap k) (n : Nat) : Aft w (w'.drewN n) b ta len cap k :=
  ⟨below_drewN h.1 n, h.2.1, h.2.2⟩

theorem Aft.step {w w' : World} {b : Nat} {ta : Option Addr} {len cap k : Nat} (h : Aft w w' b ta len cap k) (n : Nat) :
    Aft w ((w'.drewN n).setCell ⟨b, 1, none⟩ (.int .i64 ((k : Int) + 1))) b ta len cap (k + 1) := by
  obtain ⟨hb, hz, h0, h1, hf⟩ := h
  refine ⟨(below_drewN hb n).setCell (Nat.le_refl _) _, by rw [World.size_setCell]; exact hz, ?_, ?_, ?_⟩
  · rw [World.cell?_setCell_other _ _ _ _ (by simp)]; exact h0
  · rw [World.cell?_setCell_same (w'.drewN n) _ _ (u := .int .i64 k) h1]; rfl
  · rw [World.frozen?_setCell]; exact hf

theorem sp_32 (n : Int) (h : (n == 32) = true) : sp n = true := by rw [sp, h]; rfl
theorem sp_9 (n : Int) (h : (n == 9) = true) : sp n = true := by rw [sp, h]; simp
theorem sp_10 (n : Int) (h : (n == 10) = true) : sp n = true := by rw [sp, h]; simp
theorem sp_13 (n : Int) (h : (n == 13) = true) : sp n = true := by rw [sp, h]; simp
theorem sp_no (n : Int) (h1 : (n == 32) = false) (h2 : (n == 9) = false) (h3 : (n == 10) = false) (h4 : (n == 13) = false) : sp n = false := by rw [sp, h1, h2, h3, h4]; rfl

set_option maxRecDepth 100000 in
theorem skip_end (b : Nat) (ta : Option Addr) (len cap : Nat) (w : World) (hs : Sc w b ta len cap len) :
    Calls Try.prog 13 #[.pointer (some ⟨b, 0, none⟩)] w fun e w' => e = .returned (.tuple #[]) ∧ Aft w w' b ta len cap len := by
  have HS := hide hs
  obtain ⟨h0, h1, hf⟩ := hs
  have hd : decide ((len : Int) < (len : Int)) = false := by simp
  go_enter Try.func13, Try.ntmps13
  go_wp2_with fail
  go_loopg [] 0 (fun g wr => wr = w)
  case atStart => rfl
  case round =>
    subst hrel
    go_wp2_with fail
    go_quiet (fail)
    go_wp2_with fail
    go_end0
    exact ⟨rfl, Aft.drewN ⟨Below.refl _ _, rfl, HS.out⟩ _⟩

set_option maxRecDepth 100000 in
set_option maxHeartbeats 400000 in
theorem skip_some (b tb len cap k0 : Nat) (f : Nat → Int) (w : World) (hlen : len ≤ 1048576) (hk0 : k0 ≤ len) (htb : tb < b) (hs : Sc w b (some ⟨tb, 0, none⟩) len cap k0)
    (hc : ∀ j, j < len → w.cell? ⟨tb, j, none⟩ = some (.int .u8 (f j))) :
    Calls Try.prog 13 #[.pointer (some ⟨b, 0, none⟩)] w fun e w' => e = .returned (.tuple #[]) ∧ Aft w w' b (some ⟨tb, 0, none⟩) len cap (at1 f k0 len) := by
  have HC := hide hc
  have HS := hide hs
  clear hc hs
  go_enter Try.func13, Try.ntmps13
  go_wp2_with fail
  go_loopg [] (len - k0) (fun g wr => ∃ k, k0 ≤ k ∧ k ≤ len ∧ g = len - k ∧ Aft w wr b (some ⟨tb, 0, none⟩) len cap k ∧ Hid (at1 f k0 len = at1 f k len))
  case atStart => exact ⟨k0, Nat.le_refl _, hk0, rfl, ⟨Below.refl _ _, rfl, HS⟩, rfl⟩
  case round =>
    obtain ⟨k, hk1, hk2, hg, HA, HK⟩ := hrel
    have HG := hide hg
    clear hg
    have h0 := HA.2.2.1
    have h1 := HA.2.2.2.1
    have hf := HA.2.2.2.2
    by_cases hlt : k < len
    · have hcell : wr.cell? ⟨tb, k, none⟩ = some (.int .u8 (f k)) := by rw [HA.1.cell (p := ⟨tb, k, none⟩) htb]; exact HC.out k hlt
      have HX : Hid (sp (f k) = true → at1 f k0 len = at1 f (k + 1) len) := fun h => HK.out.trans (nx_step f k len hlt h)
      have HN : Hid (sp (f k) = false → at1 f k0 len = k) := fun h => HK.out.trans (nx_stop f k _ h)
      go_wp2_with fail
      go_quiet (fail)
      go_wp2_with fail
      go_quiet (fail)
      go_wp2_with fail
      all_goals first
        | (go_roundg (len - (k + 1))
           case measure => rw [HG.out]; omega
           case rel => exact ⟨k + 1, by omega, by omega, rfl, HA.step _, HX.out (by first | exact sp_32 _ ‹_› | exact sp_9 _ ‹_› | exact sp_10 _ ‹_› | exact sp_13 _ ‹_›)⟩)
        | (refine bodyPost_ret (results_none (by kernel_rfl) _ _ _) rfl ?_
           refine ⟨rfl, ?_⟩
           rw [HN.out (sp_no _ ‹_› ‹_› ‹_› ‹_›)]
           exact HA.drewN _)
    · have hd : decide ((k : Int) < (len : Int)) = false := by simp; omega
      have HE : Hid (at1 f k0 len = k) := by
        show _ = _
        rw [HK.out, show k = len by omega]; unfold at1; rw [Nat.sub_self]; rfl
      go_wp2_with fail
      go_quiet (fail)
      go_wp2_with fail
      go_end0
      refine ⟨rfl, ?_⟩
      rw [HE.out]
      exact HA.drewN _

set_option maxRecDepth 100000 in
theorem peek_end (b : Nat) (ta : Option Addr) (len cap : Nat) (w : World) (hs : Sc w b ta len cap len) :
    Calls Try.prog 12 #[.pointer (some ⟨b, 0, none⟩)] w fun e w' => e = .returned (.int .u8 0) ∧ Aft w w' b ta len cap len := by
  have hcon := skip_end b ta len cap w hs
  clear hs
  go_enter Try.func12, Try.ntmps12
  go_wp2_with (go_at_call 13; refine hcon.mono ?_; rintro e w1 ⟨rfl, HA⟩)
  have h0 := HA.2.2.1
  have h1 := HA.2.2.2.1
  go_quiet (fail)
  go_wp2_with fail
  go_ret
  exact ⟨rfl, HA.drewN _⟩

set_option maxRecDepth 100000 in
theorem peek_some (b tb len cap k0 : Nat) (f : Nat → Int) (w : World) (hlen : len ≤ 1048576) (hk0 : k0 ≤ len) (htb : tb < b) (hs : Sc w b (some ⟨tb, 0, none⟩) len cap k0)
    (hc : ∀ j, j < len → w.cell? ⟨tb, j, none⟩ = some (.int .u8 (f j))) :
    Calls Try.prog 12 #[.pointer (some ⟨b, 0, none⟩)] w fun e w' => e = .returned (.int .u8 (pk f (at1 f k0 len) len)) ∧ Aft w w' b (some ⟨tb, 0, none⟩) len cap (at1 f k0 len) := by
  have hcon := skip_some b tb len cap k0 f w hlen hk0 htb hs hc
  have HC := hide hc
  have hle := at1_le f k0 len hk0
  clear hs hc
  obtain ⟨p, hp⟩ : ∃ p, p = at1 f k0 len := ⟨_, rfl⟩
  rw [← hp] at hcon hle ⊢
  clear hp
  have HP := hide (pk_lt f p len)
  have HE := hide (pk_end f p len)
  obtain ⟨c, hcc⟩ : ∃ c, c = pk f p len := ⟨_, rfl⟩
  have HCC := hide hcc
  rw [← hcc]
  clear hcc
  go_enter Try.func12, Try.ntmps12
  go_wp2_with (go_at_call 13; refine hcon.mono ?_; rintro e w1 ⟨rfl, HA⟩)
  have h0 := HA.2.2.1
  have h1 := HA.2.2.2.1
  by_cases hlt : p < len
  · have hcell : w1.cell? ⟨tb, p, none⟩ = some (.int .u8 (f p)) := by rw [HA.1.cell (p := ⟨tb, p, none⟩) htb]; exact HC.out p hlt
    have hq : ((p : Int) == (len : Int)) = false := by simp; omega
    go_quiet (fail)
    go_wp2_with fail
    go_quiet (fail)
    go_wp2_with fail
    go_ret
    exact ⟨by rw [HCC.out, HP.out hlt]; rfl, (HA.drewN _).drewN _⟩
  · have hq : ((p : Int) == (len : Int)) = true := by simp; omega
    go_quiet (fail)
    go_wp2_with fail
    go_ret
    exact ⟨by rw [HCC.out, HE.out hlt]; rfl, HA.drewN _⟩

theorem ret_str {a b : ByteArray} (h : a = b) : Ending.returned (.string a) = .returned (.string b) := by rw [h]

set_option maxRecDepth 100000 in
set_option maxHeartbeats 400000 in
theorem what_core (p : Value) (c : Int) (w : World) (R : World → Prop) (hcon : Calls Try.prog 12 #[p] w fun e w' => e = .returned (.int .u8 c) ∧ R w') :
    Calls Try.prog 11 #[p] w fun e w' => e = .returned (.string (nm c)) ∧ R w' := by
  go_enter Try.func11, Try.ntmps11
  go_wp2_with (go_at_call 12; refine hcon.mono ?_; rintro e w1 ⟨rfl, HA⟩)
  all_goals
    go_ret
    refine ⟨ret_str ?_, HA⟩
    first
      | (simp_all [nm]; done)
      | (simp_all [nm]; omega)

theorem zzwhat_core (p : Value) (c : Int) (w : World) (R : World → Prop) (hcon : Calls Try.prog 12 #[p] w fun e w' => e = .returned (.int .u8 c) ∧ R w') :
    Calls Try.prog 7 #[p] w fun e w' => e = .returned (.string (nm c)) ∧ R w' := by
  have h11 := what_core p c w R hcon
  clear hcon
  go_enter Try.func7, Try.ntmps7
  go_wp2_with (go_at_call 11; refine h11.mono ?_; rintro e w1 ⟨rfl, HA⟩)
  go_ret
  exact ⟨rfl, HA⟩

theorem zzat_any (b : Nat) (ta : Option Addr) (len cap k : Nat) (w : World) (hs : Sc w b ta len cap k) :
    Calls Try.prog 8 #[.pointer (some ⟨b, 0, none⟩)] w fun e w' => e = .returned (.int .i64 k) ∧ w = w' := by
  have h1 := hs.2.1
  go_enter Try.func8, Try.ntmps8
  go_wp2_with fail
  go_ret
  exact ⟨rfl, rfl⟩

theorem scanner_any (ta : Option Addr) (len cap k : Nat) (w : World) :
    Calls Try.prog 6 #[.slice ta len cap, .int .i64 k] w fun e w' => e = .returned (.pointer (some ⟨w.heap.size, 0, none⟩)) ∧ Below w.heap.size w w' ∧ w'.heap.size = w.heap.size + 1 ∧ Sc w' w.heap.size ta len cap k := by
  go_enter Try.func6, Try.ntmps6
  go_wp2_with fail
  go_ret
  refine ⟨rfl, (Below.refl _ _).alloc (Nat.le_refl _) _, by simp, ?_, ?_, ?_⟩
  · rw [World.cell?_alloc_at _ _ _ _ rfl]; rfl
  · rw [World.cell?_alloc_at _ _ _ _ rfl]; rfl
  · rw [World.frozen?_alloc_at _ _ _ _ rfl]
end Go.Proofs.Qxb6625787a
