/- The queue handed out; the last of a key. -/
import Derived.Test.Qxb6626077aWalkC
namespace Go.Proofs.Qxb6626077a
open Go.RowKit Go.Conc

theorem info28 : (Try.prog.info? 28).map (fun i => (i.zero, i.size, i.bytes)) = some (some (.pointer none), 1, 8) := by kernel_rfl

def wptr (x : Nat × Nat) : Value := .pointer (some ⟨x.2, 0, none⟩)
/-- The element at the head of what is left. -/
def eptr : List (Nat × Nat) → Value
  | [] => .pointer none
  | x :: _ => .pointer (some ⟨x.1, 0, none⟩)

theorem RL.next {w : World} {B0 rb : Nat} {B C : List (Nat × Nat)} {x : Nat × Nat} (h : RL w B0 rb true (B ++ x :: C)) : w.cell? ⟨x.1, 0, none⟩ = some (match C with | [] => .pointer (some ⟨rb, 7, none⟩) | y :: _ => .pointer (some ⟨y.1, 0, none⟩)) := by
  have hl := h.links rfl
  have hm : (B ++ x :: C).map Prod.fst = B.map Prod.fst ++ x.1 :: C.map Prod.fst := by simp
  rw [hm, ring, nodes_append] at hl
  have := hl ((x.1, 0), hd (nodes (C.map Prod.fst)) (root rb)) (by
    show _ ∈ seg _ (nodes _ ++ (x.1, 0) :: nodes _) _
    rw [seg_mid]; simp)
  have h1 := this.1
  cases C with
  | nil => exact h1
  | cons y C => exact h1
theorem RL.first {w : World} {B0 rb : Nat} {x : Nat × Nat} {C : List (Nat × Nat)} (h : RL w B0 rb true (x :: C)) : w.cell? ⟨rb, 7, none⟩ = some (.pointer (some ⟨x.1, 0, none⟩)) := by
  have hl := h.links rfl
  exact (hl (root rb, (x.1, 0)) (by unfold ring; rw [seg_hd]; simp [nodes, hd])).1
theorem RL.init {w : World} {B0 rb : Nat} {ini : Bool} {x : Nat × Nat} {B C : List (Nat × Nat)} (h : RL w B0 rb ini (B ++ x :: C)) : ini = true := by
  cases ini with
  | true => rfl
  | false => have := (h.unini rfl).1; simp at this

/-- 'e.Next()' in a world that holds the list as w does. -/
theorem next_RL {w wr : World} {B0 rb : Nat} {B C : List (Nat × Nat)} {x : Nat × Nat} (h : RL w B0 rb true (B ++ x :: C)) (hb : Below w.heap.size w wr) :
    Calls Try.prog 17 #[.pointer (some ⟨x.1, 0, none⟩)] wr fun e w' => e = .returned (eptr C) ∧ wr = w' := by
  have he := h.els x (by simp)
  have h0 := h.next
  have c0 : wr.cell? ⟨x.1, 0, none⟩ = _ := (hb.cell (p := ⟨x.1, 0, none⟩) he.2.1.lt).trans h0
  have c2 : wr.cell? ⟨x.1, 2, none⟩ = _ := (hb.cell (p := ⟨x.1, 2, none⟩) he.2.1.lt).trans he.2.2.1
  have row : ∀ k, Row w k → Row wr k := by
    intro k hk
    have := hk.lt
    obtain ⟨c, t, hk⟩ := hk
    exact ⟨c, t, by rw [hb.block k this]; exact hk⟩
  cases C with
  | nil => exact next_last rb x.1 wr c0 c2
  | cons y C => exact next_more rb x.1 y.1 wr (h.ne (x := y) (by simp)) (row _ (h.els y (by simp)).2.1) (row _ h.rrow) c0 c2

set_option maxRecDepth 100000 in
set_option maxHeartbeats 400000 in
theorem queue_any {w : World} {B0 rb : Nat} {ini : Bool} {q : List (Nat × Nat)} (h : RL w B0 rb ini q) (hlen : q.length ≤ 10000) :
    Calls Try.prog 9 #[.pointer (some ⟨rb, 0, none⟩)] w fun e w' => ∃ v, e = .returned v ∧ Below w.heap.size w w' ∧ w'.ownsRow w.heap.size 28 1 v q.length (q.map wptr) := by
  have hfr : Calls Try.prog 16 #[.pointer (some ⟨rb, 7, none⟩)] w fun e w' => e = .returned (eptr q) ∧ w = w' := by
    cases q with
    | nil => exact front_empty rb w h.c11
    | cons x C =>
      have hi := RL.init (B := []) h
      subst hi
      exact front_some rb _ _ w (by simp) h.c11 h.first
  have HR := hide h
  obtain ⟨v0, hv0⟩ : ∃ v, v = eptr q := ⟨_, rfl⟩
  rw [← hv0] at hfr
  have HV := hide hv0
  clear hv0
  obtain ⟨i0, hi, hz0, hz1, hz2⟩ := info_parts info28
  have hta := ta28
  clear h
  go_enter Try.func9, Try.ntmps9
  go_wp2_with (go_at_call 16; refine hfr.mono ?_; rintro e w' ⟨rfl, rfl⟩)
  clear hfr
  go_loopg [3, 4] q.length (fun g o e wr => ∃ B C, Hid (q = B ++ C) ∧ g = C.length ∧ e = eptr C ∧ Hid (wr.ownsRow w.heap.size 28 1 o B.length (B.map wptr)) ∧ Hid (Below w.heap.size w wr))
  case atStart => exact ⟨[], q, rfl, rfl, HV.out, World.ownsRow_nil _ _ _ _, Below.refl _ _⟩
  case round =>
    obtain ⟨B, C, HQ, hg, rfl, HO, HB⟩ := hrel
    have HG := hide hg
    clear hg
    cases C with
    | nil =>
      simp only [eptr]
      go_wp2_with fail
      go_ret
      refine ⟨_, rfl, HB.out, ?_⟩
      have := HQ.out
      rw [List.append_nil] at this
      rw [this]; exact HO.out
    | cons x C =>
      have hq := HQ.out
      have hi' : ini = true := by have := HR.out; rw [hq] at this; exact this.init
      subst hi'
      have HR1 : Hid (RL w B0 rb true (B ++ x :: C)) := by have := HR.out; rw [hq] at this; exact this
      have hlt := (HR1.out.els x (by simp)).2.1.lt
      have h3 : wr.cell? ⟨x.1, 3, none⟩ = some (.iface 28 (.pointer (some ⟨x.2, 0, none⟩))) := (HB.out.cell (p := ⟨x.1, 3, none⟩) hlt).trans (HR1.out.els x (by simp)).2.2.2
      have hsz := HB.out.size
      have hBl : B.length + C.length + 1 ≤ 10000 := by have := hlen; rw [hq] at this; simp at this; omega
      simp only [eptr]
      clear hq
      go_wp2_with (first | (at_builtin; refine wpList_append_own _ rfl _ _ 27 rfl w.heap.size 28 i0 (.pointer none) 1 8 Try.underlying27 hi hz0 hz1 hz2 rfl (by decide) _ _ _ rfl (HO.out.alloc _) ⟨wr.heap.size, 0, none⟩ 1 1 [.pointer (some ⟨x.2, 0, none⟩)] rfl rfl ?c1 ?c2 ?c3 ?c4 ?c5 ?_))
      case c1 =>
        intro j u hj
        match j, hj with
        | 0, hj => simp at hj; subst hj; simp [Addr.add]
      case c2 => intro u hu; simp at hu; subst hu; rfl
      case c3 => unfold maxLen; omega
      case c4 => omega
      case c5 => simp; omega
      intro v' w1 hown' hgrow _
      have HB1 : Hid (Below w.heap.size w w1) := (HB.out.alloc hsz _).grown hgrow (by simp; omega) (fun k hk => (HO.out.lt k hk).1)
      have HO1 : Hid (w1.ownsRow w.heap.size 28 1 v' (B ++ [x]).length ((B ++ [x]).map wptr)) := by
        have : (B ++ [x]).map wptr = B.map wptr ++ [.pointer (some ⟨x.2, 0, none⟩)] := by simp [wptr]
        rw [this, List.length_append]; exact hown'
      have hnx := next_RL HR1.out HB1.out
      obtain ⟨v1, hv1⟩ : ∃ v, v = eptr C := ⟨_, rfl⟩
      rw [← hv1] at hnx
      have HV1 := hide hv1
      clear hown' hgrow HO HB h3 hv1
      go_wp2_with (go_at_call 17; refine hnx.mono ?_; rintro e w' ⟨rfl, rfl⟩)
      go_roundg C.length
      case measure => rw [HG.out]; simp
      case rel => exact ⟨B ++ [x], C, by have := HQ.out; rw [Hid, this]; simp, rfl, HV1.out, HO1, HB1⟩
end Go.Proofs.Qxb6626077a
