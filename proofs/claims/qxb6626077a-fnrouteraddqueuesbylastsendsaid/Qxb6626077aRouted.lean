/- What a router holds, carried from call to call. -/
import Derived.Test.Qxb6626077aStep
namespace Go.Proofs.Qxb6626077a
open Go.RowKit Go.Conc

theorem RT.under {w w' : World} {B0 rb cb mb : Nat} {lk : Int} {ini : Bool} {q : List (Nat × Nat)} {wk : Nat} {kvs : List (ByteArray × Value)} (h : RT w B0 rb cb mb lk ini q wk kvs) (hb : Below w.heap.size w w') : RT w' B0 rb cb mb lk ini q wk kvs := by
  have key : ∀ a v, w.cell? a = some v → w'.cell? a = some v := fun a v hv => (hb.cell (p := a) (block_lt_of_cell hv)).trans hv
  have row : ∀ k, Row w k → Row w' k := by
    intro k hk
    have := hk.lt
    obtain ⟨c, t, hk⟩ := hk
    exact ⟨c, t, by rw [hb.block k this]; exact hk⟩
  have hs := h.cbmb
  obtain ⟨s, r, hch⟩ := h.ch
  refine ⟨⟨h.rl.base, row _ h.rl.rrow, key _ _ h.rl.c11, fun hi p hp => ?_, fun hi => ?_, fun x hx => ?_, h.rl.nodup⟩, key _ _ h.c4, key _ _ h.c5, key _ _ h.c12, h.hcb, h.hmb, ⟨s, r, ?_⟩, h.mi.keep (hb.block mb hs.2.2)⟩
  · exact ⟨key _ _ (h.rl.links hi p hp).1, key _ _ (h.rl.links hi p hp).2⟩
  · obtain ⟨h1, h2, x, h3⟩ := h.rl.unini hi
    exact ⟨h1, key _ _ h2, x, key _ _ h3⟩
  · obtain ⟨h1, h2, h3, h4⟩ := h.rl.els x hx
    exact ⟨h1, row _ h2, key _ _ h3, key _ _ h4⟩
  · rw [hb.block cb hs.2.1]; exact hch

/-- The router at rb holds the sends xs, in this order; its map says so. -/
def Holds (W : World) (B0 rb : Nat) (kf : Nat → ByteArray) (xs : List Nat) (wk : Nat) : Prop :=
  ∃ cb mb ini q kvs, RT W B0 rb cb mb 0 ini q wk kvs ∧ Says kf q kvs ∧ q.map Prod.snd = xs
theorem Holds.under {w w' : World} {B0 rb : Nat} {kf : Nat → ByteArray} {xs : List Nat} {wk : Nat} (h : Holds w B0 rb kf xs wk) (hb : Below w.heap.size w w') : Holds w' B0 rb kf xs wk := by
  obtain ⟨cb, mb, ini, q, kvs, h1, h2, h3⟩ := h
  exact ⟨cb, mb, ini, q, kvs, h1.under hb, h2, h3⟩

theorem new_holds (kf : Nat → ByteArray) (W : World) : Calls Try.prog 7 #[] W fun e w' => e = .returned (.pointer (some ⟨W.heap.size + 2, 0, none⟩)) ∧ Below W.heap.size W w' ∧ Holds w' W.heap.size (W.heap.size + 2) kf [] 0 := by
  refine (newRouter_any W).mono ?_
  rintro e w' ⟨h1, h2, _, h4⟩
  exact ⟨h1, h2, _, _, _, _, _, h4, ⟨rfl, fun k => rfl, by simp⟩, rfl⟩

theorem zzadd_of {Q : Ending → World → Prop} (p s : Value) (w : World) (h : Calls Try.prog 15 #[p, s] w fun e w' => e = .returned (.tuple #[]) ∧ Q e w') : Calls Try.prog 8 #[p, s] w fun e w' => e = .returned (.tuple #[]) ∧ Q e w' := by
  go_enter Try.func8, Try.ntmps8
  go_wp2_with (go_at_call 15; refine h.mono ?_; rintro e w' ⟨rfl, HQ⟩)
  go_end0
  exact ⟨rfl, HQ⟩

theorem add_holds {B0 rb : Nat} {kf : Nat → ByteArray} {xs : List Nat} {wk : Nat} (sb so l c : Nat) (wi : Nat → Nat) (w : World) (h : Holds w B0 rb kf xs wk)
    (hB : B0 ≤ w.heap.size) (hsb : sb < B0) (hs : ∀ i, i < l → w.cell? ⟨sb, so + i, none⟩ = some (.pointer (some ⟨wi i, 0, none⟩)))
    (hwi : ∀ i, i < l → wi i < B0 ∧ w.cell? ⟨wi i, 0, none⟩ = some (.string (kf (wi i)))) (hlen : xs.length + l ≤ 9000) :
    Calls Try.prog 8 #[.pointer (some ⟨rb, 0, none⟩), .slice (some ⟨sb, so, none⟩) l c] w fun e w' => e = .returned (.tuple #[]) ∧ Below B0 w w' ∧ Holds w' B0 rb kf (adds kf xs ((List.range l).map wi)) 1 := by
  obtain ⟨cb, mb, ini, q, kvs, h1, h2, rfl⟩ := h
  rw [List.length_map] at hlen
  refine zzadd_of (Q := fun _ w' => Below B0 w w' ∧ Holds w' B0 rb kf (adds kf (q.map Prod.snd) ((List.range l).map wi)) 1) _ _ _ ?_
  refine (add_any sb so l c wi w h1 h2 hB hsb hs hwi hlen).mono ?_
  rintro e w' ⟨rfl, hb, ini', q', kvs', h3, h4⟩
  exact ⟨rfl, hb, cb, mb, ini', q', kvs', h3, h4.says, h4.snds⟩

/-- The slice that was handed out: what it leads to. -/
def Got (w : World) (A : Option Addr) (xs : List Nat) : Prop :=
  0 < xs.length → ∃ g, A = some ⟨g, 0, none⟩ ∧ g < w.heap.size ∧ ∀ j y, xs[j]? = some y → w.cell? ⟨g, j, none⟩ = some (.pointer (some ⟨y, 0, none⟩))
theorem Got.under {w w' : World} {A : Option Addr} {xs : List Nat} (h : Got w A xs) (hb : Below w.heap.size w w') : Got w' A xs := by
  intro h0
  obtain ⟨g, h1, h2, h3⟩ := h h0
  exact ⟨g, h1, Nat.lt_of_lt_of_le h2 hb.size, fun j y hj => (hb.cell (p := ⟨g, j, none⟩) h2).trans (h3 j y hj)⟩

theorem take_cell {w : World} {g n : Nat} {cur : Array Value} {e : TypeId} {xs : List Value} (hc : w.heap[g]? = some (.cells cur e (0, 0))) (ht : cur.toList.take n = xs) (j : Nat) (y : Value) (hj : xs[j]? = some y) : w.cell? ⟨g, j, none⟩ = some y := by
  subst ht
  rw [List.getElem?_take] at hj
  split at hj
  · simp only [World.cell?, hc]
    simpa using hj
  · cases hj
theorem OwnAt.at {w : World} {B : Nat} {e : TypeId} {g n cap : Nat} {n' : Nat} {xs : List Value} (h : OwnAt w B e (.slice (some ⟨g, 0, none⟩) n cap) n' xs) : n ≤ cap ∧ B ≤ g ∧ g < w.heap.size ∧ ∀ j y, xs[j]? = some y → w.cell? ⟨g, j, none⟩ = some y := by
  obtain ⟨⟨_, h⟩, _⟩ := h
  rcases h with ⟨h, _⟩ | ⟨g2, cap2, cur, h, hB, hc, hcap, _, _, ht⟩
  · cases h
  · simp only [Value.slice.injEq, Option.some.injEq, Addr.mk.injEq] at h
    obtain ⟨⟨rfl, _⟩, rfl, rfl⟩ := h
    exact ⟨hcap, hB, (Array.getElem?_eq_some_iff.1 hc).1, fun j y hj => take_cell hc ht j y hj⟩

theorem queue_holds {W : World} {B0 rb : Nat} {kf : Nat → ByteArray} {xs : List Nat} {wk : Nat} (h : Holds W B0 rb kf xs wk) (hlen : xs.length ≤ 10000) :
    Calls Try.prog 9 #[.pointer (some ⟨rb, 0, none⟩)] W fun e w' => ∃ A cap, e = .returned (.slice A xs.length cap) ∧ Below W.heap.size W w' ∧ Got w' A xs := by
  obtain ⟨cb, mb, ini, q, kvs, h1, h2, rfl⟩ := h
  rw [List.length_map] at hlen ⊢
  refine (queue_any h1.rl hlen).mono ?_
  rintro e w' ⟨v, rfl, hb, ho⟩
  obtain ⟨_, ho⟩ := ho
  rcases ho with ⟨rfl, h0⟩ | ⟨g, cap, cur, rfl, _, hc, _, _, _, ht⟩
  · exact ⟨none, 0, by rw [h0], hb, fun hp => absurd hp (by rw [List.length_map]; omega)⟩
  · refine ⟨_, cap, rfl, hb, fun _ => ⟨g, rfl, (Array.getElem?_eq_some_iff.1 hc).1, fun j y hj => ?_⟩⟩
    refine take_cell hc ht j _ ?_
    rw [List.getElem?_map] at hj ⊢
    obtain ⟨x, hx, rfl⟩ := Option.map_eq_some_iff.1 hj
    rw [hx]; rfl

theorem woken_holds {W : World} {B0 rb : Nat} {kf : Nat → ByteArray} {xs : List Nat} (h : Holds W B0 rb kf xs 1) : Calls Try.prog 13 #[.pointer (some ⟨rb, 0, none⟩)] W fun e w' => e = .returned (.int .i64 1) ∧ W = w' := by
  obtain ⟨cb, mb, ini, q, kvs, h1, h2, h3⟩ := h
  exact woken_any h1
theorem waitingLen_holds {W : World} {B0 rb : Nat} {kf : Nat → ByteArray} {xs : List Nat} {wk : Nat} (h : Holds W B0 rb kf xs wk) : Calls Try.prog 12 #[.pointer (some ⟨rb, 0, none⟩)] W fun e w' => e = .returned (.int .i64 (xs.length : Nat)) ∧ W = w' := by
  obtain ⟨cb, mb, ini, q, kvs, h1, h2, rfl⟩ := h
  rw [List.length_map, ← h2.1]
  exact waitingLen_any h1

/-- The sends made, as the router is handed them: the blocks lie below L. -/
structure Ready (W : World) (L pb n : Nat) (ks : Nat → ByteArray) (wb : Nat → Nat) : Prop where
  ptr : ∀ j, j < n → W.cell? ⟨pb, j, none⟩ = some (.pointer (some ⟨wb j, 0, none⟩))
  wait : ∀ j, j < n → wb j < L ∧ W.cell? ⟨wb j, 0, none⟩ = some (.string (ks j))
  lt : pb < L
theorem Ready.under {w w' : World} {L pb n : Nat} {ks : Nat → ByteArray} {wb : Nat → Nat} (h : Ready w L pb n ks wb) (hb : Below L w w') : Ready w' L pb n ks wb :=
  ⟨fun j hj => (hb.cell (p := ⟨pb, j, none⟩) h.lt).trans (h.ptr j hj), fun j hj => ⟨(h.wait j hj).1, (hb.cell (p := ⟨wb j, 0, none⟩) (h.wait j hj).1).trans (h.wait j hj).2⟩, h.lt⟩
theorem Ready.up {w : World} {L L' pb n : Nat} {ks : Nat → ByteArray} {wb : Nat → Nat} (h : Ready w L pb n ks wb) (hL : L ≤ L') : Ready w L' pb n ks wb :=
  ⟨h.ptr, fun j hj => ⟨Nat.lt_of_lt_of_le (h.wait j hj).1 hL, (h.wait j hj).2⟩, Nat.lt_of_lt_of_le h.lt hL⟩
/-- The key of the send in a block. -/
def kfOf (W : World) (x : Nat) : ByteArray := match W.cell? ⟨x, 0, none⟩ with | some (.string s) => s | _ => ByteArray.empty
theorem Ready.kf {W : World} {L pb n : Nat} {ks : Nat → ByteArray} {wb : Nat → Nat} (h : Ready W L pb n ks wb) (j : Nat) (hj : j < n) : kfOf W (wb j) = ks j := by
  unfold kfOf; rw [(h.wait j hj).2]
/-- A part of them is added. -/
theorem add_ready {W : World} {B0 rb pb n : Nat} {ks : Nat → ByteArray} {wb : Nat → Nat} {kf : Nat → ByteArray} {xs : List Nat} {wk : Nat} (h : Holds W B0 rb kf xs wk) (hr : Ready W B0 pb n ks wb) (hkf : ∀ j, j < n → kf (wb j) = ks j)
    (hB : B0 ≤ W.heap.size) (so l c f : Nat) (hf : f + l ≤ n) (hso : 0 < l → so = f) (hlen : xs.length + l ≤ 9000) :
    Calls Try.prog 8 #[.pointer (some ⟨rb, 0, none⟩), .slice (some ⟨pb, so, none⟩) l c] W fun e w' => e = .returned (.tuple #[]) ∧ Below B0 W w' ∧ Holds w' B0 rb kf (adds kf xs ((List.range l).map fun i => wb (f + i))) 1 :=
  add_holds pb so l c (fun i => wb (f + i)) W h hB hr.lt (fun i hi => by rw [hso (by omega)]; exact hr.ptr (f + i) (by omega)) (fun i hi => ⟨(hr.wait (f + i) (by omega)).1, by rw [hkf (f + i) (by omega)]; exact (hr.wait (f + i) (by omega)).2⟩) hlen
theorem range_split (wb : Nat → Nat) (a b : Nat) : (List.range a).map wb ++ (List.range b).map (fun i => wb (a + i)) = (List.range (a + b)).map wb := by
  rw [List.range_add, List.map_append, List.map_map]; rfl
end Go.Proofs.Qxb6626077a
