/- The select at the end of 'add'. -/
import Derived.Test.Qxb6626077aQueue
namespace Go.Proofs.Qxb6626077a
open Go.RowKit Go.Conc

section
variable {P : Program} {Q : Exit → Act → World → Prop} {a : Act} {w : World}
theorem range_cons (n : Nat) : List.range (n + 1) = 0 :: List.range' 1 n := by rw [List.range_eq_range']; rfl
theorem wpN_seq_kN {x y : Code} (h : ∀ K : Act → World → Prop, (∀ a w, wpN P y Q a w → K a w) → wpN P x (Exit.then K Q) a w) : wpN P (Code.seq x y) Q a w :=
  wpN_seq (h _ fun _ _ h => h)
theorem wpN_send_room {id : Nat} {o : Oper} {l : List Oper} (hw : Region.wanted o (yielded (o :: l).toArray a.tmps) = true)
    {c cap s r : Nat} {buf : Array Value} {tm : Bool} {v z : Value}
    (hx : (execOp a.eval o).run P w = .ok (.comm #[scase c v z] false .select) w) (hc : w.heap[c]? = some (.chan cap buf false s r tm)) (hroom : buf.size < cap)
    (h : wpList P (o :: l).toArray Q l (a.put o.dst (.tuple #[goInt 0, .bool false])) (w.setChan c cap (buf.push v) false (s + 1) r tm)) : wpN P (Code.region id (o :: l).toArray false) Q a w :=
  wpN_region_send (rest := List.range' 1 l.length) (range_cons _) rfl hw hx hc hroom (by
    rw [wpOps_eq_wpList l 1 (fun j => by rw [Nat.add_comm]; simp)]; exact h)
theorem wpN_send_full {id : Nat} {o : Oper} {l : List Oper} (hw : Region.wanted o (yielded (o :: l).toArray a.tmps) = true)
    {c cap s r : Nat} {buf : Array Value} {tm : Bool} {v z : Value}
    (hx : (execOp a.eval o).run P w = .ok (.comm #[scase c v z] false .select) w) (hc : w.heap[c]? = some (.chan cap buf false s r tm)) (hfull : cap ≤ buf.size)
    (h : wpList P (o :: l).toArray Q l (a.put o.dst (.tuple #[goInt (-1), .bool false])) w) : wpN P (Code.region id (o :: l).toArray false) Q a w :=
  wpN_region_full (rest := List.range' 1 l.length) (range_cons _) rfl hw hx hc hfull (by
    rw [wpOps_eq_wpList l 1 (fun j => by rw [Nat.add_comm]; simp)]; exact h)
end

/-- The channel laid anew. -/
theorem RT.chan {w : World} {B0 rb cb mb : Nat} {lk : Int} {ini : Bool} {q : List (Nat × Nat)} {wk : Nat} {kvs : List (ByteArray × Value)} (h : RT w B0 rb cb mb lk ini q wk kvs) (s r : Nat) :
    RT (w.setChan cb 1 #[.agg #[]] false s r false) B0 rb cb mb lk ini q 1 kvs := by
  have hb := h.cbmb
  have hrb := h.cbne h.rl.rrow
  obtain ⟨s0, r0, hch⟩ := h.ch
  have hother : ∀ k, k ≠ cb → (w.setChan cb 1 #[.agg #[]] false s r false).heap[k]? = w.heap[k]? := by
    intro k hk
    simp only [World.setChan]
    rw [Array.getElem?_setIfInBounds_ne (fun e => hk e.symm)]
  have hc : Chg [⟨cb, 0, none⟩] w (w.setChan cb 1 #[.agg #[]] false s r false) := by
    refine ⟨rfl, rfl, rfl, by simp [World.setChan], fun a _ _ => ?_, fun k hk => ?_, fun k _ hs => hother k (fun e => hs ⟨cb, 0, none⟩ (by simp) e.symm)⟩
    · by_cases e : a.block = cb
      · unfold World.cell?
        rw [e, hch, heap_setChan w cb 1 _ false s r false hb.2.1]
      · unfold World.cell?
        rw [hother _ e]
    · have hne := (h.cbne hk).1
      obtain ⟨c, t, hc⟩ := hk
      exact ⟨c, t, by rw [hother k hne]; exact hc⟩
  have key : ∀ o v, w.cell? ⟨rb, o, none⟩ = some v → (w.setChan cb 1 #[.agg #[]] false s r false).cell? ⟨rb, o, none⟩ = some v := by
    intro o v hv
    rw [hc.cell ⟨rb, o, none⟩ (fun q => hrb.1 (congrArg Addr.block (List.mem_singleton.1 q))) (block_lt_of_cell hv)]; exact hv
  refine ⟨h.rl.keep hc (fun a ha => ?_), key _ _ h.c4, key _ _ h.c5, key _ _ h.c12, h.hcb, h.hmb, ⟨s, r, ?_⟩, h.mi.keep (hother mb (fun e => hb.1 e.symm))⟩
  · rw [List.mem_singleton.1 ha]
    exact ⟨fun x hx e => (h.cbne (h.rl.els x hx).2.1).1 e.symm, fun e => absurd e.symm hrb.1⟩
  · rw [heap_setChan w cb 1 _ false s r false hb.2.1]; rfl
end Go.Proofs.Qxb6626077a
