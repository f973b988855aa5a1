/- Two laws that the kit lacks: a select inside a body that is walked by 'Code.wp' (an ordinary call's frame); maps keyed by strings, in the raw. -/
import Derived.Test.Qxb6626077aWalkA
import Derived.Conc.LoneSelect
import Derived.Conc.Own
import Derived.Conc.LoneSelectN
import Derived.MapKept
import Derived.Carry
import Derived.WideLaws
namespace Go.Proofs.Qxb6626077a
open Go.RowKit Go.Conc

/-- 'Code.wp' in an ordinary call's frame. -/
def wpN (P : Program) (c : Code) (Q : Exit → Act → World → Prop) (a : Act) (w : World) : Prop :=
  ∀ (b : Frame) (k : List Item) (cs : List Frame), b.kind = .normal → ∃ e a' w', Q e a' w' ∧ Arrives P (lone (b.at a (.code c :: k)) cs w) b k cs e a' w'

section
variable {P : Program} {Q : Exit → Act → World → Prop} {a : Act} {w : World}
theorem wpN_of {c : Code} (h : c.wp P Q a w) : wpN P c Q a w := fun b k cs _ => h b k cs
theorem wpN_seq {x y : Code} (h : wpN P x (Exit.then (wpN P y Q) Q) a w) : wpN P (Code.seq x y) Q a w := by
  intro b k cs hk
  obtain ⟨e, a₁, w₁, hq, harr⟩ := h b (.code y :: k) cs hk
  cases e with
  | normal =>
    obtain ⟨e₂, a₂, w₂, hq₂, harr₂⟩ := hq b k cs hk
    exact ⟨e₂, a₂, w₂, hq₂, .of_steps (.head step_seq harr) harr₂⟩
  | exit id => exact ⟨_, a₁, w₁, hq, .of_steps (.one step_seq) (.pass (x := .code y) rfl (fun _ _ => .inl (by simp)) harr)⟩
  | goto l => exact ⟨_, a₁, w₁, hq, .of_steps (.one step_seq) (.pass (x := .code y) rfl (fun _ _ => .inl (by simp)) harr)⟩
  | ret => exact ⟨_, a₁, w₁, hq, .of_steps (.one step_seq) (.pass (x := .code y) rfl (fun _ _ => .inl (by simp)) harr)⟩
  | panic ch => exact ⟨_, a₁, w₁, hq, .of_steps (.one step_seq) (.pass (x := .code y) rfl (fun _ _ => .inl (by simp)) harr)⟩
  | outgrown => exact ⟨_, a₁, w₁, hq, .of_steps (.one step_seq) (.pass (x := .code y) rfl (fun _ _ => .inl (by simp)) harr)⟩
theorem wpN_seq_k {x y : Code} (h : ∀ K : Act → World → Prop, (∀ a w, wpN P y Q a w → K a w) → x.wp P (Exit.then K Q) a w) : wpN P (Code.seq x y) Q a w :=
  wpN_seq (wpN_of (h _ fun _ _ h => h))
theorem calls_of_wpN {f : FuncId} {fn : Func} {c : Code} {args : Array Value} {R : Ending → World → Prop}
    (hf : P.funcs[f]? = some fn) (hb : fn.body = some c)
    (h : wpN P c (bodyPost P fn R) { tmps := args ++ Array.replicate (fn.ntmps - args.size) undef, defers := [] } w) :
    Calls P f args w R := by
  intro cs
  let b : Frame := { (default : Frame) with fn := f, kind := .normal }
  have henter : Frame.enter P f args .normal =
      b.at { tmps := args ++ Array.replicate (fn.ntmps - args.size) undef, defers := [] } [.code c] := by
    simp [Frame.enter, Frame.at, hf, hb, b]
  obtain ⟨e, a', w', hq, harr⟩ := h b [] cs rfl
  rw [← henter] at harr
  cases e with
  | normal =>
    obtain ⟨hd, v, hr, hR⟩ := hq
    exact ⟨.returned v, w', _, hR, Steps.trans harr (.one step_end), rfl, rfl, hd, rfl, fn, hf, hr⟩
  | ret =>
    obtain ⟨hd, v, hr, hR⟩ := hq
    obtain ⟨todo, hs⟩ := harr
    exact ⟨.returned v, w', _, hR, hs, rfl, rfl, hd, rfl, fn, hf, hr⟩
  | panic chain =>
    obtain ⟨hd, hR⟩ := hq
    obtain ⟨todo, hs⟩ := harr
    exact ⟨.panicked chain, w', _, hR, hs, rfl, rfl, hd, fn, hf⟩
  | exit id => exact hq.elim
  | goto l => exact hq.elim
  | outgrown => exact ⟨.outgrown, w', b, hq, harr.resolve_left (by simp [b]), rfl, trivial⟩

/-- A region whose first operation is a select of one send with a default: the rest goes on behind what the select hands over. -/
theorem wpN_region_send {id : Nat} {ops : Array Oper} {o : Oper} {rest : List Nat} (hr : List.range ops.size = 0 :: rest) (ho : ops[0]? = some o) (hw : Region.wanted o (yielded ops a.tmps) = true)
    {c cap s r : Nat} {buf : Array Value} {tm : Bool} {v z : Value}
    (hx : (execOp a.eval o).run P w = .ok (.comm #[scase c v z] false .select) w) (hc : w.heap[c]? = some (.chan cap buf false s r tm)) (hroom : buf.size < cap)
    (h : wpOps P ops Q rest (a.put o.dst (.tuple #[goInt 0, .bool false])) (w.setChan c cap (buf.push v) false (s + 1) r tm)) : wpN P (Code.region id ops false) Q a w := by
  intro b k cs hk
  obtain ⟨e, a', w', q, r'⟩ := wp_ops rest _ _ h b k cs
  refine ⟨e, a', w', q, .of_steps (.one step_region) (.of_steps (.one ?_) r')⟩
  rw [hr]
  have := step_lone_select_send_room (stepG_comm (P := P) (b := b) (k := k) (cs := cs) (rest := rest) (main := true) ho hw (by rw [hk]; decide) hx) hc hroom
  rw [Frame.finish_at, ho] at this
  exact this
theorem wpN_region_full {id : Nat} {ops : Array Oper} {o : Oper} {rest : List Nat} (hr : List.range ops.size = 0 :: rest) (ho : ops[0]? = some o) (hw : Region.wanted o (yielded ops a.tmps) = true)
    {c cap s r : Nat} {buf : Array Value} {tm : Bool} {v z : Value}
    (hx : (execOp a.eval o).run P w = .ok (.comm #[scase c v z] false .select) w) (hc : w.heap[c]? = some (.chan cap buf false s r tm)) (hfull : cap ≤ buf.size)
    (h : wpOps P ops Q rest (a.put o.dst (.tuple #[goInt (-1), .bool false])) w) : wpN P (Code.region id ops false) Q a w := by
  intro b k cs hk
  obtain ⟨e, a', w', q, r'⟩ := wp_ops rest _ _ h b k cs
  refine ⟨e, a', w', q, .of_steps (.one step_region) (.of_steps (.one ?_) r')⟩
  rw [hr]
  have := step_lone_select_send_full (stepG_comm (P := P) (b := b) (k := k) (cs := cs) (rest := rest) (main := true) ho hw (by rw [hk]; decide) hx) hc hfull
  rw [Frame.finish_at, ho] at this
  exact this
end

/-! ### maps keyed by strings -/
def mfind : List (ByteArray × Value) → ByteArray → Nat → Option (Nat × Value)
  | [], _, _ => none
  | (a, v) :: r, k, i => if k = a then some (i, v) else mfind r k (i + 1)
def mlook : List (ByteArray × Value) → ByteArray → Option Value
  | [], _ => none
  | (a, v) :: r, k => if k = a then some v else mlook r k
def mput : List (ByteArray × Value) → ByteArray → Value → List (ByteArray × Value)
  | [], k, v => [(k, v)]
  | (a, u) :: r, k, v => if k = a then (k, v) :: r else (a, u) :: mput r k v

theorem mfind_look (kvs : List (ByteArray × Value)) (k : ByteArray) : ∀ i, (mfind kvs k i).map (·.2) = mlook kvs k := by
  induction kvs with
  | nil => intro i; rfl
  | cons x r ih => intro i; obtain ⟨a, v⟩ := x; rw [mfind, mlook]; split <;> simp [ih]
theorem mlook_put (kvs : List (ByteArray × Value)) (k : ByteArray) (v : Value) (k' : ByteArray) : mlook (mput kvs k v) k' = if k' = k then some v else mlook kvs k' := by
  induction kvs with
  | nil => rw [mput, mlook]; rfl
  | cons x r ih =>
    obtain ⟨a, u⟩ := x
    rw [mput]
    by_cases h : k = a
    · rw [if_pos h, mlook, mlook]
      by_cases h' : k' = k
      · rw [if_pos h', if_pos h']
      · rw [if_neg h', if_neg h', if_neg (by rw [← h]; exact h')]
    · rw [if_neg h, mlook, ih, mlook]
      by_cases h' : k' = a
      · rw [if_pos h', if_pos h', if_neg (by rw [h']; exact fun q => h q.symm)]
      · rw [if_neg h', if_neg h']
theorem mput_length (kvs : List (ByteArray × Value)) (k : ByteArray) (v : Value) : (mput kvs k v).length = if (mlook kvs k).isSome then kvs.length else kvs.length + 1 := by
  induction kvs with
  | nil => rfl
  | cons x r ih =>
    obtain ⟨a, u⟩ := x
    rw [mput, mlook]
    by_cases h : k = a
    · rw [if_pos h, if_pos h]; simp
    · rw [if_neg h, if_neg h, List.length_cons, ih, List.length_cons]; split <;> rfl
theorem mfind_put (kvs : List (ByteArray × Value)) (k : ByteArray) (v : Value) : ∀ i j u, mfind kvs k i = some (j, u) → i ≤ j ∧ j - i < kvs.length ∧ (kvs[j - i]?).map (·.1) = some k ∧ kvs.set (j - i) (k, v) = mput kvs k v := by
  induction kvs with
  | nil => intro i j u h; cases h
  | cons x r ih =>
    obtain ⟨a, w⟩ := x
    intro i j u h
    rw [mfind] at h
    by_cases hk : k = a
    · rw [if_pos hk] at h
      simp only [Option.some.injEq, Prod.mk.injEq] at h
      obtain ⟨rfl, rfl⟩ := h
      rw [Nat.sub_self, mput, if_pos hk]
      exact ⟨Nat.le_refl _, by simp, by simp [hk], rfl⟩
    · rw [if_neg hk] at h
      obtain ⟨h1, h2, h3, h4⟩ := ih (i + 1) j u h
      rw [mput, if_neg hk, show j - i = (j - (i + 1)) + 1 by omega, List.set_cons_succ, h4]
      exact ⟨by omega, by simp; omega, by simpa using h3, rfl⟩
theorem mfind_none (kvs : List (ByteArray × Value)) (k : ByteArray) (v : Value) : ∀ i, mfind kvs k i = none → mput kvs k v = kvs ++ [(k, v)] := by
  induction kvs with
  | nil => intro i h; rfl
  | cons x r ih =>
    obtain ⟨a, w⟩ := x
    intro i h
    rw [mfind] at h
    by_cases hk : k = a
    · rw [if_pos hk] at h; cases h
    · rw [if_neg hk] at h
      rw [mput, if_neg hk, ih _ h]; rfl

def entryOf (e : MapEntry) : Value × Value := (e.key, e.val)
def kvOf (x : ByteArray × Value) : Value × Value := (.string x.1, x.2)
/-- Block b is a map that holds kvs. -/
def MapIs (w : World) (b : Nat) (kvs : List (ByteArray × Value)) : Prop :=
  ∃ es clock, w.heap[b]? = some (.map es clock) ∧ es.toList.map entryOf = kvs.map kvOf

theorem findNow_eq (k : ByteArray) : ∀ (es : List MapEntry) (kvs : List (ByteArray × Value)) (i : Nat), es.map entryOf = kvs.map kvOf → Instr.findNow .string (.string k) es i = some (mfind kvs k i) := by
  intro es
  induction es with
  | nil => intro kvs i h; cases kvs with
    | nil => rfl
    | cons x r => cases h
  | cons e es ih =>
    intro kvs i h
    cases kvs with
    | nil => cases h
    | cons x r =>
      obtain ⟨a, v⟩ := x
      simp only [List.map_cons, List.cons.injEq, entryOf, kvOf, Prod.mk.injEq] at h
      obtain ⟨⟨h1, h2⟩, h3⟩ := h
      rw [mfind]
      by_cases hk : k = a
      · rw [if_pos hk]
        subst hk
        simp [Instr.findNow, h1, Instr.sameNow, h2, (MapKept.bytes_beq k k).2 rfl]
      · rw [if_neg hk]
        have hb : (k == a) = false := by rw [Bool.eq_false_iff]; exact fun q => hk ((MapKept.bytes_beq k a).1 q)
        simp [Instr.findNow, h1, Instr.sameNow, hb, ih r (i + 1) h3]

theorem isKey (k : ByteArray) : MapKept.IsKey .string (.string k) := by simp [MapKept.IsKey]

theorem run_lookup_str {w : World} {mb : Nat} {kvs : List (ByteArray × Value)} (h : MapIs w mb kvs) (k : ByteArray) :
    (Instr.lookup 49 (.map (some mb)) (.string k) true).run Try.prog w = .ok (.tuple #[(mlook kvs k).getD (.pointer none), .bool (mlook kvs k).isSome]) w := by
  obtain ⟨es, clock, hb, he⟩ := h
  have h1 := findNow_eq k es.toList kvs 0 he
  have hl := mfind_look kvs k 0
  cases hf : mfind kvs k 0 with
  | none =>
    rw [hf] at h1 hl
    rw [← hl]
    simp [Instr.lookup, run_underlying Try.underlying49, MapKept.run_getObj_map hb, MapKept.run_checkKey Try.underlying9 (isKey k), MapKept.run_findKey Try.underlying9 h1, Result.andThen, Try.zeroValue59]
  | some x =>
    obtain ⟨j, v⟩ := x
    rw [hf] at h1 hl
    rw [← hl]
    simp [Instr.lookup, run_underlying Try.underlying49, MapKept.run_getObj_map hb, MapKept.run_checkKey Try.underlying9 (isKey k), MapKept.run_findKey Try.underlying9 h1, Result.andThen]

/-- Block mb, a map, has been laid anew. -/
def MapSet (w w' : World) (mb : Nat) : Prop := ∃ es clock es' clock', w.heap[mb]? = some (.map es clock) ∧ w' = { w with heap := w.heap.setIfInBounds mb (.map es' clock') }

theorem modify_map (v : Value) (k : ByteArray) : ∀ (l : List MapEntry) (i : Nat), ((l.modify i fun e => { e with key := .string k, val := v }).map entryOf) = (l.map entryOf).set i (.string k, v) := by
  intro l
  induction l with
  | nil => intro i; cases i <;> rfl
  | cons e l ih =>
    intro i
    cases i with
    | zero => rfl
    | succ i => simp [ih, List.modify_succ_cons]

theorem run_update_str {w : World} {mb : Nat} {kvs : List (ByteArray × Value)} (h : MapIs w mb kvs) (k : ByteArray) (v : Value) :
    ∃ w', (Instr.mapUpdate 49 (.map (some mb)) (.string k) v).run Try.prog w = .ok () w' ∧ MapIs w' mb (mput kvs k v) ∧ MapSet w w' mb := by
  obtain ⟨es, clock, hb, he⟩ := h
  have hlt : mb < w.heap.size := (Array.getElem?_eq_some_iff.1 hb).1
  have h1 := findNow_eq k es.toList kvs 0 he
  cases hf : mfind kvs k 0 with
  | none =>
    rw [hf] at h1
    have hp := mfind_none kvs k v 0 hf
    refine ⟨{ w with heap := w.heap.setIfInBounds mb (.map (es.push { key := .string k, val := v, born := clock }) (clock + 1)) }, ?_, ⟨_, _, by simp [hlt]; exact ⟨rfl, rfl⟩, ?_⟩, ⟨es, clock, _, _, hb, rfl⟩⟩
    · simp [Instr.mapUpdate, run_underlying Try.underlying49, MapKept.run_getObj_map hb, MapKept.run_checkKey Try.underlying9 (isKey k), MapKept.run_findKey Try.underlying9 h1, MapKept.run_setObj_map _ hb, Result.andThen]
    · rw [hp, Array.toList_push, List.map_append, he, List.map_append]; rfl
  | some x =>
    obtain ⟨j, u⟩ := x
    rw [hf] at h1
    obtain ⟨_, hj, hk, hp⟩ := mfind_put kvs k v 0 j u hf
    rw [Nat.sub_zero] at hj hk hp
    have hje : (es.toList.map entryOf)[j]? = (kvs.map kvOf)[j]? := by rw [he]
    have hkey : (es[j]?).map (·.key) = some (.string k) := by
      rw [List.getElem?_map, List.getElem?_map] at hje
      obtain ⟨y, hy, hy'⟩ := Option.map_eq_some_iff.1 hk
      rw [hy] at hje
      simp only [Option.map_some] at hje
      obtain ⟨e, h2, h3⟩ := Option.map_eq_some_iff.1 hje
      rw [Array.getElem?_toList] at h2
      rw [h2, Option.map_some]
      have := congrArg Prod.fst h3
      simp only [entryOf, kvOf] at this
      rw [this, hy']
    refine ⟨{ w with heap := w.heap.setIfInBounds mb (.map (es.modify j fun e => { e with key := .string k, val := v }) clock) }, ?_, ⟨_, _, by simp [hlt]; exact ⟨rfl, rfl⟩, ?_⟩, ⟨es, clock, _, _, hb, rfl⟩⟩
    · simp [Instr.mapUpdate, run_underlying Try.underlying49, MapKept.run_getObj_map hb, MapKept.run_checkKey Try.underlying9 (isKey k), MapKept.run_findKey Try.underlying9 h1, MapKept.run_setObj_map _ hb, Result.andThen, hkey, MapKept.run_keyThatStays (isKey k)]
    · rw [Array.toList_modify, modify_map, he, ← hp, List.map_set]; rfl

theorem MapSet.chg {w w' : World} {mb : Nat} (h : MapSet w w' mb) : Chg [⟨mb, 0, none⟩] w w' := by
  obtain ⟨es, clock, es', clock', hb, rfl⟩ := h
  have hlt : mb < w.heap.size := (Array.getElem?_eq_some_iff.1 hb).1
  refine ⟨rfl, rfl, rfl, by simp, fun a _ _ => ?_, fun k hk => ?_, fun k hk hs => ?_⟩
  · by_cases e : a.block = mb
    · unfold World.cell?
      simp only [e]
      rw [hb]
      simp [hlt]
    · unfold World.cell?
      simp only
      rw [Array.getElem?_setIfInBounds_ne (fun q => e q.symm)]
  · obtain ⟨c, t, hc⟩ := hk
    have hne : mb ≠ k := fun q => by rw [← q, hb] at hc; cases hc
    exact ⟨c, t, by simp only; rw [Array.getElem?_setIfInBounds_ne hne]; exact hc⟩
  · have hne : mb ≠ k := hs ⟨mb, 0, none⟩ (by simp)
    simp only
    rw [Array.getElem?_setIfInBounds_ne hne]
end Go.Proofs.Qxb6626077a
