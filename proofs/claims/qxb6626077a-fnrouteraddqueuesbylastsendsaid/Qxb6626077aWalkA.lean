import Derived.Test.Qxb6626077aLocks
import Derived.WalkKit
import Derived.WalkSpells
import Derived.WalkLawsBesides
import Derived.Deep.DeepCutAuto
import Derived.Deep.CutBlock
import Derived.BigQuiet
import Derived.LaidEqlPtr
import Derived.Lib.Builder
namespace Go.Proofs.Qxb6626077a
open Go.RowKit

theorem hide {p : Prop} (h : p) : Hid p := h
theorem ret_bool {a b : Bool} (h : a = b) : Ending.returned (.bool a) = .returned (.bool b) := by rw [h]

/-- Block b is a row of cells, none of them frozen. -/
def Row (w : World) (b : Nat) : Prop := ∃ c t, w.heap[b]? = some (.cells c t (0, 0))
theorem Row.frozen {w : World} {b : Nat} (h : Row w b) (o : Nat) : w.frozen? ⟨b, o, none⟩ = false := by
  obtain ⟨c, t, h⟩ := h
  simp [World.frozen?, h]
theorem Row.lt {w : World} {b : Nat} (h : Row w b) : b < w.heap.size := by
  obtain ⟨c, t, h⟩ := h
  exact (Array.getElem?_eq_some_iff.1 h).1
theorem Row.setCell {w : World} {b : Nat} (h : Row w b) (a : Addr) (v : Value) : Row (w.setCell a v) b := by
  obtain ⟨c, t, h⟩ := h
  by_cases e : a.block = b
  · refine ⟨if a.spot.isSome then c else c.setIfInBounds a.off v, t, ?_⟩
    simp only [World.setCell, Array.getElem?_modify, e, if_true, h]; rfl
  · exact ⟨c, t, by rw [Below.heap_setCell _ _ _ _ (fun q => e q.symm)]; exact h⟩
theorem Row.alloc {w : World} {b : Nat} (h : Row w b) (o : Obj) : Row (w.alloc o) b := by
  have := h.lt
  obtain ⟨c, t, h⟩ := h
  exact ⟨c, t, by rw [Below.heap_alloc _ _ _ this]; exact h⟩
theorem Row.new (w : World) (c : Array Value) (t : TypeId) : Row (w.alloc (.cells c t)) w.heap.size := ⟨c, t, by show (w.heap.push _)[w.heap.size]? = _; simp⟩

/-- Between w and w' only the cells of S have turned; new blocks may have been laid. -/
structure Chg (S : List Addr) (w w' : World) : Prop where
  os : w'.os = w.os
  tape : w'.tape = w.tape
  output : w'.output = w.output
  size : w.heap.size ≤ w'.heap.size
  cell : ∀ a : Addr, a ∉ S → a.block < w.heap.size → w'.cell? a = w.cell? a
  row : ∀ k, Row w k → Row w' k
  block : ∀ k, k < w.heap.size → (∀ a ∈ S, a.block ≠ k) → w'.heap[k]? = w.heap[k]?

theorem Chg.refl (S : List Addr) (w : World) : Chg S w w := ⟨rfl, rfl, rfl, Nat.le_refl _, fun _ _ _ => rfl, fun _ h => h, fun _ _ _ => rfl⟩
theorem Chg.trans {S : List Addr} {a b c : World} (h : Chg S a b) (k : Chg S b c) : Chg S a c :=
  ⟨k.os.trans h.os, k.tape.trans h.tape, k.output.trans h.output, Nat.le_trans h.size k.size,
   fun x hx hb => (k.cell x hx (Nat.lt_of_lt_of_le hb h.size)).trans (h.cell x hx hb),
   fun x hb => k.row x (h.row x hb),
   fun i hi hs => (k.block i (Nat.lt_of_lt_of_le hi h.size) hs).trans (h.block i hi hs)⟩
theorem Chg.weaken {S T : List Addr} {a b : World} (h : Chg S a b) (hs : ∀ x ∈ S, x ∈ T) : Chg T a b :=
  ⟨h.os, h.tape, h.output, h.size, fun x hx hb => h.cell x (fun q => hx (hs x q)) hb, h.row, fun i hi q => h.block i hi (fun x hx => q x (hs x hx))⟩
theorem Chg.drewN {S : List Addr} {a b : World} (h : Chg S a b) (n : Nat) : Chg S a (b.drewN n) := ⟨h.os, h.tape, h.output, h.size, h.cell, h.row, h.block⟩
theorem Chg.setCell {S : List Addr} {a b : World} (h : Chg S a b) {x : Addr} (hx : x ∈ S) (v : Value) : Chg S a (b.setCell x v) :=
  ⟨h.os, h.tape, h.output, by rw [World.size_setCell]; exact h.size,
   fun y hy hb => by rw [World.cell?_setCell_other b x y v (fun q => hy (q ▸ hx))]; exact h.cell y hy hb,
   fun y hb => (h.row y hb).setCell x v,
   fun i hi q => by rw [Below.heap_setCell _ _ _ _ (fun e => q x hx e.symm)]; exact h.block i hi q⟩
theorem Chg.alloc {S : List Addr} {a b : World} (h : Chg S a b) (o : Obj) : Chg S a (b.alloc o) :=
  ⟨h.os, h.tape, h.output, by rw [World.size_alloc]; exact Nat.le_succ_of_le h.size,
   fun y hy hb => by rw [World.cell?_alloc_lt _ _ _ (Nat.lt_of_lt_of_le hb h.size)]; exact h.cell y hy hb,
   fun y hb => (h.row y hb).alloc o,
   fun i hi q => by rw [Below.heap_alloc _ _ _ (Nat.lt_of_lt_of_le hi h.size)]; exact h.block i hi q⟩
theorem Chg.below {S : List Addr} {a b : World} (h : Chg S a b) {B : Nat} (hB : B ≤ a.heap.size) (hS : ∀ x ∈ S, B ≤ x.block) : Below B a b :=
  ⟨h.os, h.tape, h.output, h.size, fun k hk => h.block k (Nat.lt_of_lt_of_le hk hB) (fun x hx e => by have := hS x hx; omega)⟩

/-! ### pointers held against one another -/
theorem info62 : (Try.prog.info? 62).map (fun i => i.size) = some 4 := by kernel_rfl
theorem info64 : (Try.prog.info? 64).map (fun i => i.size) = some 5 := by kernel_rfl
theorem size47 : ((Try.prog.info? 47).map (fun i => decide (i.size = 0))) = some false := by kernel_rfl
theorem eql60_same (a : Addr) (w : World) : (binOp .eql 60 (.pointer (some a)) (.pointer (some a))).run Try.prog w = .ok (.bool true) w := by
  obtain ⟨j, hj, _⟩ := Option.map_eq_some_iff.1 info64
  exact run_eql_ptr_same w a Try.underlying60 hj
theorem neq59_same (a : Addr) (w : World) : (binOp .neq 59 (.pointer (some a)) (.pointer (some a))).run Try.prog w = .ok (.bool false) w := by
  obtain ⟨j, hj, _⟩ := Option.map_eq_some_iff.1 info62
  exact Lib.run_neq_ptr_same w a Try.underlying59 hj
theorem run_neq_ptr_other {P : Program} (w : World) {tp te : TypeId} {j : TypeInfo} {a b : Addr} (hp : P.underlying tp = some (.pointer te)) (hte : P.info? te = some j) (hsz : j.size ≠ 0)
    (hne : a ≠ b) (ha : Row w a.block) (hb : Row w b.block) :
    (binOp .neq tp (.pointer (some a)) (.pointer (some b))).run P w = .ok (.bool true) w := by
  obtain ⟨ca, ta, ha⟩ := ha
  obtain ⟨cb, tb, hb⟩ := hb
  have h : ∀ d : Nat, (Op.equalIn (d + 1) tp (.pointer (some a)) (.pointer (some b))).run P w = .ok false w := fun d => by
    simp [Op.equalIn, run_underlying hp, sizeOf, typeInfo, hte, hsz, run_sameAddr_other w hne ha hb]
  simp only [binOp]
  simp [Op.equal, Op.maxDepth, h 9999]
theorem neq59_other {a b : Addr} (w : World) (hne : a ≠ b) (ha : Row w a.block) (hb : Row w b.block) : (binOp .neq 59 (.pointer (some a)) (.pointer (some b))).run Try.prog w = .ok (.bool true) w := by
  obtain ⟨j, hj, hs⟩ := Option.map_eq_some_iff.1 info62
  exact run_neq_ptr_other w Try.underlying59 hj (by rw [hs]; decide) hne ha hb
theorem neq28_same (a : Addr) (w : World) : (binOp .neq 28 (.pointer (some a)) (.pointer (some a))).run Try.prog w = .ok (.bool false) w := by
  obtain ⟨j, hj, _⟩ := Option.map_eq_some_iff.1 size47
  exact Lib.run_neq_ptr_same w a Try.underlying28 hj
theorem neq28_other {a b : Addr} (w : World) (hne : a ≠ b) (ha : Row w a.block) (hb : Row w b.block) : (binOp .neq 28 (.pointer (some a)) (.pointer (some b))).run Try.prog w = .ok (.bool true) w := by
  obtain ⟨j, hj, hs⟩ := Option.map_eq_some_iff.1 size47
  exact run_neq_ptr_other w Try.underlying28 hj (by simpa using hs) hne ha hb

/-- The world behind 'remove', but for the draws. -/
def removed0 (w : World) (rb eb pb po nb no n : Nat) : World :=
  (((((w.setCell ⟨pb, po, none⟩ (.pointer (some ⟨nb, no, none⟩))).setCell ⟨nb, no + 1, none⟩ (.pointer (some ⟨pb, po, none⟩))).setCell ⟨eb, 0, none⟩ (.pointer none)).setCell ⟨eb, 1, none⟩ (.pointer none)).setCell ⟨eb, 2, none⟩ (.pointer none)).setCell ⟨rb, 11, none⟩ (.int .i64 ((n : Int) - 1))
theorem removed0_val (w : World) (rb eb pb po nb no n : Nat) (hpe : ¬ pb = eb) (hne : ¬ nb = eb) : (removed0 w rb eb pb po nb no n).cell? ⟨eb, 3, none⟩ = w.cell? ⟨eb, 3, none⟩ := by
  unfold removed0
  rw [World.cell?_setCell_other _ ⟨rb, 11, none⟩ ⟨eb, 3, none⟩ _ (by simp), World.cell?_setCell_other _ ⟨eb, 2, none⟩ ⟨eb, 3, none⟩ _ (by simp), World.cell?_setCell_other _ ⟨eb, 1, none⟩ ⟨eb, 3, none⟩ _ (by simp), World.cell?_setCell_other _ ⟨eb, 0, none⟩ ⟨eb, 3, none⟩ _ (by simp), World.cell?_setCell_other _ ⟨nb, no + 1, none⟩ ⟨eb, 3, none⟩ _ (fun q => hne (congrArg Addr.block q)), World.cell?_setCell_other _ ⟨pb, po, none⟩ ⟨eb, 3, none⟩ _ (fun q => hpe (congrArg Addr.block q))]
theorem drew2 (x : World) : x.drew.drew = x.drewN 2 := rfl
/-- The world behind 'remove'. -/
def removed (w : World) (rb eb pb po nb no n : Nat) : World := (removed0 w rb eb pb po nb no n).drewN 2

set_option maxRecDepth 100000 in
set_option maxHeartbeats 400000 in
theorem remove_any (rb eb pb po nb no : Nat) (n : Nat) (x2 xp xn : Value) (w : World) (hn0 : 1 ≤ n) (hn : n ≤ 10000) (hpe : ¬ pb = eb) (hne : ¬ nb = eb) (hre : ¬ rb = eb)
    (hpn : pb = nb → ¬ po = no + 1) (hpl : pb = rb → ¬ po = 11) (hnl : nb = rb → ¬ no = 10)
    (e0 : w.cell? ⟨eb, 0, none⟩ = some (.pointer (some ⟨nb, no, none⟩))) (e1 : w.cell? ⟨eb, 1, none⟩ = some (.pointer (some ⟨pb, po, none⟩))) (e2 : w.cell? ⟨eb, 2, none⟩ = some x2)
    (p0 : w.cell? ⟨pb, po, none⟩ = some xp) (n1 : w.cell? ⟨nb, no + 1, none⟩ = some xn) (hl : w.cell? ⟨rb, 11, none⟩ = some (.int .i64 n))
    (fe0 : w.frozen? ⟨eb, 0, none⟩ = false) (fe1 : w.frozen? ⟨eb, 1, none⟩ = false) (fe2 : w.frozen? ⟨eb, 2, none⟩ = false) (fp : w.frozen? ⟨pb, po, none⟩ = false) (fn : w.frozen? ⟨nb, no + 1, none⟩ = false) (fl : w.frozen? ⟨rb, 11, none⟩ = false) :
    Calls Try.prog 23 #[.pointer (some ⟨rb, 7, none⟩), .pointer (some ⟨eb, 0, none⟩)] w fun e w' => e = .returned (.tuple #[]) ∧ w' = removed w rb eb pb po nb no n := by
  have k1 : (w.setCell ⟨pb, po, none⟩ (.pointer (some ⟨nb, no, none⟩))).cell? ⟨nb, no + 1, none⟩ = some xn := by
    rw [World.cell?_setCell_other _ _ _ _ (by simp; exact hpn)]; exact n1
  have k2 : ((w.setCell ⟨pb, po, none⟩ (.pointer (some ⟨nb, no, none⟩))).setCell ⟨nb, no + 1, none⟩ (.pointer (some ⟨pb, po, none⟩))).cell? ⟨rb, 11, none⟩ = some (.int .i64 n) := by
    rw [World.cell?_setCell_other _ _ _ _ (by simp; exact hnl), World.cell?_setCell_other _ _ _ _ (by simp; exact hpl)]; exact hl
  go_enter Try.func23, Try.ntmps23
  go_wp2
  go_region
  go_wp2
  go_region
  go_wp2
  go_end0
  exact ⟨rfl, by unfold removed removed0; exact drew2 _⟩

set_option maxRecDepth 100000 in
set_option maxHeartbeats 400000 in
theorem push_raw (rb pb po fb fo : Nat) (n : Nat) (va : Addr) (w : World) (hn : n ≤ 10000) (hrb : rb < w.heap.size) (hpb : pb < w.heap.size)
    (hp8 : pb = rb → ¬ po = 8) (hpl : pb = rb → ¬ po = 11)
    (c7 : w.cell? ⟨rb, 7, none⟩ = some (.pointer (some ⟨fb, fo, none⟩))) (c8 : w.cell? ⟨rb, 8, none⟩ = some (.pointer (some ⟨pb, po, none⟩))) (hl : w.cell? ⟨rb, 11, none⟩ = some (.int .i64 n))
    (p0 : w.cell? ⟨pb, po, none⟩ = some (.pointer (some ⟨rb, 7, none⟩)))
    (f8 : w.frozen? ⟨rb, 8, none⟩ = false) (fl : w.frozen? ⟨rb, 11, none⟩ = false) (fp : w.frozen? ⟨pb, po, none⟩ = false) :
    Calls Try.prog 20 #[.pointer (some ⟨rb, 7, none⟩), .iface 28 (.pointer (some va))] w fun e w' => e = .returned (.pointer (some ⟨w.heap.size, 0, none⟩)) ∧ w' = (((w.setCell ⟨pb, po, none⟩ (.pointer (some ⟨w.heap.size, 0, none⟩))).setCell ⟨rb, 8, none⟩ (.pointer (some ⟨w.heap.size, 0, none⟩))).setCell ⟨rb, 11, none⟩ (.int .i64 ((n : Int) + 1))).alloc (.cells #[.pointer (some ⟨rb, 7, none⟩), .pointer (some ⟨pb, po, none⟩), .pointer (some ⟨rb, 7, none⟩), .iface 28 (.pointer (some va))] 62) := by
  have k1 : ∀ x, (w.setCell ⟨pb, po, none⟩ x).cell? ⟨rb, 8, none⟩ = some (.pointer (some ⟨pb, po, none⟩)) := by
    intro x
    rw [World.cell?_setCell_other _ _ _ _ (by simp; exact hp8)]; exact c8
  have k2 : ∀ x y, ((w.setCell ⟨pb, po, none⟩ x).setCell ⟨rb, 8, none⟩ y).cell? ⟨rb, 11, none⟩ = some (.int .i64 n) := by
    intro x y
    rw [World.cell?_setCell_other _ _ _ _ (by simp), World.cell?_setCell_other _ _ _ _ (by simp; exact hpl)]; exact hl
  go_enter Try.func20, Try.ntmps20
  go_wp2
  go_end0
  go_wp2
  go_ret
  exact ⟨rfl, rfl⟩

/-- What 'Init' makes of the list at ⟨rb, 7⟩. -/
def inited (w : World) (rb : Nat) : World := ((w.setCell ⟨rb, 7, none⟩ (.pointer (some ⟨rb, 7, none⟩))).setCell ⟨rb, 8, none⟩ (.pointer (some ⟨rb, 7, none⟩))).setCell ⟨rb, 11, none⟩ (.int .i64 0)

set_option maxRecDepth 100000 in
set_option maxHeartbeats 400000 in
theorem lazy_init (rb : Nat) (x8 x11 : Value) (w : World) (c7 : w.cell? ⟨rb, 7, none⟩ = some (.pointer none)) (c8 : w.cell? ⟨rb, 8, none⟩ = some x8) (hl : w.cell? ⟨rb, 11, none⟩ = some x11)
    (f7 : w.frozen? ⟨rb, 7, none⟩ = false) (f8 : w.frozen? ⟨rb, 8, none⟩ = false) (fl : w.frozen? ⟨rb, 11, none⟩ = false) :
    Calls Try.prog 24 #[.pointer (some ⟨rb, 7, none⟩)] w fun e w' => e = .returned (.tuple #[]) ∧ w' = inited w rb := by
  go_enter Try.func24, Try.ntmps24
  go_wp2
  go_end0
  exact ⟨rfl, rfl⟩

set_option maxRecDepth 100000 in
set_option maxHeartbeats 400000 in
theorem push_init (rb : Nat) (x8 x11 : Value) (va : Addr) (w : World) (hrb : rb < w.heap.size)
    (c7 : w.cell? ⟨rb, 7, none⟩ = some (.pointer none)) (c8 : w.cell? ⟨rb, 8, none⟩ = some x8) (hl : w.cell? ⟨rb, 11, none⟩ = some x11)
    (f7 : w.frozen? ⟨rb, 7, none⟩ = false) (f8 : w.frozen? ⟨rb, 8, none⟩ = false) (fl : w.frozen? ⟨rb, 11, none⟩ = false) :
    Calls Try.prog 20 #[.pointer (some ⟨rb, 7, none⟩), .iface 28 (.pointer (some va))] w fun e w' => e = .returned (.pointer (some ⟨w.heap.size, 0, none⟩)) ∧ w' = ((((inited w rb).setCell ⟨rb, 7, none⟩ (.pointer (some ⟨w.heap.size, 0, none⟩))).setCell ⟨rb, 8, none⟩ (.pointer (some ⟨w.heap.size, 0, none⟩))).setCell ⟨rb, 11, none⟩ (.int .i64 1)).alloc (.cells #[.pointer (some ⟨rb, 7, none⟩), .pointer (some ⟨rb, 7, none⟩), .pointer (some ⟨rb, 7, none⟩), .iface 28 (.pointer (some va))] 62) := by
  have hcon := lazy_init rb x8 x11 w c7 c8 hl f7 f8 fl
  have hz : (inited w rb).heap.size = w.heap.size := by simp [inited]
  have i7 : (inited w rb).cell? ⟨rb, 7, none⟩ = some (.pointer (some ⟨rb, 7, none⟩)) := by
    unfold inited
    rw [World.cell?_setCell_other _ _ _ _ (by simp), World.cell?_setCell_other _ _ _ _ (by simp), World.cell?_setCell_same _ _ _ c7]
  have i8 : (inited w rb).cell? ⟨rb, 8, none⟩ = some (.pointer (some ⟨rb, 7, none⟩)) := by
    unfold inited
    rw [World.cell?_setCell_other _ _ _ _ (by simp), World.cell?_setCell_same _ _ _ (u := x8)]
    rw [World.cell?_setCell_other _ _ _ _ (by simp)]; exact c8
  have il : (inited w rb).cell? ⟨rb, 11, none⟩ = some (.int .i64 0) := by
    unfold inited
    rw [World.cell?_setCell_same _ _ _ (u := x11)]
    rw [World.cell?_setCell_other _ _ _ _ (by simp), World.cell?_setCell_other _ _ _ _ (by simp)]; exact hl
  have g7 : (inited w rb).frozen? ⟨rb, 7, none⟩ = false := by simp [inited, f7]
  have g8 : (inited w rb).frozen? ⟨rb, 8, none⟩ = false := by simp [inited, f8]
  have gl : (inited w rb).frozen? ⟨rb, 11, none⟩ = false := by simp [inited, fl]
  generalize inited w rb = v at *
  have hrv : rb < v.heap.size := by rw [hz]; exact hrb
  rw [← hz]
  have HZ := hide hz
  clear hz c7 c8 hl f7 f8 fl hrb
  go_enter Try.func20, Try.ntmps20
  go_wp2_with (first | (go_at_call 24; refine hcon.mono ?_; rintro e w' ⟨rfl, rfl⟩) | go_in)
  go_ret
  exact ⟨rfl, rfl⟩

set_option maxRecDepth 100000 in
set_option maxHeartbeats 400000 in
theorem Remove_any (rb eb pb po nb no : Nat) (n : Nat) (v xp xn : Value) (w : World) (hn0 : 1 ≤ n) (hn : n ≤ 10000) (hpe : ¬ pb = eb) (hne : ¬ nb = eb) (hre : ¬ rb = eb)
    (hpn : pb = nb → ¬ po = no + 1) (hpl : pb = rb → ¬ po = 11) (hnl : nb = rb → ¬ no = 10)
    (e0 : w.cell? ⟨eb, 0, none⟩ = some (.pointer (some ⟨nb, no, none⟩))) (e1 : w.cell? ⟨eb, 1, none⟩ = some (.pointer (some ⟨pb, po, none⟩))) (e2 : w.cell? ⟨eb, 2, none⟩ = some (.pointer (some ⟨rb, 7, none⟩))) (e3 : w.cell? ⟨eb, 3, none⟩ = some v)
    (p0 : w.cell? ⟨pb, po, none⟩ = some xp) (n1 : w.cell? ⟨nb, no + 1, none⟩ = some xn) (hl : w.cell? ⟨rb, 11, none⟩ = some (.int .i64 n))
    (fe0 : w.frozen? ⟨eb, 0, none⟩ = false) (fe1 : w.frozen? ⟨eb, 1, none⟩ = false) (fe2 : w.frozen? ⟨eb, 2, none⟩ = false) (fp : w.frozen? ⟨pb, po, none⟩ = false) (fn : w.frozen? ⟨nb, no + 1, none⟩ = false) (fl : w.frozen? ⟨rb, 11, none⟩ = false) :
    Calls Try.prog 19 #[.pointer (some ⟨rb, 7, none⟩), .pointer (some ⟨eb, 0, none⟩)] w fun e w' => e = .returned v ∧ w' = removed w rb eb pb po nb no n := by
  have hcon := remove_any rb eb pb po nb no n _ xp xn w hn0 hn hpe hne hre hpn hpl hnl e0 e1 e2 p0 n1 hl fe0 fe1 fe2 fp fn fl
  have h3 : (removed w rb eb pb po nb no n).cell? ⟨eb, 3, none⟩ = some v := by
    unfold removed
    rw [World.cell?_drewN, removed0_val w rb eb pb po nb no n hpe hne]; exact e3
  have hq := eql60_same ⟨rb, 7, none⟩
  generalize removed w rb eb pb po nb no n = W at *
  go_enter Try.func19, Try.ntmps19
  go_wp2_with (go_at_call 23; refine hcon.mono ?_; rintro e w' ⟨rfl, rfl⟩)
  go_ret
  exact ⟨rfl, rfl⟩

theorem front_empty (rb : Nat) (w : World) (hl : w.cell? ⟨rb, 11, none⟩ = some (.int .i64 0)) :
    Calls Try.prog 16 #[.pointer (some ⟨rb, 7, none⟩)] w fun e w' => e = .returned (.pointer none) ∧ w = w' := by
  go_enter Try.func16, Try.ntmps16
  go_wp2
  go_ret
  exact ⟨rfl, rfl⟩

theorem front_some (rb : Nat) (n : Nat) (v : Value) (w : World) (hn : 1 ≤ n) (hl : w.cell? ⟨rb, 11, none⟩ = some (.int .i64 n)) (c7 : w.cell? ⟨rb, 7, none⟩ = some v) :
    Calls Try.prog 16 #[.pointer (some ⟨rb, 7, none⟩)] w fun e w' => e = .returned v ∧ w = w' := by
  have hq : ((n : Int) == 0) = false := by simp; omega
  go_enter Try.func16, Try.ntmps16
  go_wp2
  go_ret
  exact ⟨rfl, rfl⟩

set_option maxRecDepth 100000 in
theorem next_last (rb eb : Nat) (w : World) (e0 : w.cell? ⟨eb, 0, none⟩ = some (.pointer (some ⟨rb, 7, none⟩))) (e2 : w.cell? ⟨eb, 2, none⟩ = some (.pointer (some ⟨rb, 7, none⟩))) :
    Calls Try.prog 17 #[.pointer (some ⟨eb, 0, none⟩)] w fun e w' => e = .returned (.pointer none) ∧ w = w' := by
  have hq := neq59_same ⟨rb, 7, none⟩
  go_enter Try.func17, Try.ntmps17
  go_wp2
  go_ret
  exact ⟨rfl, rfl⟩

set_option maxRecDepth 100000 in
theorem next_more (rb eb fb : Nat) (w : World) (hf : ¬ fb = rb) (hrf : Row w fb) (hrr : Row w rb) (e0 : w.cell? ⟨eb, 0, none⟩ = some (.pointer (some ⟨fb, 0, none⟩))) (e2 : w.cell? ⟨eb, 2, none⟩ = some (.pointer (some ⟨rb, 7, none⟩))) :
    Calls Try.prog 17 #[.pointer (some ⟨eb, 0, none⟩)] w fun e w' => e = .returned (.pointer (some ⟨fb, 0, none⟩)) ∧ w = w' := by
  have hq := neq59_other (a := ⟨fb, 0, none⟩) (b := ⟨rb, 7, none⟩) w (fun q => hf (congrArg Addr.block q)) hrf hrr
  clear hrf hrr
  go_enter Try.func17, Try.ntmps17
  go_wp2
  go_ret
  exact ⟨rfl, rfl⟩
end Go.Proofs.Qxb6626077a
