/- The router made; its queue handed out; how many values it is woken by. -/
import Derived.Test.Qxb6626077aWalkB
namespace Go.Proofs.Qxb6626077a
open Go.RowKit Go.Conc

theorem info52 : (Try.prog.info? 52).map (fun i => i.bytes) = some 0 := by kernel_rfl
theorem mk48 (w : World) : (Instr.makeChan 48 (.int .i64 1)).run Try.prog w = .ok (.chan (some w.heap.size)) (w.alloc (.chan 1 #[] false 0 0 false)) := by
  obtain ⟨i, hi, hb⟩ := Option.map_eq_some_iff.1 info52
  exact run_makeChan Try.underlying48 hi .i64 1 (by omega) (by rw [hb]; omega)

def routerCells (cb mb : Nat) : Array Value :=
  #[.string ⟨#[]⟩, .string ⟨#[]⟩, .pointer none, .pointer none, .chan (some cb), .int .i32 0, .int .u32 0, .pointer none, .pointer none, .pointer none, .nilIface, .int .i64 0, .map (some mb), .slice none 0 0]
def routerW (w : World) : World := ((w.alloc (.chan 1 #[] false 0 0 false)).alloc (.map #[] 0)).alloc (.cells (routerCells w.heap.size (w.heap.size + 1)) 66)
theorem router_cell (w : World) (o : Nat) : (routerW w).cell? ⟨w.heap.size + 2, o, none⟩ = (routerCells w.heap.size (w.heap.size + 1))[o]? := by
  unfold routerW
  rw [World.cell?_alloc_at _ _ _ _ (by simp)]
theorem router_RT (w : World) : RT (routerW w) w.heap.size (w.heap.size + 2) w.heap.size (w.heap.size + 1) 0 false [] 0 [] := by
  have hrow : Row (routerW w) (w.heap.size + 2) := by
    have := Row.new ((w.alloc (.chan 1 #[] false 0 0 false)).alloc (.map #[] 0)) (routerCells w.heap.size (w.heap.size + 1)) 66
    simpa [routerW] using this
  refine ⟨⟨by omega, hrow, router_cell w 11, fun e => absurd e (by decide), fun _ => ⟨rfl, router_cell w 7, _, router_cell w 8⟩, fun x hx => absurd hx (by simp), by simp⟩, router_cell w 4, router_cell w 5, router_cell w 12, Nat.le_refl _, by omega, ⟨0, 0, ?_⟩, ⟨#[], 0, ?_, rfl⟩⟩
  · unfold routerW
    rw [Below.heap_alloc _ _ _ (by simp; omega), Below.heap_alloc _ _ _ (by simp), heap_alloc_new]; rfl
  · unfold routerW
    rw [Below.heap_alloc _ _ _ (by simp)]
    have := heap_alloc_new (w.alloc (.chan 1 #[] false 0 0 false)) (.map #[] 0)
    simpa using this

set_option maxRecDepth 100000 in
theorem newRouter_any (w : World) :
    Calls Try.prog 7 #[] w fun e w' => e = .returned (.pointer (some ⟨w.heap.size + 2, 0, none⟩)) ∧ Below w.heap.size w w' ∧ w'.heap.size = w.heap.size + 3 ∧ RT w' w.heap.size (w.heap.size + 2) w.heap.size (w.heap.size + 1) 0 false [] 0 [] := by
  have hmc := mk48
  have hmm := @run_makeMap Try.prog
  go_enter Try.func7, Try.ntmps7
  go_wp2_with fail
  go_ret
  refine ⟨rfl, ?_⟩
  show Below _ _ (routerW w) ∧ (routerW w).heap.size = _ ∧ RT (routerW w) _ _ _ _ _ _ _ _ _
  refine ⟨?_, by simp [routerW], router_RT w⟩
  unfold routerW
  exact ((((Below.refl _ _).alloc (Nat.le_refl _) _).alloc (by simp) _).alloc (by simp; omega) _)

def waitCells (key owner : ByteArray) (c : Int) : Array Value :=
  #[.string key, .string owner, .int .i64 c, .map none, .map none, .int .u64 0, .int .i64 0, .pointer none, .int .u64 0, .int .i64 0, .pointer none, .string ⟨#[]⟩]
set_option maxRecDepth 100000 in
theorem newWaiting_any (key owner : ByteArray) (c : Int) (w : World) :
    Calls Try.prog 6 #[.string key, .string owner, .int .i64 c] w fun e w' => e = .returned (.pointer (some ⟨w.heap.size, 0, none⟩)) ∧ w' = w.alloc (.cells (waitCells key owner c) 47) := by
  go_enter Try.func6, Try.ntmps6
  go_wp2_with fail
  go_ret
  exact ⟨rfl, rfl⟩

theorem woken_any {w : World} {B0 rb cb mb : Nat} {lk : Int} {ini : Bool} {q : List (Nat × Nat)} {kvs : List (ByteArray × Value)} (h : RT w B0 rb cb mb lk ini q 1 kvs) :
    Calls Try.prog 13 #[.pointer (some ⟨rb, 0, none⟩)] w fun e w' => e = .returned (.int .i64 1) ∧ w = w' := by
  have h4 := h.c4
  obtain ⟨s, r, hch⟩ := h.ch
  have hl := fun ty => run_len_chan (P := Try.prog) 48 ty Try.underlying48 hch
  clear h hch
  go_enter Try.func13, Try.ntmps13
  go_wp2_with fail
  go_ret
  exact ⟨rfl, rfl⟩

set_option maxRecDepth 100000 in
theorem waitingLen_any {w : World} {B0 rb cb mb : Nat} {lk : Int} {ini : Bool} {q : List (Nat × Nat)} {wk : Nat} {kvs : List (ByteArray × Value)} (h : RT w B0 rb cb mb lk ini q wk kvs) :
    Calls Try.prog 12 #[.pointer (some ⟨rb, 0, none⟩)] w fun e w' => e = .returned (.int .i64 (kvs.length : Nat)) ∧ w = w' := by
  have h12 := h.c12
  obtain ⟨es, clock, hb, he⟩ := h.mi
  have hz : es.size = kvs.length := by
    have := congrArg List.length he
    simpa using this
  rw [← hz]
  have hl := fun ty => run_len_map (P := Try.prog) (w := w) 49 ty mb es clock (by kernel_rfl) hb
  clear h he hz
  go_enter Try.func12, Try.ntmps12
  go_wp2_with fail
  go_ret
  exact ⟨rfl, rfl⟩

theorem ta28 (va : Addr) (w : World) : (Instr.typeAssert (.iface 28 (.pointer (some va))) 20 28 false).run Try.prog w = .ok (.pointer (some va)) w := by kernel_rfl
set_option maxRecDepth 100000 in
theorem waitingOf_some {w : World} {B0 rb cb mb : Nat} {lk : Int} {ini : Bool} {q : List (Nat × Nat)} {wk : Nat} {kvs : List (ByteArray × Value)} (h : RT w B0 rb cb mb lk ini q wk kvs) (kk : ByteArray) (eb : Nat) (va : Addr)
    (hq : mlook kvs kk = some (.pointer (some ⟨eb, 0, none⟩))) (hv : w.cell? ⟨eb, 3, none⟩ = some (.iface 28 (.pointer (some va)))) :
    Calls Try.prog 11 #[.pointer (some ⟨rb, 0, none⟩), .string kk] w fun e w' => e = .returned (.pointer (some va)) ∧ w = w' := by
  have h12 := h.c12
  have hl := run_lookup_str h.mi kk
  rw [hq] at hl
  simp only [Option.getD_some, Option.isSome_some] at hl
  have hta := ta28
  clear h hq
  go_enter Try.func11, Try.ntmps11
  go_wp2_with fail
  go_ret
  exact ⟨rfl, rfl⟩
end Go.Proofs.Qxb6626077a
