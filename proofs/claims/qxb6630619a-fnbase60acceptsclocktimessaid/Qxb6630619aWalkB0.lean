import Derived.Test.Qxb6630619aWalkA
import Derived.Test.Qxb6630619aPlainB
namespace Go.Proofs.Qxb6630619a
open Go.RowKit

theorem arr28 : Try.prog.arrayLen 28 = 20 := by kernel_rfl
theorem und28 : Try.prog.underlying 28 = some (.array (Try.prog.arrayLen 28) (Try.prog.elem 28)) := by kernel_rfl
theorem size28 (W : World) : (sizeOf (Try.prog.elem 28)).run Try.prog W = .ok 1 W := by kernel_rfl
theorem slice_buf (b k : Nat) (hk : k ≤ 19) (W : World) :
    Sem.run Try.prog (Instr.sliceAt 28 (.pointer (some ⟨b, 0, none⟩)) (some (.int .i64 k)) none none) W = .ok (.slice (some ⟨b, k, none⟩) (20 - k) (20 - k)) W := by
  rw [run_sliceAt_array_l W 28 _ und28 .i64 k (by omega) (by rw [arr28]; omega), size28, arr28]
  simp only [Result.andThen, slicedAt, Int.toNat_natCast, Nat.mul_one]
  rw [if_neg (by omega)]
  simp [Addr.add]
  omega

theorem conv_buf (b k : Nat) (acc : List UInt8) (W : World) (hl : acc.length = 20 - k) (hc : ∀ j (h : j < acc.length), W.cell? ⟨b, k + j, none⟩ = some (.int .u8 (acc[j].toNat : Int))) :
    (convert 29 9 (.slice (some ⟨b, k, none⟩) (20 - k) (20 - k))).run Try.prog W = .ok (.string ⟨acc.toArray⟩) W := by
  rw [run_convert_bytes_string W 29 9 5 _ _ _ Try.underlying29 Try.underlying5 Try.underlying9]
  rw [run_bytesToString W _ _ _ (acc.map (fun c => (c.toNat : Int))), push_all]
  · simp
  · rw [List.map_map, ← hl]
    have := run_loadCells_list (P := Try.prog) (w := W) ⟨b, k, none⟩ (acc.map (Value.int .u8 ∘ fun c => (c.toNat : Int))) (by
      intro j v h
      rw [List.getElem?_map] at h
      cases hj : acc[j]? with
      | none => rw [hj] at h; simp at h
      | some x =>
        rw [hj] at h
        obtain ⟨hlt, rfl⟩ := List.getElem?_eq_some_iff.1 hj
        simp at h
        rw [← h]
        rw [Addr.add_lit]
        exact hc j hlt)
    simpa using this
theorem wrap_neg (v : Int) (h1 : -9223372036854775808 ≤ v) (h : v < 0) : IntKind.u64.wrap (-IntKind.u64.wrap v) = (v.natAbs : Int) := by
  simp [IntKind.wrap, IntKind.bits, IntKind.signed]
  omega
theorem wrap_pos (v : Int) (h1 : v ≤ 9223372036854775807) (h : ¬ v < 0) : IntKind.u64.wrap v = (v.natAbs : Int) := by
  simp [IntKind.wrap, IntKind.bits, IntKind.signed]
  omega
end Go.Proofs.Qxb6630619a
