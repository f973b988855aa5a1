/- Plain functions on lists of bytes: what zzItoa computes. -/
import Derived.Test.Qxb6630619aPlain
namespace Go.Proofs.Qxb6630619a

/-- What zzItoa's loop lays, from the last digit to the first: 'k' is the room that is left. -/
def dl : Nat → Nat → List UInt8 → List UInt8
  | 0, _, acc => acc
  | k + 1, n, acc => if n / 10 = 0 then UInt8.ofNat (48 + n % 10) :: acc else dl k (n / 10) (UInt8.ofNat (48 + n % 10) :: acc)

def itoa (v : Int) : List UInt8 := if v < 0 then 45 :: dl 20 v.natAbs [] else dl 20 v.natAbs []

def fld (v : Int) (pad : Bool) : List UInt8 := if pad = true ∧ 0 ≤ v ∧ v ≤ 9 then 48 :: itoa v else itoa v

theorem digit_nat (n : Nat) : (UInt8.ofNat (48 + n % 10)).toNat = 48 + n % 10 := by
  rw [UInt8.toNat_ofNat']; omega

theorem dl_length (k : Nat) : ∀ n acc, (dl k n acc).length ≤ k + acc.length := by
  induction k with
  | zero => intro n acc; simp [dl]
  | succ k ih =>
    intro n acc
    rw [dl]; split
    · simp; omega
    · have := ih (n / 10) (UInt8.ofNat (48 + n % 10) :: acc); rw [List.length_cons] at this; omega

theorem itoa_length (v : Int) : (itoa v).length ≤ 21 := by
  unfold itoa
  have := dl_length 20 v.natAbs []
  split <;> simp at * <;> omega

theorem fld_length (v : Int) (pad : Bool) : (fld v pad).length ≤ 22 := by
  unfold fld
  have := itoa_length v
  split <;> simp <;> omega

theorem push_all (l : List UInt8) : ∀ r : ByteArray, (l.map (fun c => (c.toNat : Int))).foldl (fun r n => r.push (UInt8.ofNat n.toNat)) r = ⟨r.data ++ l.toArray⟩ := by
  induction l with
  | nil => intro r; simp
  | cons c l ih =>
    intro r
    rw [List.map_cons, List.foldl_cons, ih]
    simp [ByteArray.push]
end Go.Proofs.Qxb6630619a
