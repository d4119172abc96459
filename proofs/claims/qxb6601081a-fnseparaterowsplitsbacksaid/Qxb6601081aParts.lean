/-
  SEAT b6601081a: bytes as cells, worlds: small facts that the walks share.
-/
import Derived.WalkKit
import Derived.WalkLawsBesides
import Derived.WalkSpells
namespace Go.Proofs.Qxb6601081a
open Go.RowKit

/-- Bytes as the cells of a row. -/
def Bc (l : List UInt8) : List Value := l.map fun c => Value.int .u8 (c.toNat : Int)
theorem Bc_length (l : List UInt8) : (Bc l).length = l.length := by simp [Bc]
theorem Bc_append (l m : List UInt8) : Bc (l ++ m) = Bc l ++ Bc m := by simp [Bc]
theorem Bc_nil : Bc [] = [] := rfl
theorem Bc_one (c : UInt8) : Bc [c] = [.int .u8 (c.toNat : Int)] := rfl

/-- What an append to an owned row leaves of the memory below. -/
theorem below_step {B : Nat} {e : TypeId} {w wr w1 : World} {v : Value} {n : Nat} {xs : List Value} (hB : B ≤ w.heap.size) (hown : wr.ownsRow B e 1 v n xs) (hnx : Below B w wr) (o : Obj)
    (hg : (wr.alloc o).grownBy w1 v.ownBlock) : Below B w w1 := by
  have h := hnx.size
  exact (hnx.alloc (by omega) o).grown hg (by simp; omega) (fun k hk => (hown.lt k hk).1)

theorem take_snoc (s : ByteArray) (k : Nat) (h : k < s.size) : s.data.toList.take (k + 1) = s.data.toList.take k ++ [s[k]] := by
  rw [List.take_succ_eq_append_getElem (by simpa using h)]; rfl

/-- One byte more. -/
theorem own_snoc {B : Nat} {w1 : World} {v' : Value} {l : List UInt8} {s : ByteArray} {k : Nat} (h : k < s.size)
    (hown : w1.ownsRow B 5 1 v' (l.length + k + 1) (Bc (l ++ s.data.toList.take k) ++ [.int .u8 (s[k].toNat : Int)])) :
    w1.ownsRow B 5 1 v' (l.length + (k + 1)) (Bc (l ++ s.data.toList.take (k + 1))) := by
  rw [take_snoc s k h, ← List.append_assoc, Bc_append _ [s[k]]]
  exact hown
end Go.Proofs.Qxb6601081a
