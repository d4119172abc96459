/-
  SEAT b6601081a: the row that the laws build, cell by cell, is the join.
-/
import Derived.Test.Qxb6601081aJoin
import Derived.Test.Qxb6601081aSep
import Derived.Test.Qxb6601081aCopy
namespace Go.Proofs.Qxb6601081a
open Go.RowKit

theorem joinL_zero (ss : List ByteArray) : joinL (ss.take 0) = [] := rfl
theorem joinL_snoc (ss : List ByteArray) (k : Nat) (h : k < ss.length) : joinL (ss.take (k + 1)) = sepL (joinL (ss.take k)) k ++ (ss.getD k ByteArray.empty).data.toList := by
  have e : joinL (ss.take (k + 1)) = sufL (ss.take k) ++ (ss.getD k ByteArray.empty).data.toList := by
    unfold joinL
    rw [sufL_snoc ss k h, List.dropLast_concat]
  rw [e]
  cases k with
  | zero => rfl
  | succ j =>
    have e2 : sufL (ss.take (j + 1)) = joinL (ss.take (j + 1)) ++ [44] := by
      unfold joinL
      rw [sufL_snoc ss j (by omega), List.dropLast_concat]
    rw [e2]
    rfl
theorem sepL_length (l : List UInt8) (c : Nat) : (sepL l c).length ≤ l.length + 1 := by
  unfold sepL
  split <;> simp
theorem joinL_length (ss : List ByteArray) (k : Nat) : (joinL (ss.take k)).length ≤ k + tot ss := by
  have h1 : (joinL (ss.take k)).length ≤ (sufL (ss.take k)).length := by simp [joinL]
  have h2 := sufL_length (ss.take k)
  have h3 := tot_take_le ss k
  have h4 : (ss.take k).length ≤ k := List.length_take_le _ _
  omega
/-- One cell more: the row's facts behind a round. -/
theorem row_step {B : Nat} {w : World} {v : Value} {k : Nat} {s : ByteArray} {L M : List UInt8} (hM : M = sepL L k ++ s.data.toList) (hown : w.ownsRow B 5 1 v ((sepL L k).length + s.size) (Bc (sepL L k ++ s.data.toList))) :
    w.ownsRow B 5 1 v M.length (Bc M) := by
  subst hM
  rw [List.length_append]
  exact hown
/-- What is owned stays owned where nothing old has turned. -/
theorem own_below {B n : Nat} {e : TypeId} {w w' : World} {v : Value} {xs : List Value} (h : w.ownsRow B e 1 v n xs) (hb : Below w.heap.size w w') : w'.ownsRow B e 1 v n xs := by
  refine ⟨h.1, ?_⟩
  rcases h.2 with h0 | ⟨g, cap, cur, hv, h1, hh, h2⟩
  · exact Or.inl h0
  · exact Or.inr ⟨g, cap, cur, hv, h1, (hb.block g (lt_of_block hh)).trans hh, h2⟩
end Go.Proofs.Qxb6601081a
