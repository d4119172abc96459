/-
  SEAT b6601081a: where a row that is a join of cells without commas parts again: the plain law.
-/
import Derived.Test.Qxb6601081aBuild
import Derived.Test.Qxb6601081aEq
namespace Go.Proofs.Qxb6601081a
open Go.RowKit

/-- Where cell k begins. -/
def st (ss : List ByteArray) (k : Nat) : Nat := (sufL (ss.take k)).length
theorem st_zero (ss : List ByteArray) : st ss 0 = 0 := rfl
theorem st_succ (ss : List ByteArray) (k : Nat) (h : k < ss.length) : st ss (k + 1) = st ss k + (ss.getD k ByteArray.empty).size + 1 := by
  unfold st
  rw [sufL_snoc ss k h, List.length_append, List.length_append]
  simp
theorem sufL_split (ss : List ByteArray) (k : Nat) : sufL ss = sufL (ss.take k) ++ sufL (ss.drop k) := by
  unfold sufL
  rw [← List.flatMap_append, List.take_append_drop]
theorem st_le (ss : List ByteArray) (k : Nat) : st ss k ≤ (sufL ss).length := by
  rw [sufL_split ss k, List.length_append]
  unfold st
  omega
theorem st_all (ss : List ByteArray) : st ss ss.length = (sufL ss).length := by unfold st; rw [List.take_length]
theorem st_bound (ss : List ByteArray) : (sufL ss).length = ss.length + tot ss := sufL_length ss
theorem join_len (ss : List ByteArray) : (joinL ss).length = (sufL ss).length - 1 := by simp [joinL]
theorem bytes_get (s : ByteArray) (j : Nat) (h : j < s.size) : s.data.toList[j]? = some s[j] := by
  rw [List.getElem?_eq_getElem (by simpa using h)]
  rfl
/-- A byte of cell k, in the row. -/
theorem join_at_cell (ss : List ByteArray) (k j : Nat) (h : k < ss.length) (hj : j < (ss.getD k ByteArray.empty).size) : (joinL ss)[st ss k + j]? = some ((ss.getD k ByteArray.empty)[j]) := by
  have h1 := st_succ ss k h
  have h2 := st_le ss (k + 1)
  unfold joinL
  rw [List.getElem?_dropLast, if_pos (by omega), sufL_split ss (k + 1), List.getElem?_append_left (by show _ < st ss (k + 1); omega), sufL_snoc ss k h, List.append_assoc, List.getElem?_append_right (by show st ss k ≤ _; omega)]
  have e : st ss k + j - (sufL (ss.take k)).length = j := by show st ss k + j - st ss k = j; omega
  rw [e, List.getElem?_append_left (by simpa using hj)]
  exact bytes_get _ _ hj
/-- The comma behind cell k, in the row. -/
theorem join_at_comma (ss : List ByteArray) (k : Nat) (h : k + 1 < ss.length) : (joinL ss)[st ss k + (ss.getD k ByteArray.empty).size]? = some 44 := by
  have h1 := st_succ ss k (by omega)
  have h2 := st_le ss (k + 1 + 1)
  have h3 := st_succ ss (k + 1) h
  unfold joinL
  rw [List.getElem?_dropLast, if_pos (by omega), sufL_split ss (k + 1), List.getElem?_append_left (by show _ < st ss (k + 1); omega), sufL_snoc ss k (by omega), List.getElem?_append_right (by rw [List.length_append]; show st ss k + _ ≤ _; simp)]
  have e : st ss k + (ss.getD k ByteArray.empty).size - (sufL (ss.take k) ++ (ss.getD k ByteArray.empty).data.toList).length = 0 := by
    rw [List.length_append]
    show st ss k + _ - (st ss k + _) = 0
    simp
  rw [e]
  rfl
/-! ### The row in memory -/
theorem row_addr {W : World} {B n cp : Nat} {ao : Option Addr} {xs : List Value} (h : W.ownsRow B 5 1 (.slice ao n cp) n xs) : n ≤ cp ∧ (0 < n → ∃ g, ao = some ⟨g, 0, none⟩) := by
  rcases h.2 with ⟨h0, rfl⟩ | ⟨g, cap, cur, hv, _, _, hn, _⟩
  · cases h0
    exact ⟨Nat.le_refl _, fun h => by omega⟩
  · cases hv
    exact ⟨hn, fun _ => ⟨g, rfl⟩⟩
theorem row_cell {W : World} {B g cp : Nat} {l : List UInt8} (h : W.ownsRow B 5 1 (.slice (some ⟨g, 0, none⟩) l.length cp) l.length (Bc l)) {i : Nat} {c : UInt8} (hc : l[i]? = some c) : W.cell? ⟨g, i, none⟩ = some (.int .u8 (c.toNat : Int)) := by
  have hi : i < l.length := by
    rcases Nat.lt_or_ge i l.length with h | h
    · exact h
    · rw [List.getElem?_eq_none h] at hc; cases hc
  rw [h.cellAt i (by omega)]
  simp [Bc, hc]
/-- The cut of the row at cell k holds that cell's bytes. -/
theorem cut_cells {W : World} {B cp : Nat} {ao : Option Addr} {ss : List ByteArray} {k : Nat} (hk : k < ss.length) (h : W.ownsRow B 5 1 (.slice ao (joinL ss).length cp) (joinL ss).length (Bc (joinL ss))) :
    ∀ i (hi : i < (ss.getD k ByteArray.empty).size), ∃ b off, (if cp = st ss k then ao else ao.map (·.add (st ss k * 1))) = some ⟨b, off, none⟩ ∧ W.cell? ⟨b, off + i, none⟩ = some (.int .u8 (((ss.getD k ByteArray.empty)[i]).toNat : Int)) := by
  intro i hi
  have hc := join_at_cell ss k i hk hi
  have hlt : st ss k + i < (joinL ss).length := by
    rcases Nat.lt_or_ge (st ss k + i) (joinL ss).length with h | h
    · exact h
    · rw [List.getElem?_eq_none h] at hc; cases hc
  obtain ⟨h1, h2⟩ := row_addr h
  obtain ⟨g, rfl⟩ := h2 (by omega)
  refine ⟨g, st ss k, ?_, row_cell h hc⟩
  rw [if_neg (by omega), Option.map_some, Nat.mul_one]
  unfold Addr.add
  split <;> simp_all
end Go.Proofs.Qxb6601081a
