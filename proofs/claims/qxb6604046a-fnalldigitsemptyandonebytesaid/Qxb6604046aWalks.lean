/-
  SEAT b6604046a: the walks: the digit table; the test of a whole text.
-/
import Derived.Test.Qxb6604046aProg
import Derived.WalkKit
import Derived.WalkLawsBesides
import Derived.WalkSpells
import Derived.Laws.IdiomStrings
namespace Go.Proofs.Qxb6604046a
open Go.RowKit

/-- Is the number one of the ten digits' bytes? -/
def dig (n : Int) : Bool := decide (48 ≤ n ∧ n ≤ 57)

/-- A bool, the world as it was. -/
def IsBool (b : Bool) (w : World) (e : Ending) (w' : World) : Prop := e = .returned (.bool b) ∧ w' = w

set_option maxHeartbeats 800000 in
theorem table_any (n : Int) (w : World) : Calls Try.prog 5 #[.int .u8 n] w (IsBool (dig n) w) := by
  by_cases h : 48 ≤ n ∧ n ≤ 57
  · have hd : dig n = true := decide_eq_true h
    rw [hd]
    obtain ⟨h1, h2⟩ := h
    clear hd
    go_enter Try.func5, Try.ntmps5
    go_wp2
    all_goals
      go_ret
      exact ⟨rfl, rfl⟩
  · have hd : dig n = false := decide_eq_false h
    rw [hd]
    clear hd
    rcases (show n < 48 ∨ 57 < n from by omega) with h1 | h1
    · clear h
      go_enter Try.func5, Try.ntmps5
      go_wp2
      go_ret
      exact ⟨rfl, rfl⟩
    · clear h
      go_enter Try.func5, Try.ntmps5
      go_wp2
      go_ret
      exact ⟨rfl, rfl⟩

/-- What the test of a whole text answers. -/
def AllDig (s : ByteArray) (w : World) (e : Ending) (w' : World) : Prop :=
  ∃ r : Bool, e = .returned (.bool r) ∧ w' = w ∧ (r = true → 0 < s.size ∧ ∀ j (h : j < s.size), 48 ≤ s[j].toNat ∧ s[j].toNat ≤ 57) ∧ (r = false → s.size = 0 ∨ ∃ j, ∃ h : j < s.size, s[j].toNat < 48 ∨ 57 < s[j].toNat)

theorem empty_of_size {s : ByteArray} (h : s.size = 0) : s = ⟨#[]⟩ := by
  cases s with
  | mk d => cases d with | mk l => cases l with
    | nil => rfl
    | cons x r => simp [ByteArray.size] at h
theorem isEmpty_no {s : ByteArray} (h : 0 < s.size) : s.toList.isEmpty = false := by
  rw [ByteArray.toList_eq]
  cases hl : s.data.toList with
  | nil =>
    have : s.data.toList.length = s.size := by simp
    rw [hl] at this
    simp at this
    omega
  | cons _ _ => rfl

set_option maxHeartbeats 800000 in
theorem allDigits_any (s : ByteArray) (w : World) (hl : s.size ≤ maxLen) : Calls Try.prog 6 #[.string s] w (AllDig s w) := by
  unfold maxLen at hl
  by_cases hz : s.size = 0
  · have he := empty_of_size hz
    subst he
    clear hl hz
    go_enter Try.func6, Try.ntmps6
    go_wp2
    go_ret
    exact ⟨false, rfl, rfl, (fun h => by cases h), fun _ => Or.inl rfl⟩
  · have hne := isEmpty_no (Nat.pos_of_ne_zero hz)
    go_enter Try.func6, Try.ntmps6
    go_wp2
    go_loop [3] (fun i => ∃ k : Nat, k ≤ s.size ∧ i = .int .i64 k ∧ Hid (∀ j (h : j < s.size), j < k → 48 ≤ s[j].toNat ∧ s[j].toNat ≤ 57)) (fun i => s.size - (intOf i).toNat)
    case atStart => exact ⟨0, Nat.zero_le _, rfl, fun j h h0 => by omega⟩
    case round =>
      obtain ⟨k, hk, rfl, hno⟩ := hrel
      by_cases hlt : k < s.size
      · by_cases h1 : (s[k].toNat : Int) < 48
        · go_wp2
          go_ret
          exact ⟨false, rfl, rfl, (fun h => by cases h), fun _ => Or.inr ⟨k, hlt, Or.inl (by omega)⟩⟩
        · by_cases h2 : (57 : Int) < (s[k].toNat : Int)
          · go_wp2
            go_ret
            exact ⟨false, rfl, rfl, (fun h => by cases h), fun _ => Or.inr ⟨k, hlt, Or.inr (by omega)⟩⟩
          · go_wp2
            go_round
            case rel =>
              refine ⟨k + 1, by omega, by go_num, fun j h hj => ?_⟩
              by_cases hjk : j = k
              · subst hjk
                omega
              · exact hno.out j h (by omega)
            case measure => simp [intOf]; omega
      · go_wp2
        go_ret
        exact ⟨true, rfl, rfl, (fun _ => ⟨by omega, fun j h => hno.out j h (by omega)⟩), fun h => by cases h⟩

theorem zAllDigits_any (s : ByteArray) (w : World) (hl : s.size ≤ maxLen) : Calls Try.prog 4 #[.string s] w (AllDig s w) := by
  go_enter Try.func4, Try.ntmps4
  go_wp2_with fail
  refine (allDigits_any s w hl).mono ?_
  rintro e w1 ⟨r, rfl, hw, h1, h2⟩
  have hw2 := hw.symm
  clear hw
  subst hw2
  have H1 : Hid _ := h1
  have H2 : Hid _ := h2
  clear h1 h2
  go_wp2
  go_ret
  exact ⟨r, rfl, rfl, H1.out, H2.out⟩
end Go.Proofs.Qxb6604046a
