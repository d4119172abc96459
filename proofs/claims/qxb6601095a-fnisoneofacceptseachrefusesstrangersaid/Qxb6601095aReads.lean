/-
  SEAT b6601095a: the functions that only read a slice of strings: the byte bound, the cell count, membership.
-/
import Derived.Test.Qxb6601095aProg
import Derived.WalkKit
import Derived.WalkLawsBesides
import Derived.WalkSpells
namespace Go.Proofs.Qxb6601095a
open Go.RowKit

/-- The slice at address a holds the strings ss. -/
def Strs (w : World) (a : Option Addr) (ss : List ByteArray) : Prop :=
  ∀ i, i < ss.length → ∃ b off, a = some ⟨b, off, none⟩ ∧ w.cell? ⟨b, off + i, none⟩ = some (.string (ss.getD i ByteArray.empty))

theorem Strs.below {w w' : World} {a : Option Addr} {ss : List ByteArray} (h : Strs w a ss) (hb : Below w.heap.size w w') : Strs w' a ss := by
  intro i hi
  obtain ⟨b, off, e, hc⟩ := h i hi
  exact ⟨b, off, e, (hb.cell (p := ⟨b, off + i, none⟩) (World.block_lt_of_cell? w _ hc)).trans hc⟩

/-- What the byte bound answers: a bool. -/
def SomeBool (w : World) (e : Ending) (w' : World) : Prop := ∃ r : Bool, e = .returned (.bool r) ∧ w' = w
theorem SomeBool.mk (r : Bool) (w : World) : SomeBool w (.returned (.bool r)) w := ⟨r, rfl, rfl⟩

set_option maxHeartbeats 800000 in
theorem bytes_any (a : Option Addr) (cap : Nat) (ss : List ByteArray) (s : ByteArray) (w : World) (hs : Strs w a ss) :
    Calls Try.prog 9 #[.slice a ss.length cap, .string s] w (SomeBool w) := by
  by_cases hl : ss.length ≤ 1048576
  · go_enter Try.func9, Try.ntmps9
    go_wp2
    go_loop [5, 6] (fun z i => ∃ k : Nat, ∃ Z : Int, k ≤ ss.length ∧ i = .int .i64 k ∧ z = .int .i64 Z) (fun _ i => ss.length - (intOf i).toNat)
    case atStart => exact ⟨0, _, Nat.zero_le _, rfl, rfl⟩
    case round =>
      obtain ⟨k, Z, hk, rfl, rfl⟩ := hrel
      by_cases hlt : k < ss.length
      · obtain ⟨b, off, rfl, hc⟩ := hs k hlt
        obtain ⟨t, hse⟩ : ∃ t, t = ss.getD k ByteArray.empty := ⟨_, rfl⟩
        rw [← hse] at hc
        clear hse hs
        go_wp2
        · go_ret
          exact SomeBool.mk _ _
        · go_ret
          exact SomeBool.mk _ _
        · go_round
          case rel => exact ⟨k + 1, _, by omega, by go_num, rfl⟩
          case measure => simp [intOf]; omega
      · go_wp2
        all_goals
          go_ret
          exact SomeBool.mk _ _
  · go_enter Try.func9, Try.ntmps9
    go_wp2
    go_ret
    exact SomeBool.mk _ _

/-- What the cell count answers: an int. -/
def SomeInt (w : World) (e : Ending) (w' : World) : Prop := ∃ z : Int, e = .returned (.int .i64 z) ∧ w' = w

set_option maxHeartbeats 400000 in
theorem names_any (a : Option Addr) (cap : Nat) (ss : List ByteArray) (w : World) (hs : Strs w a ss) (hl : ss.length ≤ 4096) :
    Calls Try.prog 6 #[.slice a ss.length cap] w (SomeInt w) := by
  go_enter Try.func6, Try.ntmps6
  go_wp2
  go_loop [3, 4] (fun z i => ∃ k : Nat, ∃ Z : Int, k ≤ ss.length ∧ i = .int .i64 k ∧ z = .int .i64 Z) (fun _ i => ss.length - (intOf i).toNat)
  case atStart => exact ⟨0, _, Nat.zero_le _, rfl, rfl⟩
  case round =>
    obtain ⟨k, Z, hk, rfl, rfl⟩ := hrel
    by_cases hlt : k < ss.length
    · obtain ⟨b, off, rfl, hc⟩ := hs k hlt
      obtain ⟨s, hse⟩ : ∃ s, s = ss.getD k ByteArray.empty := ⟨_, rfl⟩
      rw [← hse] at hc
      clear hse hs
      go_wp2
      · go_ret
        exact ⟨_, rfl, rfl⟩
      · go_ret
        exact ⟨_, rfl, rfl⟩
      · go_round
        case rel => exact ⟨k + 1, _, by omega, by go_num, rfl⟩
        case measure => simp [intOf]; omega
    · go_wp2
      go_ret
      exact ⟨_, rfl, rfl⟩

/-- What membership answers: yes only where an element's bytes are those of s; no only where none is s. -/
def Member (s : ByteArray) (ss : List ByteArray) (w : World) (e : Ending) (w' : World) : Prop :=
  ∃ r : Bool, e = .returned (.bool r) ∧ w' = w ∧ (r = true → ∃ i, i < ss.length ∧ (ss.getD i ByteArray.empty).toList = s.toList) ∧ (r = false → ∀ i, i < ss.length → (ss.getD i ByteArray.empty).toList ≠ s.toList)

set_option maxHeartbeats 400000 in
theorem isOneOf_any (s : ByteArray) (a : Option Addr) (cap : Nat) (ss : List ByteArray) (w : World) (hs : Strs w a ss) (hl : ss.length ≤ 4096) :
    Calls Try.prog 10 #[.string s, .slice a ss.length cap] w (Member s ss w) := by
  go_enter Try.func10, Try.ntmps10
  go_wp2
  go_loop [9] (fun i => ∃ k : Nat, k ≤ ss.length ∧ i = .int .i64 k ∧ Hid (∀ j, j < k → (ss.getD j ByteArray.empty).toList ≠ s.toList)) (fun i => ss.length - (intOf i).toNat)
  case atStart => exact ⟨0, Nat.zero_le _, rfl, fun j h => by omega⟩
  case round =>
    obtain ⟨k, hk, rfl, hno⟩ := hrel
    by_cases hlt : k < ss.length
    · obtain ⟨b, off, rfl, hc⟩ := hs k hlt
      obtain ⟨t, hse⟩ : ∃ t, t = ss.getD k ByteArray.empty := ⟨_, rfl⟩
      rw [← hse] at hc
      have HE : Hid _ := hse
      clear hse hs
      go_wp2
      · go_ret
        have h1 : (s.toList == t.toList) = true := by assumption
        exact ⟨true, rfl, rfl, fun _ => ⟨k, hlt, by rw [← HE.out]; simpa using (eq_of_beq h1).symm⟩, fun h => by cases h⟩
      · have h1 : (s.toList == t.toList) = false := by assumption
        go_round
        case rel =>
          refine ⟨k + 1, by omega, by go_num, fun j hj => ?_⟩
          by_cases hjk : j = k
          · subst hjk
            rw [← HE.out]
            intro h
            rw [h] at h1
            simp at h1
          · exact hno.out j (by omega)
        case measure => simp [intOf]; omega
    · go_wp2
      go_ret
      exact ⟨false, rfl, rfl, (fun h => by cases h), fun _ i hi => hno.out i (by omega)⟩

theorem zIsOneOf_any (s : ByteArray) (a : Option Addr) (cap : Nat) (ss : List ByteArray) (w : World) (hs : Strs w a ss) (hl : ss.length ≤ 4096) :
    Calls Try.prog 8 #[.string s, .slice a ss.length cap] w (Member s ss w) := by
  go_enter Try.func8, Try.ntmps8
  go_wp2_with fail
  refine (isOneOf_any s a cap ss w hs hl).mono ?_
  rintro e w1 ⟨r, rfl, hw, h1, h2⟩
  have hw2 := hw.symm
  clear hw
  subst hw2
  have H1 : Hid _ := h1
  have H2 : Hid _ := h2
  clear h1 h2
  go_wp2
  go_ret
  exact ⟨r, rfl, rfl, H1.out, H2.out⟩
end Go.Proofs.Qxb6601095a
