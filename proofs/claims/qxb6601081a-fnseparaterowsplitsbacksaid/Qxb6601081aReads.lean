/-
  SEAT b6601081a: the functions that only read a slice of strings: the byte bound, the cell count.
-/
import Derived.Test.Qxb6601081aProg
import Derived.Test.Qxb6601081aParts
namespace Go.Proofs.Qxb6601081a
open Go.RowKit

/-- The slice at address a holds the strings ss. -/
def Strs (w : World) (a : Option Addr) (ss : List ByteArray) : Prop :=
  ∀ i, i < ss.length → ∃ b off, a = some ⟨b, off, none⟩ ∧ w.cell? ⟨b, off + i, none⟩ = some (.string (ss.getD i ByteArray.empty))

theorem Strs.below {w w' : World} {a : Option Addr} {ss : List ByteArray} (h : Strs w a ss) (hb : Below w.heap.size w w') : Strs w' a ss := by
  intro i hi
  obtain ⟨b, off, e, hc⟩ := h i hi
  exact ⟨b, off, e, (hb.cell (p := ⟨b, off + i, none⟩) (World.block_lt_of_cell? w _ hc)).trans hc⟩

/-- How many bytes the strings hold together. -/
def tot (ss : List ByteArray) : Nat := (ss.map ByteArray.size).sum
theorem tot_snoc (ss : List ByteArray) (k : Nat) (h : k < ss.length) : tot (ss.take (k + 1)) = tot (ss.take k) + (ss.getD k ByteArray.empty).size := by
  have e : ss.take (k + 1) = ss.take k ++ [ss[k]] := List.take_succ_eq_append_getElem h
  unfold tot
  rw [e, List.map_append, List.sum_append]
  simp [List.getD, List.getElem?_eq_getElem h]
theorem tot_all (ss : List ByteArray) : tot (ss.take ss.length) = tot ss := by rw [List.take_length]

/-- What the byte bound answers: a bool; where it says yes the lengths add up to no more than 1 << 20. -/
def Bounded (N : Nat) (w : World) (e : Ending) (w' : World) : Prop := ∃ r : Bool, e = .returned (.bool r) ∧ w' = w ∧ (r = true → N ≤ 1048576)
theorem Bounded.no (N : Nat) (w : World) : Bounded N w (.returned (.bool false)) w := ⟨false, rfl, rfl, fun h => by cases h⟩
theorem Bounded.yes {N : Nat} (w : World) (h : N ≤ 1048576) : Bounded N w (.returned (.bool true)) w := ⟨true, rfl, rfl, fun _ => h⟩

set_option maxHeartbeats 400000 in
theorem bytes1_any (a : Option Addr) (cap : Nat) (ss : List ByteArray) (w : World) (hs : Strs w a ss) :
    Calls Try.prog 11 #[.slice a ss.length cap] w (Bounded (ss.length + tot ss) w) := by
  by_cases hl : ss.length ≤ 1048576
  · go_enter Try.func11, Try.ntmps11
    go_wp2
    go_loop [3, 4] (fun z i => ∃ k : Nat, k ≤ ss.length ∧ i = .int .i64 k ∧ z = .int .i64 ((ss.length + tot (ss.take k) : Nat) : Int) ∧ ss.length + tot (ss.take k) ≤ 1048576) (fun _ i => ss.length - (intOf i).toNat)
    case atStart => exact ⟨0, Nat.zero_le _, rfl, by simp [tot], by simp [tot]; omega⟩
    case round =>
      obtain ⟨k, hk, rfl, rfl, hz⟩ := hrel
      by_cases hlt : k < ss.length
      · obtain ⟨b, off, rfl, hc⟩ := hs k hlt
        have ht := tot_snoc ss k hlt
        obtain ⟨s, hse⟩ : ∃ s, s = ss.getD k ByteArray.empty := ⟨_, rfl⟩
        rw [← hse] at hc ht
        have HT : Hid (tot (ss.take (k + 1)) = tot (ss.take k) + s.size) := ht
        clear ht hse hs
        obtain ⟨T, hT⟩ : ∃ T, T = tot (ss.take k) := ⟨_, rfl⟩
        rw [← hT] at hz HT ⊢
        clear hT
        go_wp2
        · go_ret
          exact Bounded.no _ _
        · go_ret
          exact Bounded.no _ _
        · go_round
          case rel => exact ⟨k + 1, by omega, by go_num, by rw [HT.out]; go_num, by rw [HT.out]; omega⟩
          case measure => simp [intOf]; omega
      · go_wp2
        go_ret
        have hks : k = ss.length := by omega
        subst hks
        exact Bounded.yes _ (by rw [tot_all] at hz; exact hz)
  · go_enter Try.func11, Try.ntmps11
    go_wp2
    go_ret
    exact Bounded.no _ _

set_option maxHeartbeats 800000 in
theorem bytes2_any (a a' : Option Addr) (cap cap' : Nat) (ss tt : List ByteArray) (w : World) (hs : Strs w a ss) (ht : Strs w a' tt) :
    Calls Try.prog 5 #[.slice a ss.length cap, .slice a' tt.length cap'] w (Bounded (ss.length + tot ss + (tt.length + tot tt)) w) := by
  by_cases hl : ss.length ≤ 1048576
  · go_enter Try.func5, Try.ntmps5
    go_wp2
    go_loop [5, 6] (fun z i => ∃ k : Nat, k ≤ ss.length ∧ i = .int .i64 k ∧ z = .int .i64 ((ss.length + tot (ss.take k) : Nat) : Int) ∧ ss.length + tot (ss.take k) ≤ 1048576) (fun _ i => ss.length - (intOf i).toNat)
    case atStart => exact ⟨0, Nat.zero_le _, rfl, by simp [tot], by simp [tot]; omega⟩
    case round =>
      obtain ⟨k, hk, rfl, rfl, hz⟩ := hrel
      by_cases hlt : k < ss.length
      · obtain ⟨b, off, rfl, hc⟩ := hs k hlt
        have ht := tot_snoc ss k hlt
        obtain ⟨s, hse⟩ : ∃ s, s = ss.getD k ByteArray.empty := ⟨_, rfl⟩
        rw [← hse] at hc ht
        have HT : Hid (tot (ss.take (k + 1)) = tot (ss.take k) + s.size) := ht
        clear ht hse hs
        obtain ⟨T, hT⟩ : ∃ T, T = tot (ss.take k) := ⟨_, rfl⟩
        rw [← hT] at hz HT ⊢
        clear hT
        go_wp2
        · go_ret
          exact Bounded.no _ _
        · go_ret
          exact Bounded.no _ _
        · go_round
          case rel => exact ⟨k + 1, by omega, by go_num, by rw [HT.out]; go_num, by rw [HT.out]; omega⟩
          case measure => simp [intOf]; omega
      · have hks : k = ss.length := by omega
        subst hks
        rw [tot_all] at hz ⊢
        obtain ⟨S, hS⟩ : ∃ S, S = ss.length + tot ss := ⟨_, rfl⟩
        rw [← hS] at hz ⊢
        have HS : Hid (S = ss.length + tot ss) := hS
        clear hS hs
        by_cases hl2 : S + tt.length ≤ 1048576
        · go_wp2
          go_loop [5, 7] (fun z i => ∃ k : Nat, k ≤ tt.length ∧ i = .int .i64 k ∧ z = .int .i64 ((S + (tt.length + tot (tt.take k)) : Nat) : Int) ∧ S + (tt.length + tot (tt.take k)) ≤ 1048576) (fun _ i => tt.length - (intOf i).toNat)
          case atStart => exact ⟨0, Nat.zero_le _, rfl, by simp [tot], by simp [tot]; omega⟩
          case round =>
            obtain ⟨k, hk, rfl, rfl, hz⟩ := hrel
            by_cases hlt : k < tt.length
            · obtain ⟨b, off, rfl, hc⟩ := ht k hlt
              have ht := tot_snoc tt k hlt
              obtain ⟨s, hse⟩ : ∃ s, s = tt.getD k ByteArray.empty := ⟨_, rfl⟩
              rw [← hse] at hc ht
              have HT : Hid (tot (tt.take (k + 1)) = tot (tt.take k) + s.size) := ht
              clear ht hse
              obtain ⟨T, hT⟩ : ∃ T, T = tot (tt.take k) := ⟨_, rfl⟩
              rw [← hT] at hz HT ⊢
              clear hT
              go_wp2
              · go_ret
                exact Bounded.no _ _
              · go_ret
                exact Bounded.no _ _
              · go_round
                case rel => exact ⟨k + 1, by omega, by go_num, by rw [HT.out]; go_num, by rw [HT.out]; omega⟩
                case measure => simp [intOf]; omega
            · go_wp2
              go_ret
              have hks : k = tt.length := by omega
              subst hks
              exact Bounded.yes _ (by rw [tot_all] at hz; rw [← HS.out]; exact hz)
        · by_cases hl3 : tt.length ≤ 1048576
          · go_wp2
            go_ret
            exact Bounded.no _ _
          · go_wp2
            go_ret
            exact Bounded.no _ _
  · go_enter Try.func5, Try.ntmps5
    go_wp2
    go_ret
    exact Bounded.no _ _

/-- What the cell count answers: an int. -/
def SomeInt (w : World) (e : Ending) (w' : World) : Prop := ∃ z : Int, e = .returned (.int .i64 z) ∧ w' = w

set_option maxHeartbeats 400000 in
theorem cells_any (a : Option Addr) (cap : Nat) (ss : List ByteArray) (w : World) (hs : Strs w a ss) (hl : ss.length ≤ 65536) :
    Calls Try.prog 6 #[.slice a ss.length cap] w (SomeInt w) := by
  go_enter Try.func6, Try.ntmps6
  go_wp2
  go_loop [3, 4] (fun z i => ∃ k : Nat, ∃ Z : Int, k ≤ ss.length ∧ i = .int .i64 k ∧ z = .int .i64 Z) (fun _ i => ss.length - (intOf i).toNat)
  case atStart => exact ⟨0, _, Nat.zero_le _, rfl, rfl⟩
  case round =>
    obtain ⟨k, Z, hk, rfl, rfl⟩ := hrel
    by_cases hlt : k < ss.length
    · obtain ⟨b, off, rfl, hc⟩ := hs k hlt
      obtain ⟨s, hse⟩ : ∃ s, s = ss.getD k ByteArray.empty := ⟨_, rfl⟩
      rw [← hse] at hc
      clear hse hs
      go_wp2
      · go_ret
        exact ⟨_, rfl, rfl⟩
      · go_round
        case rel => exact ⟨k + 1, _, by omega, by go_num, rfl⟩
        case measure => simp [intOf]; omega
    · go_wp2
      go_ret
      exact ⟨_, rfl, rfl⟩
end Go.Proofs.Qxb6601081a
