/-
  SEAT b6605194a: the walk of 'FnIndexC0OrMatchesFourScans'.
-/
import Derived.Test.Qxb6605194aIndex
namespace Go.Proofs.Qxb6605194a
open Go.RowKit

/-! ### The plain law: the first place at which a test says yes -/
/-- r is the first place at which q says yes; -1 where it never does. -/
def At (s : ByteArray) (q : UInt8 → Prop) (r : Int) : Prop := (r = -1 ∧ ∀ j (h : j < s.size), ¬ q s[j]) ∨ ∃ k, ∃ h : k < s.size, r = (k : Int) ∧ q s[k] ∧ ∀ j (h : j < s.size), j < k → ¬ q s[j]
/-- The smaller of two found places, -1 meaning not found. -/
def earlier (x y : Int) : Int := if x < 0 then y else if y < 0 ∨ x ≤ y then x else y
theorem At.unique {s : ByteArray} {q : UInt8 → Prop} {r1 r2 : Int} (h1 : At s q r1) (h2 : At s q r2) : r1 = r2 := by
  rcases h1 with ⟨e1, n1⟩ | ⟨k1, g1, e1, y1, n1⟩ <;> rcases h2 with ⟨e2, n2⟩ | ⟨k2, g2, e2, y2, n2⟩
  · rw [e1, e2]
  · exact absurd y2 (n1 k2 g2)
  · exact absurd y1 (n2 k1 g1)
  · rcases Nat.lt_trichotomy k1 k2 with h | h | h
    · exact absurd y1 (n2 k1 g1 h)
    · rw [e1, e2, h]
    · exact absurd y2 (n1 k2 g2 h)
theorem At.earlier {s : ByteArray} {p q : UInt8 → Prop} {x y : Int} (h1 : At s p x) (h2 : At s q y) : At s (fun v => p v ∨ q v) (earlier x y) := by
  unfold Qxb6605194a.earlier
  rcases h1 with ⟨e1, n1⟩ | ⟨k1, g1, e1, y1, n1⟩
  · rw [if_pos (by omega)]
    rcases h2 with ⟨e2, n2⟩ | ⟨k2, g2, e2, y2, n2⟩
    · exact Or.inl ⟨e2, fun j h => fun hh => hh.elim (n1 j h) (n2 j h)⟩
    · exact Or.inr ⟨k2, g2, e2, Or.inr y2, fun j h hj => fun hh => hh.elim (n1 j h) (n2 j h hj)⟩
  · rw [if_neg (by omega)]
    rcases h2 with ⟨e2, n2⟩ | ⟨k2, g2, e2, y2, n2⟩
    · rw [if_pos (by omega)]
      exact Or.inr ⟨k1, g1, e1, Or.inl y1, fun j h hj => fun hh => hh.elim (n1 j h hj) (n2 j h)⟩
    · by_cases hle : k1 ≤ k2
      · rw [if_pos (by omega)]
        exact Or.inr ⟨k1, g1, e1, Or.inl y1, fun j h hj => fun hh => hh.elim (n1 j h hj) (n2 j h (by omega))⟩
      · rw [if_neg (by omega)]
        exact Or.inr ⟨k2, g2, e2, Or.inr y2, fun j h hj => fun hh => hh.elim (n1 j h (by omega)) (n2 j h hj)⟩
theorem At.congr {s : ByteArray} {p q : UInt8 → Prop} {x : Int} (h : At s p x) (hpq : ∀ v, p v ↔ q v) : At s q x := by
  rcases h with ⟨e, n⟩ | ⟨k, g, e, y, n⟩
  · exact Or.inl ⟨e, fun j h hh => n j h ((hpq _).2 hh)⟩
  · exact Or.inr ⟨k, g, e, (hpq _).1 y, fun j h hj hh => n j h hj ((hpq _).2 hh)⟩
theorem first_at {s : ByteArray} {a b c : UInt8} {r : Int} (h : First s a b c r) : At s (hit a b c) r := by
  rcases h with ⟨e, n⟩ | ⟨k, g, e, y, n⟩
  · exact Or.inl ⟨e, fun j h => n j h h⟩
  · exact Or.inr ⟨k, g, e, y, n⟩

/-! ### The walks -/
/-- The place found, the world as it was. -/
def Scan (s : ByteArray) (q : UInt8 → Prop) (w : World) (e : Ending) (w' : World) : Prop := ∃ r : Int, e = .returned (.int .i64 r) ∧ w' = w ∧ At s q r

theorem ctl {x : UInt8} (h : x.toNat < 32) : ((x.toNat : Int) / 32 == 0) = true := by
  have : (x.toNat : Int) / 32 = 0 := by omega
  rw [this]; rfl
theorem noctl {x : UInt8} (h : ¬ x.toNat < 32) : ((x.toNat : Int) / 32 == 0) = false := beq_false_of_ne (by omega)

set_option maxHeartbeats 400000 in
theorem control_any (s : ByteArray) (w : World) (hl : s.size ≤ 1048576) : Calls Try.prog 7 #[.string s] w (Scan s (fun v => v.toNat < 32) w) := by
  go_enter Try.func7, Try.ntmps7
  go_wp2
  go_loop [3] (fun i => ∃ k : Nat, k ≤ s.size ∧ i = .int .i64 k ∧ Hid (∀ j (h : j < s.size), j < k → ¬ s[j].toNat < 32)) (fun i => s.size - (intOf i).toNat)
  case atStart => exact ⟨0, Nat.zero_le _, rfl, fun j h h0 => by omega⟩
  case round =>
    obtain ⟨k, hk, rfl, hno⟩ := hrel
    by_cases hlt : k < s.size
    · by_cases h1 : s[k].toNat < 32
      · have e1 := ctl h1
        go_wp2
        go_ret
        exact ⟨k, rfl, rfl, Or.inr ⟨k, hlt, rfl, h1, hno.out⟩⟩
      · have e1 := noctl h1
        go_wp2
        go_round
        case rel =>
          refine ⟨k + 1, by omega, by go_num, fun j h hj => ?_⟩
          by_cases hjk : j = k
          · subst hjk; omega
          · exact hno.out j h (by omega)
        case measure => simp [intOf]; omega
    · go_wp2
      go_ret
      exact ⟨-1, rfl, rfl, Or.inl ⟨rfl, fun j h => hno.out j h (by omega)⟩⟩

set_option maxHeartbeats 400000 in
theorem equal_any (s : ByteArray) (a : UInt8) (w : World) (hl : s.size ≤ 1048576) : Calls Try.prog 8 #[.string s, .int .u8 (a.toNat : Int)] w (Scan s (fun v => v = a) w) := by
  go_enter Try.func8, Try.ntmps8
  go_wp2
  go_loop [5] (fun i => ∃ k : Nat, k ≤ s.size ∧ i = .int .i64 k ∧ Hid (∀ j (h : j < s.size), j < k → ¬ s[j] = a)) (fun i => s.size - (intOf i).toNat)
  case atStart => exact ⟨0, Nat.zero_le _, rfl, fun j h h0 => by omega⟩
  case round =>
    obtain ⟨k, hk, rfl, hno⟩ := hrel
    by_cases hlt : k < s.size
    · by_cases h1 : s[k] = a
      · have e1 : ((s[k].toNat : Int) == (a.toNat : Int)) = true := by rw [h1]; simp
        have H1 : Hid _ := h1
        clear h1
        go_wp2
        go_ret
        exact ⟨k, rfl, rfl, Or.inr ⟨k, hlt, rfl, H1.out, hno.out⟩⟩
      · have e1 := ne_bytes h1
        have H1 : Hid _ := h1
        clear h1
        go_wp2
        go_round
        case rel =>
          refine ⟨k + 1, by omega, by go_num, fun j h hj => ?_⟩
          by_cases hjk : j = k
          · subst hjk; exact H1.out
          · exact hno.out j h (by omega)
        case measure => simp [intOf]; omega
    · go_wp2
      go_ret
      exact ⟨-1, rfl, rfl, Or.inl ⟨rfl, fun j h => hno.out j h (by omega)⟩⟩

/-- An int, the world as it was. -/
def IsInt (z : Int) (w : World) (e : Ending) (w' : World) : Prop := e = .returned (.int .i64 z) ∧ w' = w
theorem earlier_any (x y : Int) (w : World) : Calls Try.prog 6 #[.int .i64 x, .int .i64 y] w (IsInt (earlier x y) w) := by
  unfold earlier
  by_cases h1 : x < 0
  · rw [if_pos h1]
    go_enter Try.func6, Try.ntmps6
    go_wp2
    go_ret
    exact ⟨rfl, rfl⟩
  · rw [if_neg h1]
    by_cases h2 : y < 0
    · rw [if_pos (Or.inl h2)]
      go_enter Try.func6, Try.ntmps6
      go_wp2
      go_ret
      exact ⟨rfl, rfl⟩
    · by_cases h3 : x ≤ y
      · rw [if_pos (Or.inr h3)]
        go_enter Try.func6, Try.ntmps6
        go_wp2
        go_ret
        exact ⟨rfl, rfl⟩
      · rw [if_neg (fun h => h.elim h2 h3)]
        go_enter Try.func6, Try.ntmps6
        go_wp2
        go_ret
        exact ⟨rfl, rfl⟩

/-- A bool, the world as it was. -/
def SomeBool (w : World) (e : Ending) (w' : World) : Prop := ∃ r : Bool, e = .returned (.bool r) ∧ w' = w
theorem bytes5_any (s : ByteArray) (a b c : Int) (w : World) : Calls Try.prog 5 #[.string s, .int .u8 a, .int .u8 b, .int .u8 c] w (SomeBool w) := by
  go_enter Try.func5, Try.ntmps5
  go_wp2
  all_goals
    go_ret
    exact ⟨_, rfl, rfl⟩

/-- The law's answer: true; no block more. -/
def Yes (w : World) (e : Ending) (w' : World) : Prop := e = .returned (.bool true) ∧ ∃ m, w' = w.drewN m

set_option maxHeartbeats 1600000 in
theorem scans_walk (s : ByteArray) (a b c : UInt8) (w : World) : Calls Try.prog 3 #[.string s, .int .u8 (a.toNat : Int), .int .u8 (b.toNat : Int), .int .u8 (c.toNat : Int)] w (Yes w) := by
  go_enter Try.func3, Try.ntmps3
  go_wp2_with fail
  refine (bytes5_any s _ _ _ w).mono ?_
  rintro e w1 ⟨r, rfl, hw⟩
  have hw2 := hw.symm
  clear hw
  subst hw2
  cases r with
  | false =>
    go_wp2
    go_ret
    exact ⟨rfl, 0, rfl⟩
  | true =>
    by_cases hs : s.size ≤ 1048576
    · go_wp2_with fail
      refine (control_any s w hs).mono ?_
      rintro e w1 ⟨r0, rfl, hw, A0⟩
      have hw2 := hw.symm
      clear hw
      subst hw2
      have B0 : Hid _ := A0
      clear A0
      go_wp2_with fail
      refine (equal_any s a w hs).mono ?_
      rintro e w1 ⟨r1, rfl, hw, A1⟩
      have hw2 := hw.symm
      clear hw
      subst hw2
      have B1 : Hid _ := A1
      clear A1
      go_wp2_with fail
      refine (earlier_any r0 r1 w).mono ?_
      rintro e w1 ⟨rfl, hw⟩
      have hw2 := hw.symm
      clear hw
      subst hw2
      go_wp2_with fail
      refine (equal_any s b w hs).mono ?_
      rintro e w1 ⟨r2, rfl, hw, A2⟩
      have hw2 := hw.symm
      clear hw
      subst hw2
      have B2 : Hid _ := A2
      clear A2
      go_wp2_with fail
      refine (equal_any s c w hs).mono ?_
      rintro e w1 ⟨r3, rfl, hw, A3⟩
      have hw2 := hw.symm
      clear hw
      subst hw2
      have B3 : Hid _ := A3
      clear A3
      go_wp2_with fail
      refine (earlier_any r2 r3 w).mono ?_
      rintro e w1 ⟨rfl, hw⟩
      have hw2 := hw.symm
      clear hw
      subst hw2
      go_wp2_with fail
      refine (earlier_any _ _ w).mono ?_
      rintro e w1 ⟨rfl, hw⟩
      have hw2 := hw.symm
      clear hw
      subst hw2
      go_wp2_with fail
      refine (index_any s a b c w (by omega)).mono ?_
      rintro e w1 ⟨r, rfl, ⟨m, rfl⟩, hf⟩
      have t0 : At s (fun v => v.toNat < 32) r0 := B0.out
      have t1 : At s (fun v => v = a) r1 := B1.out
      have t2 : At s (fun v => v = b) r2 := B2.out
      have t3 : At s (fun v => v = c) r3 := B3.out
      have hall : At s (hit a b c) (earlier (earlier r0 r1) (earlier r2 r3)) :=
        ((t0.earlier t1).earlier (t2.earlier t3)).congr (fun v => by unfold hit; exact or_assoc)
      have hr := (first_at hf).unique hall
      subst hr
      clear hf hall B0 B1 B2 B3 t0 t1 t2 t3
      go_wp2
      go_ret
      exact ⟨rfl, m, rfl⟩
    · go_wp2
      go_ret
      exact ⟨rfl, 0, rfl⟩
end Go.Proofs.Qxb6605194a
