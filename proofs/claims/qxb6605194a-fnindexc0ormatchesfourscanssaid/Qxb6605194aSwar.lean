/-
  SEAT b6605194a: THE PLAIN LAW of the word test: where the test of a word of eight bytes is nought, no byte of the word lies below 32 and none is a, b or c.
-/
import Derived.Laws.BitsAllLaws
namespace Go.Proofs.Qxb6605194a

/-- Byte j of a number, the lowest first. -/
def byte (z j : Nat) : Nat := z / 256 ^ j % 256
theorem byte_zero (z : Nat) : byte z 0 = z % 256 := by simp [byte]
theorem byte_succ (z j : Nat) : byte z (j + 1) = byte (z / 256) j := by
  unfold byte
  rw [Nat.pow_succ, Nat.mul_comm (256 ^ j) 256, ← Nat.div_div_eq_div_mul]
theorem byte_lt (z j : Nat) : byte z j < 256 := Nat.mod_lt _ (by decide)

/-- 1 in each of n bytes. -/
def lows : Nat → Nat
  | 0 => 0
  | n + 1 => 1 + 256 * lows n
set_option maxRecDepth 4000 in
theorem lows_pow (n : Nat) : lows n * 255 + 1 = 256 ^ n := by
  induction n with
  | zero => rfl
  | succ n ih =>
    have e : lows (n + 1) = 1 + 256 * lows n := rfl
    have p : 256 ^ (n + 1) = 256 ^ n * 256 := Nat.pow_succ _ _
    rw [e, p]
    clear e p
    generalize 256 ^ n = N at ih ⊢
    generalize lows n = L at ih ⊢
    omega

/-- No borrow out of the lowest byte: the rest is subtracted by itself. -/
theorem low_keeps (K y Y C N : Nat) (hy : K ≤ y) (hy2 : y < 256) (hC : C < N) (hY : Y < N) :
    (y + 256 * Y + 256 * N - (K + 256 * C)) % (256 * N) = (y - K) + 256 * ((Y + N - C) % N) := by
  have e : y + 256 * Y + 256 * N - (K + 256 * C) = (y - K) + 256 * (Y + N - C) := by omega
  rw [e]
  by_cases h : Y + N - C < N
  · rw [Nat.mod_eq_of_lt h, Nat.mod_eq_of_lt (by omega)]
  · have h2 : (Y + N - C) % N = Y - C := by rw [Nat.mod_eq_sub_mod (by omega), Nat.mod_eq_of_lt (by omega)]; omega
    rw [h2, Nat.mod_eq_sub_mod (by omega), Nat.mod_eq_of_lt (by omega)]
    omega
/-- A borrow: the lowest byte comes out with its high bit set. -/
theorem low_borrows (K y Y C N : Nat) (hy : y < K) (hK : K ≤ 128) (hC : C < N) :
    (y + 256 * Y + 256 * N - (K + 256 * C)) % (256 * N) % 256 = y + 256 - K := by
  rw [Nat.mod_mul_right_mod]
  have e : y + 256 * Y + 256 * N - (K + 256 * C) = (y + 256 - K) + 256 * (Y + N - C - 1) := by omega
  rw [e]
  omega

/-- Where no byte of the difference has its high bit set that the number's own byte has clear, each byte is at least K. -/
theorem bytes_ge (K : Nat) (hK : K ≤ 128) : ∀ (n Y D : Nat), Y < 256 ^ n → D = (Y + 256 ^ n - K * lows n) % 256 ^ n → (∀ j, j < n → ¬ (128 ≤ byte D j ∧ byte Y j < 128)) → ∀ j, j < n → K ≤ byte Y j := by
  intro n
  induction n with
  | zero => intro Y D _ _ _ j hj; omega
  | succ n ih =>
    intro Y D hY hD h
    have hl := lows_pow n
    have hC : K * lows n < 256 ^ n := by
      have : K * lows n ≤ 128 * lows n := Nat.mul_le_mul_right _ hK
      omega
    have hY' : Y / 256 < 256 ^ n := by
      rw [Nat.pow_succ] at hY
      omega
    have hy : Y = Y % 256 + 256 * (Y / 256) := by omega
    have hpow : 256 ^ (n + 1) = 256 * 256 ^ n := by rw [Nat.pow_succ, Nat.mul_comm]
    have hKl : K * lows (n + 1) = K + 256 * (K * lows n) := by
      show K * (1 + 256 * lows n) = _
      rw [Nat.mul_add, Nat.mul_one, ← Nat.mul_assoc, Nat.mul_comm K 256, Nat.mul_assoc]
    have hD2 : D = (Y % 256 + 256 * (Y / 256) + 256 * 256 ^ n - (K + 256 * (K * lows n))) % (256 * 256 ^ n) := by rw [hD, hKl, hpow, ← hy]
    have h0 : K ≤ Y % 256 := by
      rcases Nat.lt_or_ge (Y % 256) K with hlt | hge
      · have hb := low_borrows K (Y % 256) (Y / 256) (K * lows n) (256 ^ n) hlt hK hC
        rw [← hD2] at hb
        have := h 0 (by omega)
        rw [byte_zero, byte_zero] at this
        omega
      · exact hge
    have hk := low_keeps K (Y % 256) (Y / 256) (K * lows n) (256 ^ n) h0 (Nat.mod_lt _ (by decide)) hC hY'
    rw [← hD2] at hk
    have hDd : D / 256 = (Y / 256 + 256 ^ n - K * lows n) % 256 ^ n := by
      have := Nat.mod_lt Y (show 0 < 256 by decide)
      omega
    intro j hj
    cases j with
    | zero => rw [byte_zero]; exact h0
    | succ j =>
      rw [byte_succ]
      refine ih (Y / 256) (D / 256) hY' hDd (fun i hi => ?_) j (by omega)
      have := h (i + 1) (by omega)
      rw [byte_succ, byte_succ] at this
      exact this

/-- A byte's high bit. -/
theorem high_bit (z j : Nat) : z.testBit (8 * j + 7) = decide (128 ≤ byte z j) := by
  rw [Nat.testBit_eq_decide_div_mod_eq]
  have e : 2 ^ (8 * j + 7) = 256 ^ j * 128 := by rw [Nat.pow_add, Nat.pow_mul]
  rw [e, ← Nat.div_div_eq_div_mul]
  unfold byte
  rw [decide_eq_decide]
  omega
theorem highs_bit : ∀ j, j < 8 → (9259542123273814144 : Nat).testBit (8 * j + 7) = true := by decide
theorem not_bit (z i : Nat) (hz : z < 18446744073709551616) (hi : i < 64) : (18446744073709551615 - z).testBit i = !z.testBit i := by
  have e : 18446744073709551615 - z = 2 ^ 64 - (z + 1) := by omega
  rw [e, Nat.testBit_two_pow_sub_succ (by omega)]
  simp [hi]

/-- One of the four tests. -/
def quad (K z : Nat) : Nat := ((z + 18446744073709551616 - K * 72340172838076673) % 18446744073709551616) &&& (18446744073709551615 - z)
theorem quad_bytes (K z : Nat) (hK : K ≤ 128) (hz : z < 18446744073709551616) (h : ∀ j, j < 8 → (quad K z).testBit (8 * j + 7) = false) : ∀ j, j < 8 → K ≤ byte z j := by
  refine bytes_ge K hK 8 z _ hz rfl (fun j hj hh => ?_)
  have h1 := h j hj
  unfold quad at h1
  rw [Nat.testBit_and, not_bit z _ hz (by omega), high_bit, high_bit] at h1
  have e1 : decide (128 ≤ byte ((z + 18446744073709551616 - K * 72340172838076673) % 18446744073709551616) j) = true := decide_eq_true hh.1
  have e2 : decide (128 ≤ byte z j) = false := decide_eq_false (by omega)
  rw [e1, e2] at h1
  cases h1

theorem xor_byte (x y j : Nat) : byte (x ^^^ y) j = byte x j ^^^ byte y j := by
  unfold byte
  have e : 256 ^ j = 2 ^ (8 * j) := by rw [Nat.pow_mul]
  rw [e, Nat.xor_div_two_pow, show (256 : Nat) = 2 ^ 8 from rfl, Nat.xor_mod_two_pow]
theorem spread (a : Nat) (ha : a < 256) : ∀ n j, j < n → byte (a * lows n) j = a := by
  intro n
  induction n with
  | zero => intro j hj; omega
  | succ n ih =>
    intro j hj
    have e : a * lows (n + 1) = a + 256 * (a * lows n) := by
      show a * (1 + 256 * lows n) = _
      rw [Nat.mul_add, Nat.mul_one, ← Nat.mul_assoc, Nat.mul_comm a 256, Nat.mul_assoc]
    rw [e]
    cases j with
    | zero => rw [byte_zero]; omega
    | succ j =>
      rw [byte_succ, show (a + 256 * (a * lows n)) / 256 = a * lows n from by omega]
      exact ih j (by omega)
theorem spread_byte (a : Nat) (ha : a < 256) (j : Nat) (hj : j < 8) : byte (a * 72340172838076673) j = a := spread a ha 8 j hj

/-- The whole test. -/
def test (X a b c : Nat) : Nat := (((quad 32 X ||| quad 1 (X ^^^ a * 72340172838076673)) ||| quad 1 (X ^^^ b * 72340172838076673)) ||| quad 1 (X ^^^ c * 72340172838076673)) &&& 9259542123273814144

theorem xor_lt (X a : Nat) (hX : X < 18446744073709551616) (ha : a < 256) : X ^^^ a * 72340172838076673 < 18446744073709551616 := Nat.xor_lt_two_pow (n := 64) hX (by omega)
theorem ne_of_quad (X a : Nat) (hX : X < 18446744073709551616) (ha : a < 256) (h : ∀ j, j < 8 → (quad 1 (X ^^^ a * 72340172838076673)).testBit (8 * j + 7) = false) : ∀ j, j < 8 → byte X j ≠ a := by
  intro j hj e
  have h1 := quad_bytes 1 _ (by decide) (xor_lt X a hX ha) h j hj
  rw [xor_byte, spread_byte a ha j hj, e, Nat.xor_self] at h1
  omega
theorem swar (X a b c : Nat) (hX : X < 18446744073709551616) (ha : a < 256) (hb : b < 256) (hc : c < 256) (h : test X a b c = 0) :
    ∀ j, j < 8 → 32 ≤ byte X j ∧ byte X j ≠ a ∧ byte X j ≠ b ∧ byte X j ≠ c := by
  have hbits : ∀ j, j < 8 → (quad 32 X).testBit (8 * j + 7) = false ∧ (quad 1 (X ^^^ a * 72340172838076673)).testBit (8 * j + 7) = false ∧ (quad 1 (X ^^^ b * 72340172838076673)).testBit (8 * j + 7) = false ∧ (quad 1 (X ^^^ c * 72340172838076673)).testBit (8 * j + 7) = false := by
    intro j hj
    have h1 : (test X a b c).testBit (8 * j + 7) = false := by rw [h]; exact Nat.zero_testBit _
    unfold test at h1
    rw [Nat.testBit_and, highs_bit j hj, Bool.and_true, Nat.testBit_or, Nat.testBit_or, Nat.testBit_or, Bool.or_eq_false_iff, Bool.or_eq_false_iff, Bool.or_eq_false_iff] at h1
    exact ⟨h1.1.1.1, h1.1.1.2, h1.1.2, h1.2⟩
  intro j hj
  exact ⟨quad_bytes 32 X (by decide) hX (fun j hj => (hbits j hj).1) j hj, ne_of_quad X a hX ha (fun j hj => (hbits j hj).2.1) j hj, ne_of_quad X b hX hb (fun j hj => (hbits j hj).2.2.1) j hj, ne_of_quad X c hX hc (fun j hj => (hbits j hj).2.2.2) j hj⟩
end Go.Proofs.Qxb6605194a
