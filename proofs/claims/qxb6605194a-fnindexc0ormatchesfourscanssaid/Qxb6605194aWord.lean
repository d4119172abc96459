/-
  SEAT b6605194a: the word of eight bytes and its test, as the walk spells them.
-/
import Derived.Test.Qxb6605194aSwar
namespace Go.Proofs.Qxb6605194a

/-- The number that bytes spell, the lowest first. -/
def wordL : List Nat → Nat
  | [] => 0
  | b :: r => b + 256 * wordL r
theorem byte_wordL : ∀ (l : List Nat) (j : Nat), (∀ b ∈ l, b < 256) → j < l.length → byte (wordL l) j = l.getD j 0 := by
  intro l
  induction l with
  | nil => intro j _ hj; simp at hj
  | cons b r ih =>
    intro j hb hj
    have h0 : b < 256 := hb b (by simp)
    have e : wordL (b :: r) = b + 256 * wordL r := rfl
    rw [e]
    cases j with
    | zero => rw [byte_zero]; simp; omega
    | succ j =>
      rw [byte_succ, show (b + 256 * wordL r) / 256 = wordL r from by omega, ih j (fun x hx => hb x (by simp [hx])) (by simpa using hj)]
      simp

theorem wrap_id (n : Nat) (h : n < 18446744073709551616) : IntKind.u64.wrap (n : Int) = (n : Int) := by
  rw [IntKind.wrap_u64]
  omega
/-- One byte more, above what is there. -/
theorem join (i P y b : Nat) (p : Int) (hp : p = (P : Int)) (hP : P = 2 ^ i) (hPb : P * 256 ≤ 18446744073709551616) (hy : y < P) (hb : b < 256) :
    bits .or .u64 (y : Int) (IntKind.u64.wrap (IntKind.u64.wrap (b : Int) * p)) = ((y + b * P : Nat) : Int) := by
  have hbP : b * P < 18446744073709551616 := by
    have : b * P ≤ 255 * P := Nat.mul_le_mul_right _ (by omega)
    omega
  have hyb : y < 18446744073709551616 := by omega
  subst hp
  rw [wrap_id b (by omega), ← Int.natCast_mul, wrap_id _ hbP, u64_or_nat y (b * P) hyb hbP, Nat.or_comm, nat_join i (b * P) y (by rw [hP]; exact Nat.mul_mod_left _ _) (by rw [← hP]; exact hy), Nat.add_comm]

theorem word_form (b0 b1 b2 b3 b4 b5 b6 b7 : UInt8) :
    bits .or .u64 (bits .or .u64 (bits .or .u64 (bits .or .u64 (bits .or .u64 (bits .or .u64 (bits .or .u64 (IntKind.u64.wrap (b0.toNat : Int)) (IntKind.u64.wrap (IntKind.u64.wrap (b1.toNat : Int) * 256)))
      (IntKind.u64.wrap (IntKind.u64.wrap (b2.toNat : Int) * 65536))) (IntKind.u64.wrap (IntKind.u64.wrap (b3.toNat : Int) * 16777216))) (IntKind.u64.wrap (IntKind.u64.wrap (b4.toNat : Int) * 4294967296)))
      (IntKind.u64.wrap (IntKind.u64.wrap (b5.toNat : Int) * 1099511627776))) (IntKind.u64.wrap (IntKind.u64.wrap (b6.toNat : Int) * 281474976710656))) (IntKind.u64.wrap (IntKind.u64.wrap (b7.toNat : Int) * 72057594037927936)) =
    ((wordL [b0.toNat, b1.toNat, b2.toNat, b3.toNat, b4.toNat, b5.toNat, b6.toNat, b7.toNat] : Nat) : Int) := by
  have h0 : b0.toNat < 256 := b0.toNat_lt
  have h1 : b1.toNat < 256 := b1.toNat_lt
  have h2 : b2.toNat < 256 := b2.toNat_lt
  have h3 : b3.toNat < 256 := b3.toNat_lt
  have h4 : b4.toNat < 256 := b4.toNat_lt
  have h5 : b5.toNat < 256 := b5.toNat_lt
  have h6 : b6.toNat < 256 := b6.toNat_lt
  have h7 : b7.toNat < 256 := b7.toNat_lt
  generalize b0.toNat = x0 at *
  generalize b1.toNat = x1 at *
  generalize b2.toNat = x2 at *
  generalize b3.toNat = x3 at *
  generalize b4.toNat = x4 at *
  generalize b5.toNat = x5 at *
  generalize b6.toNat = x6 at *
  generalize b7.toNat = x7 at *
  rw [wrap_id x0 (by omega), join 8 256 x0 x1 256 rfl rfl (by decide) h0 h1, join 16 65536 _ x2 65536 rfl rfl (by decide) (by omega) h2, join 24 16777216 _ x3 16777216 rfl rfl (by decide) (by omega) h3,
    join 32 4294967296 _ x4 4294967296 rfl rfl (by decide) (by omega) h4, join 40 1099511627776 _ x5 1099511627776 rfl rfl (by decide) (by omega) h5, join 48 281474976710656 _ x6 281474976710656 rfl rfl (by decide) (by omega) h6,
    join 56 72057594037927936 _ x7 72057594037927936 rfl rfl (by decide) (by omega) h7]
  congr 1
  simp only [wordL]
  omega
theorem wordL_lt : ∀ l : List Nat, (∀ b ∈ l, b < 256) → wordL l < 256 ^ l.length := by
  intro l
  induction l with
  | nil => intro _; simp [wordL]
  | cons b r ih =>
    intro hb
    have h0 : b < 256 := hb b (by simp)
    have h1 := ih (fun x hx => hb x (by simp [hx]))
    have e : wordL (b :: r) = b + 256 * wordL r := rfl
    rw [e, List.length_cons, Nat.pow_succ]
    omega
theorem bytes_lt (l : List UInt8) : ∀ b ∈ l.map UInt8.toNat, b < 256 := by
  intro b hb
  obtain ⟨c, _, rfl⟩ := List.mem_map.1 hb
  exact c.toNat_lt
theorem word_lt (b0 b1 b2 b3 b4 b5 b6 b7 : UInt8) : wordL [b0.toNat, b1.toNat, b2.toNat, b3.toNat, b4.toNat, b5.toNat, b6.toNat, b7.toNat] < 18446744073709551616 := by
  have h := wordL_lt _ (bytes_lt [b0, b1, b2, b3, b4, b5, b6, b7])
  rw [List.length_map, show [b0, b1, b2, b3, b4, b5, b6, b7].length = 8 from rfl, show (256 : Nat) ^ 8 = 18446744073709551616 from by decide] at h
  exact h

/-! ### The test -/
theorem quad32_form (z : Nat) (hz : z < 18446744073709551616) : bits .andNot .u64 (IntKind.u64.wrap ((z : Int) - 2314885530818453536)) (z : Int) = ((quad 32 z : Nat) : Int) := by
  have e : IntKind.u64.wrap ((z : Int) - 2314885530818453536) = (((z + 18446744073709551616 - 32 * 72340172838076673) % 18446744073709551616 : Nat) : Int) := by
    rw [IntKind.wrap_u64]
    omega
  rw [e, u64_andNot_nat _ _ (Nat.mod_lt _ (by decide)) hz]
  rfl
theorem quad1_form (z : Nat) (hz : z < 18446744073709551616) : bits .andNot .u64 (IntKind.u64.wrap ((z : Int) - 72340172838076673)) (z : Int) = ((quad 1 z : Nat) : Int) := by
  have e : IntKind.u64.wrap ((z : Int) - 72340172838076673) = (((z + 18446744073709551616 - 1 * 72340172838076673) % 18446744073709551616 : Nat) : Int) := by
    rw [IntKind.wrap_u64]
    omega
  rw [e, u64_andNot_nat _ _ (Nat.mod_lt _ (by decide)) hz]
  rfl
theorem quad_lt (K z : Nat) : quad K z < 18446744073709551616 := Nat.lt_of_le_of_lt Nat.and_le_left (Nat.mod_lt _ (by decide))
theorem or_lt (x y : Nat) (hx : x < 18446744073709551616) (hy : y < 18446744073709551616) : x ||| y < 18446744073709551616 := Nat.or_lt_two_pow (n := 64) hx hy
theorem xor_form (X a : Nat) (hX : X < 18446744073709551616) (ha : a < 256) : bits .xor .u64 (X : Int) ((a : Int) * 72340172838076673) = ((X ^^^ a * 72340172838076673 : Nat) : Int) := by
  have e : (a : Int) * 72340172838076673 = ((a * 72340172838076673 : Nat) : Int) := by rw [Int.natCast_mul]; rfl
  rw [e, u64_xor_nat X _ hX (by omega)]
theorem test_form (X a b c : Nat) (hX : X < 18446744073709551616) (ha : a < 256) (hb : b < 256) (hc : c < 256) :
    bits .and .u64 (bits .or .u64 (bits .or .u64 (bits .or .u64 (bits .andNot .u64 (IntKind.u64.wrap ((X : Int) - 2314885530818453536)) (X : Int))
      (bits .andNot .u64 (IntKind.u64.wrap (bits .xor .u64 (X : Int) ((a : Int) * 72340172838076673) - 72340172838076673)) (bits .xor .u64 (X : Int) ((a : Int) * 72340172838076673))))
      (bits .andNot .u64 (IntKind.u64.wrap (bits .xor .u64 (X : Int) ((b : Int) * 72340172838076673) - 72340172838076673)) (bits .xor .u64 (X : Int) ((b : Int) * 72340172838076673))))
      (bits .andNot .u64 (IntKind.u64.wrap (bits .xor .u64 (X : Int) ((c : Int) * 72340172838076673) - 72340172838076673)) (bits .xor .u64 (X : Int) ((c : Int) * 72340172838076673)))) 9259542123273814144 =
    ((test X a b c : Nat) : Int) := by
  have e : (9259542123273814144 : Int) = ((9259542123273814144 : Nat) : Int) := rfl
  rw [xor_form X a hX ha, xor_form X b hX hb, xor_form X c hX hc, quad32_form X hX, quad1_form _ (xor_lt X a hX ha), quad1_form _ (xor_lt X b hX hb), quad1_form _ (xor_lt X c hX hc)]
  rw [u64_or_nat _ _ (quad_lt _ _) (quad_lt _ _), u64_or_nat _ _ (or_lt _ _ (quad_lt _ _) (quad_lt _ _)) (quad_lt _ _), u64_or_nat _ _ (or_lt _ _ (or_lt _ _ (quad_lt _ _) (quad_lt _ _)) (quad_lt _ _)) (quad_lt _ _)]
  rw [e, u64_and_nat _ _ (or_lt _ _ (or_lt _ _ (or_lt _ _ (quad_lt _ _) (quad_lt _ _)) (quad_lt _ _)) (quad_lt _ _)) (by decide)]
  rfl
end Go.Proofs.Qxb6605194a
