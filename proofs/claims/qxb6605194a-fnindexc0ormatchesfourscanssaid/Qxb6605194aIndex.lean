/-
  SEAT b6605194a: the walk of 'IndexC0Or': it answers the first byte sought.
-/
import Derived.Test.Qxb6605194aProg
import Derived.Test.Qxb6605194aWord
import Derived.WalkKit
import Derived.WalkLawsBesides
import Derived.WalkSpells
import Derived.Deep.QuietTactic
import Derived.BigQuiet
import Derived.Deep.CutBlock
namespace Go.Proofs.Qxb6605194a
open Go.RowKit

/-- The byte that is sought. -/
def hit (a b c : UInt8) (v : UInt8) : Prop := v.toNat < 32 ∨ v = a ∨ v = b ∨ v = c
/-- No byte sought among the first k. -/
def Clean (s : ByteArray) (a b c : UInt8) (k : Nat) : Prop := ∀ j (h : j < s.size), j < k → ¬ hit a b c s[j]
def First (s : ByteArray) (a b c : UInt8) (r : Int) : Prop := (r = -1 ∧ Clean s a b c s.size) ∨ ∃ k, ∃ h : k < s.size, r = (k : Int) ∧ hit a b c s[k] ∧ Clean s a b c k
def Found (s : ByteArray) (a b c : UInt8) (w : World) (e : Ending) (w' : World) : Prop := ∃ r : Int, e = .returned (.int .i64 r) ∧ (∃ m, w' = w.drewN m) ∧ First s a b c r

/-- X is the word of the eight bytes of s from k on. -/
def Word (s : ByteArray) (k X : Nat) : Prop := X < 18446744073709551616 ∧ ∀ j (h : k + j < s.size), j < 8 → byte X j = s[k + j].toNat

theorem cut_byte (s : ByteArray) (k j : Nat) (h : j < (s.extract k (k + 8)).size) (h2 : k + j < s.size) : (s.extract k (k + 8))[j] = s[k + j] := by
  rw [ByteArray.getElem_extract]
theorem word_of (s : ByteArray) (k : Nat) (h : k + 8 ≤ s.size) (b0 b1 b2 b3 b4 b5 b6 b7 : UInt8) (e0 : b0 = s[k + 0]) (e1 : b1 = s[k + 1]) (e2 : b2 = s[k + 2]) (e3 : b3 = s[k + 3]) (e4 : b4 = s[k + 4]) (e5 : b5 = s[k + 5]) (e6 : b6 = s[k + 6]) (e7 : b7 = s[k + 7]) :
    Word s k (wordL [b0.toNat, b1.toNat, b2.toNat, b3.toNat, b4.toNat, b5.toNat, b6.toNat, b7.toNat]) := by
  refine ⟨word_lt _ _ _ _ _ _ _ _, fun j hj h8 => ?_⟩
  have hb := byte_wordL _ j (bytes_lt [b0, b1, b2, b3, b4, b5, b6, b7]) (by simpa using h8)
  have hm : [b0, b1, b2, b3, b4, b5, b6, b7].map UInt8.toNat = [b0.toNat, b1.toNat, b2.toNat, b3.toNat, b4.toNat, b5.toNat, b6.toNat, b7.toNat] := rfl
  rw [hm] at hb
  rw [hb]
  match j, h8 with
  | 0, _ => rw [← e0]; rfl
  | 1, _ => rw [← e1]; rfl
  | 2, _ => rw [← e2]; rfl
  | 3, _ => rw [← e3]; rfl
  | 4, _ => rw [← e4]; rfl
  | 5, _ => rw [← e5]; rfl
  | 6, _ => rw [← e6]; rfl
  | 7, _ => rw [← e7]; rfl

/-- Where the test says nothing the eight bytes are clean. -/
theorem clean_word {s : ByteArray} {a b c : UInt8} {k X : Nat} (hX : Word s k X) (hno : Clean s a b c k) (h : (((test X a.toNat b.toNat c.toNat : Nat) : Int) != 0) = false) : Clean s a b c (k + 8) := by
  have h0 : test X a.toNat b.toNat c.toNat = 0 := by simpa using h
  intro j hj hjk
  by_cases hlt : j < k
  · exact hno j hj hlt
  · obtain ⟨i, rfl⟩ : ∃ i, j = k + i := ⟨j - k, by omega⟩
    have hb := hX.2 i hj (by omega)
    obtain ⟨g1, g2, g3, g4⟩ := swar X a.toNat b.toNat c.toNat hX.1 a.toNat_lt b.toNat_lt c.toNat_lt h0 i (by omega)
    rw [hb] at g1 g2 g3 g4
    rintro (h1 | h1 | h1 | h1)
    · omega
    · exact g2 (by rw [h1])
    · exact g3 (by rw [h1])
    · exact g4 (by rw [h1])
theorem clean_step {s : ByteArray} {a b c : UInt8} {k : Nat} (hk : k < s.size) (hno : Clean s a b c k) (h : ¬ hit a b c s[k]) : Clean s a b c (k + 1) := by
  intro j hj hjk
  by_cases e : j = k
  · subst e; exact h
  · exact hno j hj (by omega)

theorem ne_bytes {x y : UInt8} (h : ¬ x = y) : ((x.toNat : Int) == (y.toNat : Int)) = false :=
  beq_false_of_ne (fun e => h (UInt8.toNat_inj.1 (by omega)))

set_option maxRecDepth 20000 in
set_option maxHeartbeats 1600000 in
theorem index_any (s : ByteArray) (a b c : UInt8) (w : World) (hl : s.size ≤ 2097152) :
    Calls Try.prog 9 #[.string s, .int .u8 (a.toNat : Int), .int .u8 (b.toNat : Int), .int .u8 (c.toNat : Int)] w (Found s a b c w) := by
  have ha := a.toNat_lt
  have hb := b.toNat_lt
  have hc := c.toNat_lt
  go_enter Try.func9, Try.ntmps9
  go_upto_block 0 with fail
  go_cut [12] from 28 (fun i wc => ∃ k m : Nat, k ≤ s.size ∧ i = .int .i64 k ∧ wc = w.drewN m ∧ Clean s a b c k)
  case first =>
    go_wp2
    go_loopw [12] (fun i wr => ∃ k m : Nat, k ≤ s.size ∧ i = .int .i64 k ∧ wr = w.drewN m ∧ Clean s a b c k) (fun i _ => s.size - (intOf i).toNat)
    case atStart => exact ⟨0, 0, Nat.zero_le _, rfl, rfl, fun j h h0 => by omega⟩
    case round =>
      obtain ⟨k, m, hk, rfl, rfl, hno⟩ := hrel
      have HN : Hid _ := hno
      clear hno
      by_cases hlt : k + 8 ≤ s.size
      · have hq : (k : Int) + 8 ≤ (s.size : Int) := by omega
        go_upto_region 6 with fail
        go_cut [14] from 28 to 107 (fun x wc => ∃ X m : Nat, x = .int .u64 (X : Int) ∧ wc = w.drewN m ∧ Word s k X)
        case first =>
          go_quiet (fail)
          go_wp2_with fail
          go_meet
          case rel =>
            refine ⟨_, m + nq, congrArg (Value.int .u64) (word_form _ _ _ _ _ _ _ _), by rw [World.drewN_drewN], ?_⟩
            exact word_of s k hlt _ _ _ _ _ _ _ _ (cut_byte s k 0 _ _) (cut_byte s k 1 _ _) (cut_byte s k 2 _ _) (cut_byte s k 3 _ _) (cut_byte s k 4 _ _) (cut_byte s k 5 _ _) (cut_byte s k 6 _ _) (cut_byte s k 7 _ _)
        case rest =>
          obtain ⟨X, m, rfl, rfl, hX⟩ := hcut
          have HX : Hid _ := hX
          clear hX
          go_upto_region 8 with fail
          go_cut [107] from 28 to 107 (fun v wc => ∃ T : Bool, v = .bool T ∧ wc = w.drewN m ∧ (T = false → Clean s a b c (k + 8)))
          case first =>
            go_wp2_with fail
            go_meet
            case rel =>
              refine ⟨_, rfl, rfl, fun hT => ?_⟩
              rw [test_form X a.toNat b.toNat c.toNat HX.out.1 ha hb hc] at hT
              exact clean_word HX.out HN.out hT
          case rest =>
            obtain ⟨T, rfl, rfl, hT⟩ := hcut
            cases T with
            | true =>
              clear hT
              go_wp2_with fail
              go_meet
              case rel => exact ⟨k, m, hk, rfl, rfl, HN.out⟩
            | false =>
              have HT : Hid _ := hT rfl
              clear hT
              go_wp2_with fail
              go_roundw
              case rel => exact ⟨k + 8, m, by omega, by go_num, rfl, HT.out⟩
              case measure => simp [intOf]; omega
      · go_wp2_with fail
        go_meet
        case rel => exact ⟨k, m, hk, rfl, rfl, HN.out⟩
  case rest =>
    obtain ⟨k0, m0, hk0, rfl, rfl, hno0⟩ := hcut
    have HN0 : Hid _ := hno0
    clear hno0
    go_wp2
    go_loop [12] (fun i => ∃ k : Nat, k ≤ s.size ∧ i = .int .i64 k ∧ Clean s a b c k) (fun i => s.size - (intOf i).toNat)
    case atStart => exact ⟨k0, hk0, rfl, HN0.out⟩
    case round =>
      obtain ⟨k, hk, rfl, hno⟩ := hrel
      have HN : Hid _ := hno
      clear hno HN0
      by_cases hlt : k < s.size
      · by_cases h1 : (s[k].toNat : Int) < 32
        · go_wp2
          go_ret
          exact ⟨k, rfl, ⟨m0, rfl⟩, Or.inr ⟨k, hlt, rfl, Or.inl (by omega), HN.out⟩⟩
        · by_cases h2 : s[k] = a
          · have e2 : ((s[k].toNat : Int) == (a.toNat : Int)) = true := by rw [h2]; simp
            have H2 : Hid _ := h2
            clear h2
            go_wp2
            go_ret
            exact ⟨k, rfl, ⟨m0, rfl⟩, Or.inr ⟨k, hlt, rfl, Or.inr (Or.inl H2.out), HN.out⟩⟩
          · have e2 : ((s[k].toNat : Int) == (a.toNat : Int)) = false := ne_bytes h2
            have H2 : Hid _ := h2
            clear h2
            by_cases h3 : s[k] = b
            · have e3 : ((s[k].toNat : Int) == (b.toNat : Int)) = true := by rw [h3]; simp
              have H3 : Hid _ := h3
              clear h3
              go_wp2
              go_ret
              exact ⟨k, rfl, ⟨m0, rfl⟩, Or.inr ⟨k, hlt, rfl, Or.inr (Or.inr (Or.inl H3.out)), HN.out⟩⟩
            · have e3 : ((s[k].toNat : Int) == (b.toNat : Int)) = false := ne_bytes h3
              have H3 : Hid _ := h3
              clear h3
              by_cases h4 : s[k] = c
              · have e4 : ((s[k].toNat : Int) == (c.toNat : Int)) = true := by rw [h4]; simp
                have H4 : Hid _ := h4
                clear h4
                go_wp2
                go_ret
                exact ⟨k, rfl, ⟨m0, rfl⟩, Or.inr ⟨k, hlt, rfl, Or.inr (Or.inr (Or.inr H4.out)), HN.out⟩⟩
              · have e4 : ((s[k].toNat : Int) == (c.toNat : Int)) = false := ne_bytes h4
                have H4 : Hid (¬ hit a b c s[k]) := by
                  rintro (h | h | h | h)
                  · omega
                  · exact H2.out h
                  · exact H3.out h
                  · exact h4 h
                clear h4
                go_wp2
                go_round
                case rel => exact ⟨k + 1, by omega, by go_num, clean_step hlt HN.out H4.out⟩
                case measure => simp [intOf]; omega
      · go_wp2
        go_ret
        have hks : k = s.size := by omega
        subst hks
        exact ⟨-1, rfl, ⟨m0, rfl⟩, Or.inl ⟨rfl, HN.out⟩⟩
end Go.Proofs.Qxb6605194a
