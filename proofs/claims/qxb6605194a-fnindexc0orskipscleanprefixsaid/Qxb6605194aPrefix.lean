/-
  SEAT b6605194a: the walk of 'FnIndexC0OrSkipsCleanPrefix'.
-/
import Derived.Test.Qxb6605194aIndex
namespace Go.Proofs.Qxb6605194a
open Go.RowKit

/-! ### The plain law -/
theorem first_unique {s : ByteArray} {a b c : UInt8} {r1 r2 : Int} (h1 : First s a b c r1) (h2 : First s a b c r2) : r1 = r2 := by
  rcases h1 with ⟨e1, n1⟩ | ⟨k1, g1, e1, y1, n1⟩ <;> rcases h2 with ⟨e2, n2⟩ | ⟨k2, g2, e2, y2, n2⟩
  · rw [e1, e2]
  · exact absurd y2 (n1 k2 g2 g2)
  · exact absurd y1 (n2 k1 g1 g1)
  · rcases Nat.lt_trichotomy k1 k2 with h | h | h
    · exact absurd y1 (n2 k1 g1 h)
    · rw [e1, e2, h]
    · exact absurd y2 (n1 k2 g2 h)
theorem get_left (p s : ByteArray) (j : Nat) (h : j < (p ++ s).size) (hj : j < p.size) : (p ++ s)[j] = p[j] := ByteArray.getElem_append_left hj
theorem get_right (p s : ByteArray) (j : Nat) (h : p.size + j < (p ++ s).size) (hj : j < s.size) : (p ++ s)[p.size + j] = s[j] := by
  rw [ByteArray.getElem_append_right (by omega)]
  congr 1
  omega
theorem first_append {p s : ByteArray} {a b c : UInt8} {r : Int} (hp : Clean p a b c p.size) (h : First s a b c r) : First (p ++ s) a b c (if r < 0 then -1 else (p.size : Int) + r) := by
  have hsz : (p ++ s).size = p.size + s.size := ByteArray.size_append
  have hcl : ∀ k, Clean s a b c k → Clean (p ++ s) a b c (p.size + k) := by
    intro k hk j hj hjk
    by_cases hlt : j < p.size
    · rw [get_left p s j hj hlt]
      exact hp j hlt hlt
    · obtain ⟨i, rfl⟩ : ∃ i, j = p.size + i := ⟨j - p.size, by omega⟩
      rw [get_right p s i hj (by omega)]
      exact hk i (by omega) (by omega)
  rcases h with ⟨e, n⟩ | ⟨k, g, e, y, n⟩
  · left
    refine ⟨by rw [e]; rfl, ?_⟩
    rw [hsz]
    exact hcl _ n
  · right
    refine ⟨p.size + k, by omega, ?_, ?_, hcl k n⟩
    · rw [if_neg (by omega), e]
      omega
    · rw [get_right p s k (by omega) g]
      exact y
theorem first_range {s : ByteArray} {a b c : UInt8} {r : Int} (h : First s a b c r) : -1 ≤ r ∧ r < (s.size : Int) := by
  rcases h with ⟨e, _⟩ | ⟨k, g, e, _⟩
  · omega
  · omega

/-- A bool, the world as it was. -/
def SomeBool (w : World) (e : Ending) (w' : World) : Prop := ∃ r : Bool, e = .returned (.bool r) ∧ w' = w
theorem bytes10_any (p s : ByteArray) (a b c : Int) (w : World) : Calls Try.prog 10 #[.string p, .string s, .int .u8 a, .int .u8 b, .int .u8 c] w (SomeBool w) := by
  go_enter Try.func10, Try.ntmps10
  go_wp2
  all_goals
    go_ret
    exact ⟨_, rfl, rfl⟩

/-- The law's answer: true; no block more. -/
def Yes (w : World) (e : Ending) (w' : World) : Prop := e = .returned (.bool true) ∧ ∃ m, w' = w.drewN m

theorem ctl {x : UInt8} (h : x.toNat < 32) : ((x.toNat : Int) / 32 == 0) = true := by
  have : (x.toNat : Int) / 32 = 0 := by omega
  rw [this]; rfl
theorem noctl {x : UInt8} (h : ¬ x.toNat < 32) : ((x.toNat : Int) / 32 == 0) = false := beq_false_of_ne (by omega)

set_option maxHeartbeats 1600000 in
theorem prefix_walk (p s : ByteArray) (a b c : UInt8) (w : World) : Calls Try.prog 4 #[.string p, .string s, .int .u8 (a.toNat : Int), .int .u8 (b.toNat : Int), .int .u8 (c.toNat : Int)] w (Yes w) := by
  have ha := a.toNat_lt
  have hb := b.toNat_lt
  have hc := c.toNat_lt
  go_enter Try.func4, Try.ntmps4
  go_wp2_with fail
  refine (bytes10_any p s _ _ _ w).mono ?_
  rintro e w1 ⟨r, rfl, hw⟩
  have hw2 := hw.symm
  clear hw
  subst hw2
  cases r with
  | false =>
    go_wp2
    go_ret
    exact ⟨rfl, 0, rfl⟩
  | true =>
    by_cases hp : p.size ≤ 1048576
    · by_cases hs : s.size ≤ 1048576
      · by_cases hps : p.size + s.size ≤ 1048576
        · go_wp2
          go_loop [11] (fun i => ∃ k : Nat, k ≤ p.size ∧ i = .int .i64 k ∧ Clean p a b c k) (fun i => p.size - (intOf i).toNat)
          case atStart => exact ⟨0, Nat.zero_le _, rfl, fun j h h0 => by omega⟩
          case round =>
            obtain ⟨k, hk, rfl, hno⟩ := hrel
            have HN : Hid _ := hno
            clear hno
            by_cases hlt : k < p.size
            · by_cases h1 : p[k].toNat < 32
              · have e1 := ctl h1
                go_wp2
                go_ret
                exact ⟨rfl, 0, rfl⟩
              · have e1 := noctl h1
                by_cases h2 : p[k] = a
                · have e2 : ((p[k].toNat : Int) == (a.toNat : Int)) = true := by rw [h2]; simp
                  clear h2
                  go_wp2
                  go_ret
                  exact ⟨rfl, 0, rfl⟩
                · have e2 := ne_bytes h2
                  have H2 : Hid _ := h2
                  clear h2
                  by_cases h3 : p[k] = b
                  · have e3 : ((p[k].toNat : Int) == (b.toNat : Int)) = true := by rw [h3]; simp
                    clear h3
                    go_wp2
                    go_ret
                    exact ⟨rfl, 0, rfl⟩
                  · have e3 := ne_bytes h3
                    have H3 : Hid _ := h3
                    clear h3
                    by_cases h4 : p[k] = c
                    · have e4 : ((p[k].toNat : Int) == (c.toNat : Int)) = true := by rw [h4]; simp
                      clear h4
                      go_wp2
                      go_ret
                      exact ⟨rfl, 0, rfl⟩
                    · have e4 := ne_bytes h4
                      have H4 : Hid (¬ hit a b c p[k]) := by
                        rintro (h | h | h | h)
                        · exact h1 h
                        · exact H2.out h
                        · exact H3.out h
                        · exact h4 h
                      clear h4
                      go_wp2
                      go_round
                      case rel => exact ⟨k + 1, by omega, by go_num, clean_step hlt HN.out H4.out⟩
                      case measure => simp [intOf]; omega
            · have hks : k = p.size := by omega
              subst hks
              go_wp2_with fail
              refine (index_any s a b c w (by omega)).mono ?_
              rintro e w1 ⟨r, rfl, ⟨m, rfl⟩, hf⟩
              have hran := first_range hf
              have hfa := first_append HN.out hf
              have hr1 := hran.1
              have hr2 := hran.2
              have hsz : (p ++ s).size ≤ 2097152 := by rw [ByteArray.size_append]; omega
              have HF : Hid _ := hfa
              clear hfa hf hran
              by_cases hneg : r < 0
              · go_wp2_with fail
                refine (index_any (p ++ s) a b c (w.drewN m) hsz).mono ?_
                rintro e w2 ⟨r2, rfl, ⟨m2, rfl⟩, hf2⟩
                have hr := first_unique hf2 HF.out
                rw [if_pos hneg] at hr
                subst hr
                clear hf2 HF
                go_wp2
                go_ret
                exact ⟨rfl, m + m2, rfl⟩
              · go_wp2_with fail
                refine (index_any (p ++ s) a b c (w.drewN m) hsz).mono ?_
                rintro e w2 ⟨r2, rfl, ⟨m2, rfl⟩, hf2⟩
                have hr := first_unique hf2 HF.out
                rw [if_neg (by omega)] at hr
                subst hr
                clear hf2 HF
                go_wp2
                go_ret
                exact ⟨rfl, m + m2, rfl⟩
        · go_wp2
          go_ret
          exact ⟨rfl, 0, rfl⟩
      · go_wp2
        go_ret
        exact ⟨rfl, 0, rfl⟩
    · go_wp2
      go_ret
      exact ⟨rfl, 0, rfl⟩
end Go.Proofs.Qxb6605194a
