/-
  SEAT b6601081a: the walk of 'FnSeparateRowSplitsBack'.
-/
import Derived.Test.Qxb6601081aSplit
namespace Go.Proofs.Qxb6601081a
open Go.RowKit

/-- The law's answer: true; nothing old has turned. -/
def Holds1 (w : World) (e : Ending) (w' : World) : Prop := e = .returned (.bool true) ∧ Below w.heap.size w w'

/-- No cell among the first k holds a comma. -/
def Clean (ss : List ByteArray) (k : Nat) : Prop := ∀ i, i < k → ∀ j (h : j < (ss.getD i ByteArray.empty).size), (ss.getD i ByteArray.empty)[j].toNat ≠ 44

/-- The call that compares a cut of the row with its cell. -/
theorem cut_call {W : World} {g cp T m : Nat} {s : ByteArray} (hl : s.size ≤ 1048576)
    (hcut : ∀ i (hi : i < s.size), ∃ b off, (if cp = T then some (⟨g, 0, none⟩ : Addr) else (some (⟨g, 0, none⟩ : Addr)).map (·.add (T * 1))) = some ⟨b, off, none⟩ ∧ W.cell? ⟨b, off + i, none⟩ = some (.int .u8 (s[i].toNat : Int))) (hT : T < cp) (n : Nat) :
    Calls Try.prog 13 #[.slice (some ⟨g, T, none⟩) s.size (cp - T), .string s] (W.drewN (m + n)) fun e w' => e = .returned (.bool true) ∧ ∃ j, w' = W.drewN (m + j) := by
  refine (bytesEq_any (some ⟨g, T, none⟩) (cp - T) s (W.drewN (m + n)) hl (fun i hi => ?_)).mono fun e w' ⟨he, j, hw⟩ => ⟨he, n + j, by rw [hw, World.drewN_drewN, Nat.add_assoc]⟩
  obtain ⟨b, off, e1, e2⟩ := hcut i hi
  rw [if_neg (by omega), Option.map_some, Nat.mul_one] at e1
  have e3 : (⟨g, 0, none⟩ : Addr).add T = ⟨g, T, none⟩ := by unfold Addr.add; split <;> simp_all
  rw [e3] at e1
  exact ⟨b, off, e1, e2⟩
theorem cut_none {W : World} {m : Nat} {s : ByteArray} (hz : s.size = 0) (x : Option Addr) (c' n : Nat) :
    Calls Try.prog 13 #[.slice x s.size c', .string s] (W.drewN (m + n)) fun e w' => e = .returned (.bool true) ∧ ∃ j, w' = W.drewN (m + j) :=
  (bytesEq_any x c' s (W.drewN (m + n)) (by omega) (fun i hi => by omega)).mono fun e w' ⟨he, j, hw⟩ => ⟨he, n + j, by rw [hw, World.drewN_drewN, Nat.add_assoc]⟩

set_option maxHeartbeats 1600000 in
theorem splits_walk (a : Option Addr) (cap : Nat) (ss : List ByteArray) (w : World) (hs : Strs w a ss) :
    Calls Try.prog 4 #[.slice a ss.length cap] w (Holds1 w) := by
  go_enter Try.func4, Try.ntmps4
  go_wp2_with fail
  refine (bytes1_any a cap ss w hs).mono ?_
  rintro e w1 ⟨r, rfl, hw, hr⟩
  have hw2 := hw.symm
  clear hw
  subst hw2
  cases r with
  | false =>
    clear hr
    go_wp2
    go_ret
    exact ⟨rfl, Below.refl _ _⟩
  | true =>
    have hbd := hr rfl
    clear hr
    by_cases hla : ss.length ≤ 65536
    · go_wp2_with fail
      refine (cells_any a cap ss w hs hla).mono ?_
      rintro e w1 ⟨z1, rfl, hw⟩
      have hw2 := hw.symm
      clear hw
      subst hw2
      go_wp2_with fail
      · go_ret
        exact ⟨rfl, Below.refl _ _⟩
      · go_loop [3] (fun i => ∃ k : Nat, k ≤ ss.length ∧ i = .int .i64 k ∧ Clean ss k) (fun i => ss.length - (intOf i).toNat)
        case atStart => exact ⟨0, Nat.zero_le _, rfl, fun i h => by omega⟩
        case round =>
          obtain ⟨k, hk, rfl, hno⟩ := hrel
          by_cases hlt : k < ss.length
          · obtain ⟨b, off, rfl, hc⟩ := hs k hlt
            have hsz := tot_get ss k hlt
            have HC : Hid (∀ x, Comma (ss.getD k ByteArray.empty) w x w → ∃ r : Bool, x = .returned (.bool r) ∧ (r = false → Clean ss (k + 1))) := by
              rintro x ⟨r, hx, _, h⟩
              refine ⟨r, hx, fun hr i hi => ?_⟩
              by_cases hik : i = k
              · subst hik; exact h hr
              · exact hno i (by omega)
            obtain ⟨s, hse⟩ : ∃ s, s = ss.getD k ByteArray.empty := ⟨_, rfl⟩
            rw [← hse] at hc hsz HC
            clear hse hs hno
            go_wp2_with fail
            refine (hasComma_any s w (by omega)).mono ?_
            intro x w1 hx
            obtain rfl : w = w1 := by obtain ⟨_, _, h, _⟩ := hx; exact h.symm
            obtain ⟨r, rfl, hr⟩ := HC.out x hx
            clear hx HC
            cases r with
            | true =>
              clear hr
              go_wp2
              go_ret
              exact ⟨rfl, Below.refl _ _⟩
            | false =>
              have hcl : Hid _ := hr rfl
              clear hr
              go_wp2
              go_round
              case rel => exact ⟨k + 1, by omega, by go_num, hcl.out⟩
              case measure => simp [intOf]; omega
          · have hks : k = ss.length := by omega
            subst hks
            go_wp2_with fail
            refine (copy_any a cap ss w hs hla).mono ?_
            rintro e w2 ⟨a1, c1, rfl, hs2, hb3⟩
            go_wp2_with fail
            go_loopw [4, 5, 6] (fun v c i wr => ∃ k : Nat, k ≤ ss.length ∧ i = .int .i64 k ∧ c = .int .i64 k ∧ wr.ownsRow w2.heap.size 5 1 v (joinL (ss.take k)).length (Bc (joinL (ss.take k))) ∧ Below w2.heap.size w2 wr) (fun _ _ i _ => ss.length - (intOf i).toNat)
            case atStart => exact ⟨0, Nat.zero_le _, rfl, rfl, World.ownsRow_nil _ _ _ _, Below.refl _ _⟩
            case round =>
              obtain ⟨k, hk, rfl, rfl, hown, hnx⟩ := hrel
              have hsz := hnx.size
              clear hs
              by_cases hlt : k < ss.length
              · obtain ⟨b, off, rfl, hc0⟩ := hs2 k hlt
                have hlw := World.block_lt_of_cell? w2 _ hc0
                have hsn := joinL_snoc ss k hlt
                have hjl := joinL_length ss k
                have htg := tot_get ss k hlt
                obtain ⟨s, hse⟩ : ∃ s, s = ss.getD k ByteArray.empty := ⟨_, rfl⟩
                obtain ⟨L, hL⟩ : ∃ L, L = joinL (ss.take k) := ⟨_, rfl⟩
                rw [← hse] at hc0 hsn htg
                rw [← hL] at hjl hsn hown
                have HS : Hid _ := hsn
                have HC : Hid _ := hc0
                have hsl := sepL_length L k
                obtain ⟨ao, cp, rfl⟩ := own_shape hown
                clear hse hL hsn hc0
                go_wp2_with fail
                refine (separate_any w2.heap.size ao cp L k wr hown hsz (by omega) (by omega)).mono ?_
                rintro e w3 ⟨ao3, cp3, rfl, hown3, hb3'⟩
                have hnx3 := hnx.trans hb3'
                have hc3 := (hnx3.cell (p := ⟨b, off + k, none⟩) hlw).trans HC.out
                clear hown hb3' hnx
                go_wp2_with fail
                refine (appendStr_any w2.heap.size _ (sepL L k) s w3 hown3 hnx3.size (by omega)).mono ?_
                rintro e w4 ⟨v4, rfl, hown4, hb4⟩
                have R1 : Hid _ := row_step HS.out hown4
                have R2 : Hid _ := hnx3.trans hb4
                clear hown3 hnx3 hc3 hown4 hb4 HS HC
                go_wp2
                go_roundw
                case rel => exact ⟨k + 1, by omega, by go_num, by go_num, R1.out, R2.out⟩
                case measure => simp [intOf]; omega
              · have hks : k = ss.length := by omega
                subst hks
                rw [List.take_length] at hown
                obtain ⟨ao, cp, rfl⟩ := own_shape hown
                have hs3 := hs2.below hnx
                have HW : Hid _ := hb3.trans (hnx.mono hb3.size)
                clear hs2 hb3 hnx hsz
                obtain ⟨W, rfl⟩ : ∃ W : World, W = wr := ⟨_, rfl⟩
                by_cases h0 : ss.length = 0
                · have hn : ss = [] := List.eq_nil_of_length_eq_zero h0
                  subst hn
                  go_wp2
                  go_ret
                  exact ⟨rfl, HW.out⟩
                · have hJ := join_len ss
                  have hSb := st_bound ss
                  have hra := row_addr hown
                  have hcp := hra.1
                  have hl0 : ((ss.length : Int) == 0) = false := beq_false_of_ne (by omega)
                  go_wp2_with fail
                  go_loopw [7, 8, 9] (fun K S P wr => ∃ k p m : Nat, k ≤ ss.length ∧ K = .int .i64 k ∧ S = .int .i64 (st ss k) ∧ P = .int .i64 p ∧ wr = W.drewN m ∧ st ss k ≤ p ∧ (k < ss.length → p ≤ st ss k + (ss.getD k ByteArray.empty).size) ∧ (k = ss.length → p = (sufL ss).length)) (fun _ _ P _ => (sufL ss).length - (intOf P).toNat)
                  case atStart => exact ⟨0, 0, 0, Nat.zero_le _, rfl, rfl, rfl, rfl, Nat.le_refl _, fun _ => Nat.zero_le _, fun h => absurd h.symm h0⟩
                  case round =>
                    obtain ⟨k, p, m, hk, rfl, rfl, rfl, rfl, hp1, hp2, hp3⟩ := hrel
                    by_cases hlt : k < ss.length
                    · have hpe := hp2 hlt
                      have h1 := st_succ ss k hlt
                      have h2 := st_le ss (k + 1)
                      have hcut := cut_cells hlt hown
                      have hcell := fun j hj => join_at_cell ss k j hlt hj
                      have hcom := fun h => join_at_comma ss k h
                      have hst := st_all ss
                      have hno' := hno k hlt
                      obtain ⟨b, off, rfl, hc0⟩ := hs3 k hlt
                      clear hp2 hp3 hs3
                      have hsz := tot_get ss k hlt
                      obtain ⟨s, hse⟩ : ∃ s, s = ss.getD k ByteArray.empty := ⟨_, rfl⟩
                      have HE : Hid _ := hse
                      rw [← hse] at hc0 hpe h1 hcut hcom
                      by_cases hB1 : p < st ss k + s.size
                      · obtain ⟨j, rfl⟩ : ∃ j, p = st ss k + j := ⟨p - st ss k, by omega⟩
                        obtain ⟨g, rfl⟩ := hra.2 (by omega)
                        have hjs : j < (ss.getD k ByteArray.empty).size := by rw [← hse]; omega
                        have hcc := row_cell hown (hcell j hjs)
                        have hne := hno' j hjs
                        obtain ⟨c, hce⟩ : ∃ c, c = ((ss.getD k ByteArray.empty)[j]).toNat := ⟨_, rfl⟩
                        rw [← hce] at hcc hne
                        have hne2 : ((c : Int) == 44) = false := by simp; omega
                        have hpj : st ss k + j < (joinL ss).length := by omega
                        have hbig : (joinL ss).length ≤ 1048576 := by omega
                        have hsl : (joinL ss).length + 1 ≤ (sufL ss).length := by omega
                        clear hra hcut hcell hcom hst hno' hno hown hce hse h1 h2 hc0 hJ hSb hne h0 hsz
                        go_wp2
                        go_roundw
                        case rel => exact ⟨k, st ss k + j + 1, m, by omega, rfl, rfl, by go_num, rfl, by omega, fun _ => by rw [← HE.out]; omega, fun h => by omega⟩
                        case measure => simp [intOf]; omega
                      · obtain rfl : p = st ss k + s.size := by omega
                        have hpj : st ss k + s.size ≤ (joinL ss).length := by omega
                        have hbig : (joinL ss).length ≤ 1048576 := by omega
                        have hsl : (joinL ss).length + 1 ≤ (sufL ss).length := by omega
                        have hss : s.size ≤ 1048576 := by omega
                        have hlt2 : (k : Int) < (ss.length : Int) := by omega
                        have hcp1 : ((st ss k + s.size : Nat) : Int) ≤ (cp : Int) := by omega
                        have HS : Hid _ := h1
                        have HF : Hid (k + 1 = ss.length → st ss k + s.size + 1 = (sufL ss).length) := fun h => by rw [← h1, h, hst]
                        by_cases hB2 : k + 1 < ss.length
                        · have hpj2 : st ss k + s.size < (joinL ss).length := by
                            have := st_succ ss (k + 1) hB2
                            have := st_le ss (k + 1 + 1)
                            omega
                          obtain ⟨g, rfl⟩ := hra.2 (by omega)
                          have hcc := row_cell hown (hcom hB2)
                          have hbe := cut_call (m := m) hss hcut (by omega)
                          clear hra hcell hcom hst hno' hno hown hse h1 h2 hJ hSb h0 hsz hpe hB1 hp1 hcut
                          go_wp2_with fail
                          go_quiet ((go_at_call 13; exact hbe _))
                          go_wp2
                          go_roundw
                          case rel => exact ⟨k + 1, st ss k + s.size + 1, _, by omega, by go_num, by rw [HS.out]; go_num, by go_num, rfl, by rw [HS.out]; omega, fun _ => by rw [HS.out]; omega, HF.out⟩
                          case measure => simp [intOf]; omega
                        · have hpj2 : (joinL ss).length ≤ st ss k + s.size := by
                            have := HF.out (by omega)
                            omega
                          by_cases hz : 0 < s.size
                          · obtain ⟨g, rfl⟩ := hra.2 (by omega)
                            have hbe := cut_call (m := m) hss hcut (by omega)
                            clear hra hcell hcom hst hno' hno hown hse h1 h2 hJ hSb h0 hsz hpe hB1 hp1 hcut
                            go_wp2_with fail
                            go_quiet ((go_at_call 13; (rw [show (joinL ss).length - st ss k = s.size from by omega]); exact hbe _))
                            go_wp2
                            go_roundw
                            case rel => exact ⟨k + 1, st ss k + s.size + 1, _, by omega, by go_num, by rw [HS.out]; go_num, by go_num, rfl, by rw [HS.out]; omega, fun _ => by rw [HS.out]; omega, HF.out⟩
                            case measure => simp [intOf]; omega
                          · have hbe := fun (x : Option Addr) (c' n : Nat) => cut_none (W := W) (m := m) (s := s) (by omega) x c' n
                            clear hra hcell hcom hst hno' hno hown hse h1 h2 hJ hSb h0 hsz hpe hB1 hp1 hcut
                            go_wp2_with fail
                            go_quiet ((go_at_call 13; (rw [show (joinL ss).length - st ss k = s.size from by omega]); exact hbe _ _ _))
                            go_wp2
                            go_roundw
                            case rel => exact ⟨k + 1, st ss k + s.size + 1, _, by omega, by go_num, by rw [HS.out]; go_num, by go_num, rfl, by rw [HS.out]; omega, fun _ => by rw [HS.out]; omega, HF.out⟩
                            case measure => simp [intOf]; omega
                    · have hks : k = ss.length := by omega
                      have hpp := hp3 hks
                      have hpj : (joinL ss).length < p := by omega
                      subst hks
                      clear hp1 hp2 hp3 hpp
                      go_wp2
                      go_ret
                      exact ⟨rfl, below_drewN HW.out m⟩
    · go_wp2
      go_ret
      exact ⟨rfl, Below.refl _ _⟩
end Go.Proofs.Qxb6601081a
