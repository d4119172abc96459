/-
  SEAT b6601081a: the walk of 'FnSeparateReusedRowsJoinCells'.
-/
import Derived.Test.Qxb6601081aBuild
import Derived.Deep.RegionWith
namespace Go.Proofs.Qxb6601081a
open Go.RowKit

/-- The law's answer: true; nothing old has turned. -/
def Yes (w : World) (e : Ending) (w' : World) : Prop := e = .returned (.bool true) ∧ Below w.heap.size w w'

theorem own_cut {w : World} {B n cp : Nat} {e : TypeId} {ao : Option Addr} {xs : List Value} (h : w.ownsRow B e 1 (.slice ao n cp) n xs) : w.ownsRow B e 1 (.slice ao 0 cp) 0 [] := by
  rcases h.2 with ⟨h0, _⟩ | ⟨g, cap, cur, hv, h1, hh, _, h2, h3, _⟩
  · cases h0
    exact World.ownsRow_nil w B e 1
  · cases hv
    exact ⟨rfl, .inr ⟨g, cp, cur, rfl, h1, hh, Nat.zero_le _, h2, h3, by simp⟩⟩

theorem join_at (a : Option Addr) (cap : Nat) {ss : List ByteArray} {w wx : World} (hs : Strs w a ss) (hx : Below w.heap.size w wx) (hl : ss.length + tot ss ≤ 1048576) :
    Calls Try.prog 10 #[.slice a ss.length cap] wx fun e w' => e = .returned (.string ⟨(joinL ss).toArray⟩) ∧ Below w.heap.size w w' :=
  (join_any a cap ss wx (hs.below hx) hl).mono fun _ _ h => ⟨h.1, hx.trans (h.2.mono hx.size)⟩

set_option maxHeartbeats 1600000 in
theorem reused_walk (a a' : Option Addr) (cap cap' : Nat) (ss tt : List ByteArray) (w : World) (hs : Strs w a ss) (ht : Strs w a' tt) :
    Calls Try.prog 3 #[.slice a ss.length cap, .slice a' tt.length cap'] w (Yes w) := by
  go_enter Try.func3, Try.ntmps3
  go_wp2_with fail
  refine (bytes2_any a a' cap cap' ss tt w hs ht).mono ?_
  rintro e w1 ⟨r, rfl, hw, hr⟩
  have hw2 := hw.symm
  clear hw
  subst hw2
  cases r with
  | false =>
    clear hr
    go_wp2
    go_ret
    exact ⟨rfl, Below.refl _ _⟩
  | true =>
    have hbd := hr rfl
    clear hr
    by_cases hla : ss.length ≤ 65536
    · by_cases hlb : tt.length ≤ 65536
      · go_wp2_with fail
        refine (cells_any a cap ss w hs hla).mono ?_
        rintro e w1 ⟨z1, rfl, hw⟩
        have hw2 := hw.symm
        clear hw
        subst hw2
        go_wp2_with fail
        refine (cells_any a' cap' tt w ht hlb).mono ?_
        rintro e w1 ⟨z2, rfl, hw⟩
        have hw2 := hw.symm
        clear hw
        subst hw2
        go_wp2_with fail
        · go_ret
          exact ⟨rfl, Below.refl _ _⟩
        · refine (copy_any a cap ss w hs hla).mono ?_
          rintro e w1 ⟨a1, c1, rfl, hs1, hb1⟩
          have ht1 := ht.below hb1
          go_wp2_with fail
          refine (copy_any a' cap' tt w1 ht1 hlb).mono ?_
          rintro e w2 ⟨a2, c2, rfl, ht2, hb2⟩
          have hs2 := hs1.below hb2
          have hb3 := hb1.trans (hb2.mono hb1.size)
          clear hs1 ht1 hb1 hb2 hs ht
          go_wp2_with fail
          go_loopw [5, 6, 7] (fun v c i wr => ∃ k : Nat, k ≤ ss.length ∧ i = .int .i64 k ∧ c = .int .i64 k ∧ wr.ownsRow w2.heap.size 5 1 v (joinL (ss.take k)).length (Bc (joinL (ss.take k))) ∧ Below w2.heap.size w2 wr) (fun _ _ i _ => ss.length - (intOf i).toNat)
          case atStart => exact ⟨0, Nat.zero_le _, rfl, rfl, World.ownsRow_nil _ _ _ _, Below.refl _ _⟩
          case round =>
            obtain ⟨k, hk, rfl, rfl, hown, hnx⟩ := hrel
            have hsz := hnx.size
            by_cases hlt : k < ss.length
            · obtain ⟨b, off, rfl, hc0⟩ := hs2 k hlt
              have hlw := World.block_lt_of_cell? w2 _ hc0
              have hsn := joinL_snoc ss k hlt
              have hjl := joinL_length ss k
              have htg := tot_get ss k hlt
              obtain ⟨s, hse⟩ : ∃ s, s = ss.getD k ByteArray.empty := ⟨_, rfl⟩
              obtain ⟨L, hL⟩ : ∃ L, L = joinL (ss.take k) := ⟨_, rfl⟩
              rw [← hse] at hc0 hsn htg
              rw [← hL] at hjl hsn hown
              have HS : Hid _ := hsn
              have HC : Hid _ := hc0
              have hsl := sepL_length L k
              obtain ⟨ao, cp, rfl⟩ := own_shape hown
              clear hse hL hsn hc0
              go_wp2_with fail
              refine (separate_any w2.heap.size ao cp L k wr hown hsz (by omega) (by omega)).mono ?_
              rintro e w3 ⟨ao3, cp3, rfl, hown3, hb3'⟩
              have hnx3 := hnx.trans hb3'
              have hc3 := (hnx3.cell (p := ⟨b, off + k, none⟩) hlw).trans HC.out
              clear hown hb3' hnx
              go_wp2_with fail
              refine (appendStr_any w2.heap.size _ (sepL L k) s w3 hown3 hnx3.size (by omega)).mono ?_
              rintro e w4 ⟨v4, rfl, hown4, hb4⟩
              have R1 : Hid _ := row_step HS.out hown4
              have R2 : Hid _ := hnx3.trans hb4
              clear hown3 hnx3 hc3 hown4 hb4 HS HC
              go_wp2
              go_roundw
              case rel => exact ⟨k + 1, by omega, by go_num, by go_num, R1.out, R2.out⟩
              case measure => simp [intOf]; omega
            · have hks : k = ss.length := by omega
              subst hks
              rw [List.take_length] at hown
              have hcv := conv_own hown
              obtain ⟨ao, cp, rfl⟩ := own_shape hown
              obtain ⟨wo, rfl⟩ : ∃ wo : World, wo = wr := ⟨_, rfl⟩
              have hown0 := own_cut hown
              clear hown
              go_wp2_with fail
              clear hcv
              go_loopw [5, 6, 9] (fun v c i wr => ∃ k : Nat, k ≤ tt.length ∧ i = .int .i64 k ∧ c = .int .i64 k ∧ wr.ownsRow w2.heap.size 5 1 v (joinL (tt.take k)).length (Bc (joinL (tt.take k))) ∧ Below w2.heap.size w2 wr) (fun _ _ i _ => tt.length - (intOf i).toNat)
              case atStart => exact ⟨0, Nat.zero_le _, rfl, rfl, hown0, hnx⟩
              case round =>
                clear hnx hsz hown0 hk hlt
                obtain ⟨k, hk, rfl, rfl, hown, hnx⟩ := hrel
                have hsz := hnx.size
                by_cases hlt : k < tt.length
                · obtain ⟨b, off, rfl, hc0⟩ := ht2 k hlt
                  have hlw := World.block_lt_of_cell? w2 _ hc0
                  have hsn := joinL_snoc tt k hlt
                  have hjl := joinL_length tt k
                  have htg := tot_get tt k hlt
                  obtain ⟨s, hse⟩ : ∃ s, s = tt.getD k ByteArray.empty := ⟨_, rfl⟩
                  obtain ⟨L, hL⟩ : ∃ L, L = joinL (tt.take k) := ⟨_, rfl⟩
                  rw [← hse] at hc0 hsn htg
                  rw [← hL] at hjl hsn hown
                  have HS : Hid _ := hsn
                  have HC : Hid _ := hc0
                  have hsl := sepL_length L k
                  obtain ⟨ao, cp, rfl⟩ := own_shape hown
                  clear hse hL hsn hc0
                  go_wp2_with fail
                  refine (separate_any w2.heap.size ao cp L k wr hown hsz (by omega) (by omega)).mono ?_
                  rintro e w3 ⟨ao3, cp3, rfl, hown3, hb3'⟩
                  have hnx3 := hnx.trans hb3'
                  have hc3 := (hnx3.cell (p := ⟨b, off + k, none⟩) hlw).trans HC.out
                  clear hown hb3' hnx
                  go_wp2_with fail
                  refine (appendStr_any w2.heap.size _ (sepL L k) s w3 hown3 hnx3.size (by omega)).mono ?_
                  rintro e w4 ⟨v4, rfl, hown4, hb4⟩
                  have R1 : Hid _ := row_step HS.out hown4
                  have R2 : Hid _ := hnx3.trans hb4
                  clear hown3 hnx3 hc3 hown4 hb4 HS HC
                  go_wp2
                  go_roundw
                  case rel => exact ⟨k + 1, by omega, by go_num, by go_num, R1.out, R2.out⟩
                  case measure => simp [intOf]; omega
                · have hks : k = tt.length := by omega
                  subst hks
                  rw [List.take_length] at hown
                  have hs3 := hs2.below hnx
                  have ht3 := ht2.below hnx
                  have HW : Hid _ := hb3.trans (hnx.mono hb3.size)
                  have hj1 := fun (wx : World) (hx : Below wr.heap.size wr wx) => join_at a1 c1 hs3 hx (by omega)
                  have hj2 := fun (wx : World) (hx : Below wr.heap.size wr wx) => join_at a2 c2 ht3 hx (by omega)
                  have hcv := fun (wx : World) (hx : Below wr.heap.size wr wx) => conv_own (own_below hown hx)
                  clear hs3 ht3 hown hs2 ht2 hnx hsz hb3
                  go_wp2_with fail
                  go_region_with (first | (go_at_call_of 10 (Value.slice a1 ss.length c1); refine (hj1 _ ?_).mono ?_; exact (Below.refl _ _).drew; rintro e w5 ⟨rfl, hb5⟩) | (go_at_call_of 10 (Value.slice a2 tt.length c2); refine (hj2 _ ?_).mono ?_; assumption; rintro e w6 ⟨rfl, hb6⟩))
                  all_goals
                    go_wp2
                    go_ret
                    exact ⟨rfl, HW.out.trans ((by assumption : Below wr.heap.size wr _).mono HW.out.size)⟩
      · go_wp2
        go_ret
        exact ⟨rfl, Below.refl _ _⟩
    · go_wp2
      go_ret
      exact ⟨rfl, Below.refl _ _⟩
end Go.Proofs.Qxb6601081a
