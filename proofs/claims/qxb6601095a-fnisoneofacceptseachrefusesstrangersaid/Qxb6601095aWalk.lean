/-
  SEAT b6601095a: the walk of 'FnIsOneOfAcceptsEachRefusesStranger'.
-/
import Derived.Test.Qxb6601095aCopy
namespace Go.Proofs.Qxb6601095a
open Go.RowKit

/-- The law's answer: true; nothing old has turned. -/
def Yes (w : World) (e : Ending) (w' : World) : Prop := e = .returned (.bool true) ∧ Below w.heap.size w w'

theorem size_of_bytes {s t : ByteArray} (h : s.toList = t.toList) : s.size = t.size := by
  rw [ByteArray.toList_eq, ByteArray.toList_eq] at h
  have := congrArg List.length h
  simpa using this

set_option maxHeartbeats 1600000 in
theorem walk (a : Option Addr) (cap : Nat) (ss : List ByteArray) (s : ByteArray) (w : World) (hs : Strs w a ss) :
    Calls Try.prog 4 #[.slice a ss.length cap, .string s] w (Yes w) := by
  go_enter Try.func4, Try.ntmps4
  go_wp2_with fail
  refine (bytes_any a cap ss s w hs).mono ?_
  rintro e w1 ⟨r, rfl, hw⟩
  have hw2 := hw.symm
  clear hw
  subst hw2
  cases r with
  | false =>
    go_wp2
    go_ret
    exact ⟨rfl, Below.refl _ _⟩
  | true =>
    by_cases hsz : s.size ≤ 1048576
    · by_cases hla : ss.length ≤ 4096
      · go_wp2_with fail
        refine (names_any a cap ss w hs hla).mono ?_
        rintro e w1 ⟨z1, rfl, hw⟩
        have hw2 := hw.symm
        clear hw
        subst hw2
        go_wp2_with fail
        · go_ret
          exact ⟨rfl, Below.refl _ _⟩
        · refine (copy_any a cap ss w hs hla).mono ?_
          rintro e w2 ⟨a1, c1, rfl, hs2, hb⟩
          have HB : Hid _ := hb
          clear hs hb
          go_wp2_with fail
          go_loop [5] (fun i => ∃ k : Nat, k ≤ ss.length ∧ i = .int .i64 k) (fun i => ss.length - (intOf i).toNat)
          case atStart => exact ⟨0, Nat.zero_le _, rfl⟩
          case round =>
            obtain ⟨k, hk, rfl⟩ := hrel
            by_cases hlt : k < ss.length
            · obtain ⟨b, off, rfl, hc⟩ := hs2 k hlt
              have hmem : ∀ (x : Ending) (w' : World), Member (ss.getD k ByteArray.empty) ss w2 x w' → x = .returned (.bool true) ∧ w2 = w' := by
                rintro x w' ⟨r, hx, hw, _, h2⟩
                cases r with
                | true => exact ⟨hx, hw.symm⟩
                | false => exact absurd rfl (h2 rfl k hlt)
              obtain ⟨t, hse⟩ : ∃ t, t = ss.getD k ByteArray.empty := ⟨_, rfl⟩
              rw [← hse] at hc hmem
              have HM : Hid _ := hmem
              have HS : Hid _ := hs2
              clear hse hmem hs2
              go_wp2_with fail
              refine (zIsOneOf_any t _ c1 ss w2 HS.out hla).mono ?_
              intro x w' hx
              obtain ⟨rfl, rfl⟩ := HM.out x w' hx
              clear hx
              go_wp2
              go_round
              case rel => exact ⟨k + 1, by omega, by go_num⟩
              case measure => simp [intOf]; omega
            · have hks : k = ss.length := by omega
              subst hks
              go_wp2_with fail
              go_loop [6, 7] (fun l i => ∃ k L : Nat, k ≤ ss.length ∧ i = .int .i64 k ∧ l = .int .i64 L ∧ Hid (∀ j, j < k → (ss.getD j ByteArray.empty).size ≤ L)) (fun _ i => ss.length - (intOf i).toNat)
              case atStart => exact ⟨0, 0, Nat.zero_le _, rfl, rfl, fun j h => by omega⟩
              case round =>
                obtain ⟨k, L, hk, rfl, rfl, hno⟩ := hrel
                by_cases hlt : k < ss.length
                · obtain ⟨b, off, rfl, hc⟩ := hs2 k hlt
                  obtain ⟨t, hse⟩ : ∃ t, t = ss.getD k ByteArray.empty := ⟨_, rfl⟩
                  rw [← hse] at hc
                  have HE : Hid _ := hse
                  have HS : Hid _ := hs2
                  clear hse hs2
                  by_cases hgt : L < t.size
                  · go_wp2
                    go_round
                    case rel =>
                      refine ⟨k + 1, t.size, by omega, by go_num, rfl, fun j hj => ?_⟩
                      by_cases hjk : j = k
                      · subst hjk; rw [← HE.out]; exact Nat.le_refl _
                      · have := hno.out j (by omega); omega
                    case measure => simp [intOf]; omega
                  · go_wp2
                    go_round
                    case rel =>
                      refine ⟨k + 1, L, by omega, by go_num, rfl, fun j hj => ?_⟩
                      by_cases hjk : j = k
                      · subst hjk; rw [← HE.out]; omega
                      · exact hno.out j (by omega)
                    case measure => simp [intOf]; omega
                · have hks : k = ss.length := by omega
                  subst hks
                  by_cases hle : s.size ≤ L
                  · go_wp2
                    go_ret
                    exact ⟨rfl, HB.out⟩
                  · have HM : Hid (∀ (x : Ending) (w' : World), Member s ss w2 x w' → x = .returned (.bool false) ∧ w2 = w') := by
                      rintro x w' ⟨r, hx, hw, h1, _⟩
                      cases r with
                      | false => exact ⟨hx, hw.symm⟩
                      | true =>
                        obtain ⟨i, hi, h⟩ := h1 rfl
                        have e1 := size_of_bytes h
                        have e2 := hno.out i hi
                        omega
                    go_wp2_with fail
                    refine (zIsOneOf_any s a1 c1 ss w2 hs2 hla).mono ?_
                    intro x w' hx
                    obtain ⟨rfl, rfl⟩ := HM.out x w' hx
                    clear hx
                    go_wp2
                    go_ret
                    exact ⟨rfl, HB.out⟩
      · go_wp2
        go_ret
        exact ⟨rfl, Below.refl _ _⟩
    · go_wp2
      go_ret
      exact ⟨rfl, Below.refl _ _⟩
end Go.Proofs.Qxb6601095a
