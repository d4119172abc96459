/-
  SEAT b6601081a: the two readers of the second law: a comma in a text; bytes against a text.
-/
import Derived.Test.Qxb6601081aReads
import Derived.Deep.QuietTactic
import Derived.BigQuiet
namespace Go.Proofs.Qxb6601081a
open Go.RowKit

/-- Whether the text holds a comma. -/
def Comma (s : ByteArray) (w : World) (e : Ending) (w' : World) : Prop := ∃ r : Bool, e = .returned (.bool r) ∧ w' = w ∧ (r = false → ∀ j (h : j < s.size), s[j].toNat ≠ 44)

set_option maxHeartbeats 400000 in
theorem hasComma_any (s : ByteArray) (w : World) (hl : s.size ≤ 1048576) : Calls Try.prog 12 #[.string s] w (Comma s w) := by
  go_enter Try.func12, Try.ntmps12
  go_wp2
  go_loop [3] (fun i => ∃ k : Nat, k ≤ s.size ∧ i = .int .i64 k ∧ Hid (∀ j (h : j < s.size), j < k → s[j].toNat ≠ 44)) (fun i => s.size - (intOf i).toNat)
  case atStart => exact ⟨0, Nat.zero_le _, rfl, fun j h h0 => by omega⟩
  case round =>
    obtain ⟨k, hk, rfl, hno⟩ := hrel
    by_cases hlt : k < s.size
    · go_wp2
      · go_ret
        exact ⟨true, rfl, rfl, fun h => by cases h⟩
      · go_round
        case rel =>
          refine ⟨k + 1, by omega, by go_num, fun j h hj => ?_⟩
          by_cases hjk : j = k
          · subst hjk
            have h1 : ((s[j].toNat : Int) == 44) = false := by assumption
            simp at h1
            omega
          · exact hno.out j h (by omega)
        case measure => simp [intOf]; omega
    · go_wp2
      go_ret
      exact ⟨false, rfl, rfl, fun _ j h => hno.out j h (by omega)⟩

def Quiet (w : World) (e : Ending) (w' : World) : Prop := e = .returned (.bool true) ∧ ∃ m, w' = w.drewN m
set_option maxHeartbeats 400000 in
theorem bytesEq_any (ao : Option Addr) (cap : Nat) (s : ByteArray) (w : World) (hl : s.size ≤ 1048576) (hc : ∀ i (h : i < s.size), ∃ b off, ao = some ⟨b, off, none⟩ ∧ w.cell? ⟨b, off + i, none⟩ = some (.int .u8 (s[i].toNat : Int))) :
    Calls Try.prog 13 #[.slice ao s.size cap, .string s] w (Quiet w) := by
  go_enter Try.func13, Try.ntmps13
  go_wp2
  go_loopw [5] (fun i wr => ∃ k : Nat, ∃ m : Nat, k ≤ s.size ∧ i = .int .i64 k ∧ wr = w.drewN m) (fun i _ => s.size - (intOf i).toNat)
  case atStart => exact ⟨0, 0, Nat.zero_le _, rfl, rfl⟩
  case round =>
    obtain ⟨k, m, hk, rfl, rfl⟩ := hrel
    by_cases hlt : k < s.size
    · obtain ⟨b, off, rfl, hk1⟩ := hc k hlt
      have hk2 : (k : Int) < (s.size : Int) := by omega
      clear hc
      go_wp2
      go_quiet (fail)
      go_wp2
      go_roundw
      case rel => exact ⟨k + 1, _, by omega, by go_num, rfl⟩
      case measure => simp [intOf]; omega
    · go_wp2
      go_ret
      exact ⟨rfl, m, rfl⟩
end Go.Proofs.Qxb6601081a
