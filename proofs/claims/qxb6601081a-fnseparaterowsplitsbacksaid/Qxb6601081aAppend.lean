import Derived.Test.Qxb6601081aProg
import Derived.Test.Qxb6601081aParts
namespace Go.Proofs.Qxb6601081a
open Go.RowKit

theorem Try.info5 : (Try.prog.info? 5).map (fun i => (i.zero, i.size, i.bytes)) = some (some (.int .u8 0), 1, 1) := by kernel_rfl

set_option maxHeartbeats 400000 in
theorem appendStr_any (B : Nat) (v : Value) (l : List UInt8) (s : ByteArray) (w : World) (hown0 : w.ownsRow B 5 1 v l.length (Bc l)) (hB : B ≤ w.heap.size) (hlen : l.length + s.size ≤ 1099511627776) :
    Calls Try.prog 9 #[v, .string s] w fun e w' => ∃ v', e = .returned v' ∧ w'.ownsRow B 5 1 v' (l.length + s.size) (Bc (l ++ s.data.toList)) ∧ Below B w w' := by
  obtain ⟨i0, hi, hz0, hz1, hz2⟩ := info_parts Try.info5
  go_enter Try.func9, Try.ntmps9
  go_wp2
  go_loopw [0, 5] (fun b i wr => ∃ k : Nat, k ≤ s.size ∧ i = .int .i64 k ∧ wr.ownsRow B 5 1 b (l.length + k) (Bc (l ++ s.data.toList.take k)) ∧ Below B w wr) (fun _ i _ => s.size - (intOf i).toNat)
  case atStart => exact ⟨0, Nat.zero_le _, rfl, by simpa using hown0, Below.refl _ _⟩
  case round =>
    obtain ⟨k, hk, rfl, hown, hnx⟩ := hrel
    have hsz := hnx.size
    by_cases hlt : k < s.size
    · go_wp2_with (at_builtin; refine wpList_append_own _ rfl _ _ 26 rfl B 5 i0 (.int .u8 0) 1 1 Try.underlying26 hi hz0 hz1 hz2 rfl (by decide) _ _ _ rfl (hown.alloc _) ⟨wr.heap.size, 0, none⟩ 1 1 [.int .u8 (s[k].toNat : Int)] rfl rfl ?c1 ?c2 ?c3 ?c4 ?c5 ?_)
      case c1 => exact cell_one_new _ _ _
      case c2 => intro u hu; simp at hu; subst hu; rfl
      case c3 => unfold maxLen; omega
      case c4 => omega
      case c5 => simp; omega
      · intro v' w1 hown' hgrow _
        have R1 := own_snoc hlt hown'
        have R2 := below_step hB hown hnx _ hgrow
        clear hown' hgrow hown hown0
        go_wp2
        go_roundw
        case rel => exact ⟨k + 1, by omega, by go_num, R1, R2⟩
        case measure => simp [intOf]; omega
    · go_wp2
      go_ret
      have hks : k = s.size := by omega
      subst hks
      exact ⟨_, rfl, by rw [List.take_of_length_le (by simp)] at hown; exact hown, hnx⟩
end Go.Proofs.Qxb6601081a
