/-
  SEAT b6601081a: the cells joined by commas.
-/
import Derived.Test.Qxb6601081aReads
import Derived.Test.Qxb6601081aAppend
import Derived.Laws.IdiomStrings
namespace Go.Proofs.Qxb6601081a
open Go.RowKit

/-! ### The plain law -/
/-- Every cell followed by a comma. -/
def sufL (ss : List ByteArray) : List UInt8 := ss.flatMap fun s => s.data.toList ++ [44]
/-- The cells joined by commas: the last comma dropped. -/
def joinL (ss : List ByteArray) : List UInt8 := (sufL ss).dropLast
def joinB (ss : List ByteArray) : ByteArray := ⟨(joinL ss).toArray⟩

theorem sufL_snoc (ss : List ByteArray) (k : Nat) (h : k < ss.length) : sufL (ss.take (k + 1)) = sufL (ss.take k) ++ (ss.getD k ByteArray.empty).data.toList ++ [44] := by
  have e : ss.take (k + 1) = ss.take k ++ [ss[k]] := List.take_succ_eq_append_getElem h
  unfold sufL
  rw [e, List.flatMap_append]
  simp [List.getD, List.getElem?_eq_getElem h]
theorem sufL_length (ss : List ByteArray) : (sufL ss).length = ss.length + tot ss := by
  induction ss with
  | nil => rfl
  | cons s r ih =>
    have e : sufL (s :: r) = (s.data.toList ++ [44]) ++ sufL r := rfl
    have e2 : tot (s :: r) = s.size + tot r := rfl
    have e3 : s.data.toList.length = s.size := by simp
    rw [e, e2, List.length_append, ih, List.length_append, e3]
    simp
    omega
theorem tot_take_le (ss : List ByteArray) (k : Nat) : tot (ss.take k) ≤ tot ss := by
  have e : tot ss = tot (ss.take k) + tot (ss.drop k) := by
    unfold tot
    rw [← List.sum_append, ← List.map_append, List.take_append_drop]
  omega
theorem tot_get (ss : List ByteArray) (k : Nat) (h : k < ss.length) : tot (ss.take k) + (ss.getD k ByteArray.empty).size ≤ tot ss := by
  rw [← tot_snoc ss k h]; exact tot_take_le ss (k + 1)

/-! ### Worlds -/
theorem own_shape {w : World} {B n : Nat} {e : TypeId} {v : Value} {xs : List Value} (h : w.ownsRow B e 1 v n xs) : ∃ ao cap, v = .slice ao n cap := by
  rcases h.2 with ⟨hv, rfl⟩ | ⟨g, cap, _, hv, _⟩
  · exact ⟨none, 0, hv⟩
  · exact ⟨_, cap, hv⟩
theorem own_trunc {w : World} {B g cap n m : Nat} {e : TypeId} {xs : List Value} (hm : m ≤ n) (h : w.ownsRow B e 1 (.slice (some ⟨g, 0, none⟩) n cap) n xs) :
    w.ownsRow B e 1 (.slice (some ⟨g, 0, none⟩) m cap) m (xs.take m) := by
  rcases h.2 with ⟨h0, _⟩ | ⟨g', cap', cur, hv, hb, hh, hn, hcm, hcs, ht⟩
  · cases h0
  · cases hv
    refine ⟨by rw [List.length_take, h.1]; omega, .inr ⟨g, cap, cur, rfl, hb, hh, by omega, hcm, hcs, ?_⟩⟩
    rw [← ht, List.take_take, Nat.mul_one, Nat.mul_one, Nat.min_eq_left hm]
theorem conv_own {w : World} {B : Nat} {v : Value} {l : List UInt8} (h : w.ownsRow B 5 1 v l.length (Bc l)) : (convert 26 9 v).run Try.prog w = .ok (.string ⟨l.toArray⟩) w := by
  rcases h.2 with ⟨rfl, h0⟩ | ⟨g, cap, cur, rfl, _⟩
  · have : l = [] := List.eq_nil_of_length_eq_zero h0
    subst this
    exact run_convert_bytes_nil w 26 5 Try.underlying26 Try.underlying5 0 0 9 Try.underlying9
  · refine run_convert_bytes_back w 26 9 5 ⟨g, 0, none⟩ cap l Try.underlying26 Try.underlying5 Try.underlying9 (fun j hj => ?_)
    have := h.cells (g := g) rfl j (.int .u8 (l[j].toNat : Int)) (by simp [Bc, hj])
    exact this

theorem suf_step {B : Nat} {w : World} {v : Value} {L M : List UInt8} {s : ByteArray} (h : M = L ++ s.data.toList ++ [44]) (hown : w.ownsRow B 5 1 v (L.length + s.size + 1) (Bc (L ++ s.data.toList) ++ [.int .u8 44])) :
    w.ownsRow B 5 1 v M.length (Bc M) := by
  subst h
  rw [Bc_append, List.length_append, List.length_append]
  exact hown
/-- The last comma dropped. -/
theorem join_pop {B : Nat} {w : World} {v : Value} {ss : List ByteArray} (hp : 0 < (sufL ss).length) (hown : w.ownsRow B 5 1 v (sufL ss).length (Bc (sufL ss))) :
    ∃ g cap, v = .slice (some ⟨g, 0, none⟩) (sufL ss).length cap ∧ w.ownsRow B 5 1 (.slice (some ⟨g, 0, none⟩) (joinL ss).length cap) (joinL ss).length (Bc (joinL ss)) := by
  rcases hown.2 with ⟨_, h0⟩ | ⟨g, cap, cur, hv, _⟩
  · omega
  · refine ⟨g, cap, hv, ?_⟩
    rw [hv] at hown
    have h := own_trunc (m := (joinL ss).length) (by simp [joinL]) hown
    have e : (Bc (sufL ss)).take (joinL ss).length = Bc (joinL ss) := by
      unfold Bc joinL
      rw [List.dropLast_eq_take, List.map_take, List.length_take, Nat.min_eq_left (by omega)]
    rw [e] at h
    exact h

def Joined (w : World) (ss : List ByteArray) (e : Ending) (w' : World) : Prop := e = .returned (.string (joinB ss)) ∧ Below w.heap.size w w'

set_option maxHeartbeats 800000 in
theorem join_any (a : Option Addr) (cap : Nat) (ss : List ByteArray) (w : World) (hs : Strs w a ss) (hl : ss.length + tot ss ≤ 1048576) :
    Calls Try.prog 10 #[.slice a ss.length cap] w (Joined w ss) := by
  obtain ⟨i0, hi, hz0, hz1, hz2⟩ := info_parts Try.info5
  go_enter Try.func10, Try.ntmps10
  go_wp2
  go_loopw [3, 4] (fun v i wr => ∃ k : Nat, k ≤ ss.length ∧ i = .int .i64 k ∧ wr.ownsRow w.heap.size 5 1 v (sufL (ss.take k)).length (Bc (sufL (ss.take k))) ∧ Below w.heap.size w wr) (fun _ i _ => ss.length - (intOf i).toNat)
  case atStart => exact ⟨0, Nat.zero_le _, rfl, World.ownsRow_nil _ _ _ _, Below.refl _ _⟩
  case round =>
    obtain ⟨k, hk, rfl, hown, hnx⟩ := hrel
    have hsz := hnx.size
    by_cases hlt : k < ss.length
    · obtain ⟨b, off, rfl, hc0⟩ := hs k hlt
      have hc := (hnx.cell (p := ⟨b, off + k, none⟩) (World.block_lt_of_cell? w _ hc0)).trans hc0
      have hsn := sufL_snoc ss k hlt
      have hlen : (sufL (ss.take k)).length + (ss.getD k ByteArray.empty).size + 1 ≤ 1048577 := by
        have := sufL_length (ss.take k)
        have := tot_get ss k hlt
        rw [List.length_take] at *
        omega
      obtain ⟨s, hse⟩ : ∃ s, s = ss.getD k ByteArray.empty := ⟨_, rfl⟩
      obtain ⟨L, hL⟩ : ∃ L, L = sufL (ss.take k) := ⟨_, rfl⟩
      rw [← hse] at hc hlen hsn
      rw [← hL] at hlen hsn hown
      have HS : Hid _ := hsn
      clear hc0 hse hs hL hsn
      go_wp2_with fail
      refine (appendStr_any w.heap.size _ L s wr hown hsz (by omega)).mono ?_
      rintro e w1 ⟨v1, rfl, hown1, hb1⟩
      have hb2 := hnx.trans hb1
      have hsz2 := hb2.size
      clear hown hb1 hnx hsz hc
      go_wp2_with (at_builtin; refine wpList_append_own _ rfl _ _ 26 rfl w.heap.size 5 i0 (.int .u8 0) 1 1 Try.underlying26 hi hz0 hz1 hz2 rfl (by decide) _ _ _ rfl (hown1.alloc _) ⟨w1.heap.size, 0, none⟩ 1 1 [.int .u8 44] rfl rfl ?c1 ?c2 ?c3 ?c4 ?c5 ?_)
      case c1 => exact cell_one_new _ _ _
      case c2 => intro u hu; simp at hu; subst hu; rfl
      case c3 => unfold maxLen; omega
      case c4 => omega
      case c5 => simp; omega
      · intro v' w2 hown' hgrow _
        have R1 := suf_step HS.out hown'
        have R2 := below_step (Nat.le_refl _) hown1 hb2 _ hgrow
        clear hown' hgrow hown1 HS hb2
        have H1 : Hid _ := R1
        have H2 : Hid _ := R2
        clear R1 R2
        go_wp2
        go_roundw
        case rel => exact ⟨k + 1, by omega, by go_num, H1.out, H2.out⟩
        case measure => simp [intOf]; omega
    · have hks : k = ss.length := by omega
      subst hks
      rw [List.take_length] at hown
      by_cases h0 : 0 < ss.length
      · have hp : 0 < (sufL ss).length := by rw [sufL_length]; omega
        have hM := join_pop hp hown
        obtain ⟨M, hM1, hM2⟩ : ∃ M, (sufL ss).length = M + 1 ∧ (joinL ss).length = M := ⟨(sufL ss).length - 1, by omega, by simp [joinL]⟩
        have hlM := sufL_length ss
        obtain ⟨g, cap', hv, hj⟩ := hM
        rw [hM2] at hj
        rw [hM1] at hv hlM
        subst hv
        have hcv := conv_own (l := joinL ss) (by rw [hM2]; exact hj)
        have hMs : M ≤ 1048576 := by omega
        have hMc : M + 1 ≤ cap' := by
          rw [hM1] at hown
          rcases hown.2 with ⟨h, _⟩ | ⟨_, _, _, h, _, _, h3, _⟩
          · cases h
          · cases h; exact h3
        clear hj hM1 hM2 hlM hp hown
        go_wp2
        go_ret
        exact ⟨rfl, hnx⟩
      · have hn : ss = [] := List.eq_nil_of_length_eq_zero (by omega)
        subst hn
        have hcv := conv_own (l := []) hown
        clear hown hl hs hk hlt h0
        go_wp2
        go_ret
        exact ⟨rfl, hnx⟩

end Go.Proofs.Qxb6601081a
