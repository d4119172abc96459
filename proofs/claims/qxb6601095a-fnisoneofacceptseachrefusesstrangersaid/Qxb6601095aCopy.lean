/-
  SEAT b6601095a: the copy of a slice of strings.
-/
import Derived.Test.Qxb6601095aReads
import Derived.Lib.SliceRun
namespace Go.Proofs.Qxb6601095a
open Go.RowKit

theorem Try.info9 : (Try.prog.info? 9).map (fun i => (i.zero, i.size, i.bytes)) = some (some (.string ⟨#[]⟩), 1, 16) := by kernel_rfl

/-- The copy's cells behind k rounds. -/
def cc (ss : List ByteArray) (k : Nat) : List Value := (ss.take k).map Value.string ++ List.replicate (ss.length - k) (.string ⟨#[]⟩)
theorem cc_length (ss : List ByteArray) (k : Nat) (h : k ≤ ss.length) : (cc ss k).length = ss.length := by simp [cc]; omega
theorem cc_set (ss : List ByteArray) (k : Nat) (h : k < ss.length) : (cc ss k).set k (.string (ss.getD k ByteArray.empty)) = cc ss (k + 1) := by
  have e : ss.take (k + 1) = ss.take k ++ [ss[k]] := List.take_succ_eq_append_getElem h
  have hl : ((ss.take k).map Value.string).length = k := by simp; omega
  have hr : ss.length - k = (ss.length - (k + 1)) + 1 := by omega
  unfold cc
  rw [e, List.map_append, hr, List.replicate_succ, List.set_append_right _ _ (by omega), hl, Nat.sub_self, List.set_cons_zero, List.append_assoc]
  simp [List.getD, List.getElem?_eq_getElem h]
theorem cc_all (ss : List ByteArray) : cc ss ss.length = ss.map Value.string := by simp [cc]

/-- What the copy hands back: a slice of new memory that holds the same strings. -/
def Copied (w : World) (ss : List ByteArray) (e : Ending) (w' : World) : Prop := ∃ a' cap', e = .returned (.slice a' ss.length cap') ∧ Strs w' a' ss ∧ Below w.heap.size w w'

theorem strs_of_own {w : World} {B g cap : Nat} {ss : List ByteArray} (h : w.ownsRow B 9 1 (.slice (some ⟨g, 0, none⟩) ss.length cap) ss.length (ss.map Value.string)) : Strs w (some ⟨g, 0, none⟩) ss := by
  intro i hi
  refine ⟨g, 0, rfl, ?_⟩
  rw [Nat.zero_add, h.cellAt i (by omega)]
  simp [List.getD, List.getElem?_eq_getElem hi]

set_option maxHeartbeats 400000 in
theorem copy_any (a : Option Addr) (cap : Nat) (ss : List ByteArray) (w : World) (hs : Strs w a ss) (hl : ss.length ≤ 4096) :
    Calls Try.prog 7 #[.slice a ss.length cap] w (Copied w ss) := by
  have q22 : ∀ (w : World) (a : Option Addr) (n c n' c' : Nat), (binOp .eql 22 (.slice a n c) (.slice none n' c')).run Try.prog w = .ok (.bool a.isNone) w := fun w a n c n' c' => Lib.run_eql_slice_nil w _ _ a n c n' c' Try.underlying22
  obtain ⟨i0, hi, hz0, hz1, hz2⟩ := info_parts Try.info9
  cases a with
  | none =>
    have h0 : ss = [] := by
      cases ss with
      | nil => rfl
      | cons s r => obtain ⟨_, _, h, _⟩ := hs 0 (by simp); cases h
    subst h0
    go_enter Try.func7, Try.ntmps7
    go_wp2
    go_ret
    exact ⟨none, 0, rfl, fun i hi => by simp at hi, Below.refl _ _⟩
  | some A =>
    go_enter Try.func7, Try.ntmps7
    go_wp2_with (at_make; refine wpList_make_full _ rfl _ _ 22 rfl w.heap.size 9 i0 (.string ⟨#[]⟩) 1 Try.underlying22 hi hz0 hz1 _ _ _ _ ss.length rfl rfl rfl rfl ?b2 ?b3 ?b4 ?_)
    case b2 => rw [hz2]; omega
    case b3 => unfold maxLen; omega
    case b4 => exact Nat.le_refl _
    · intro w1 hown hgrow
      have hbel : Below w.heap.size w w1 := (Below.refl _ _).grown hgrow (Nat.le_refl _) (fun k h => by cases h)
      have hown0 : w1.ownsRow w.heap.size 9 1 (.slice (some ⟨w.heap.size, 0, none⟩) ss.length ss.length) ss.length (cc ss 0) := by
        have h := hown
        have e0 : (madeCells #[Value.string ⟨#[]⟩] ss.length).toList = cc ss 0 := by rw [toList_madeCells_one]; simp [cc]
        rw [← e0]
        simpa using h
      clear hown hgrow
      go_wp2
      go_loopw [4] (fun i wr => ∃ k : Nat, k ≤ ss.length ∧ i = .int .i64 k ∧ wr.ownsRow w.heap.size 9 1 (.slice (some ⟨w.heap.size, 0, none⟩) ss.length ss.length) ss.length (cc ss k) ∧ Below w.heap.size w wr) (fun i _ => ss.length - (intOf i).toNat)
      case atStart => exact ⟨0, Nat.zero_le _, rfl, hown0, hbel⟩
      case round =>
        obtain ⟨k, hk, rfl, hown, hnx⟩ := hrel
        clear hown0 hbel
        by_cases hlt : k < ss.length
        · obtain ⟨b, off, hA, hc⟩ := hs k hlt
          cases hA
          have hcr := (hnx.cell (p := ⟨b, off + k, none⟩) (World.block_lt_of_cell? w _ hc)).trans hc
          have hstore := hown.stored k (.string (ss.getD k ByteArray.empty))
          rw [cc_set ss k hlt] at hstore
          have hfro := hown.frozenAt k
          have hcx := hown.cellAt k (by omega)
          rw [List.getElem?_eq_getElem (by rw [cc_length ss k hk]; exact hlt)] at hcx
          obtain ⟨X, hX⟩ : ∃ X, X = (cc ss k)[k]'(by rw [cc_length ss k hk]; exact hlt) := ⟨_, rfl⟩
          rw [← hX] at hcx
          clear hX
          obtain ⟨s, hse⟩ : ∃ s, s = ss.getD k ByteArray.empty := ⟨_, rfl⟩
          rw [← hse] at hcr hstore
          have hbel := hnx.grown hstore.2 hnx.size (fun j hj => by cases hj; exact Nat.le_refl _)
          have hown1 := hstore.1
          clear hse hc hown hstore hs
          have HO : Hid _ := hown1
          have HB : Hid _ := hbel
          clear hown1 hbel
          go_wp2
          go_roundw
          case rel => exact ⟨k + 1, by omega, by go_num, HO.out, HB.out⟩
          case measure => simp [intOf]; omega
        · go_wp2
          go_ret
          have hks : k = ss.length := by omega
          subst hks
          rw [cc_all] at hown
          exact ⟨_, _, rfl, strs_of_own hown, hnx⟩
end Go.Proofs.Qxb6601095a
