/-
  SEAT b6601081a: the comma ahead of a cell.
-/
import Derived.Test.Qxb6601081aProg
import Derived.Test.Qxb6601081aParts
import Derived.Deep.QuietTactic
import Derived.BigQuiet
namespace Go.Proofs.Qxb6601081a
open Go.RowKit

theorem Try.info5' : (Try.prog.info? 5).map (fun i => (i.zero, i.size, i.bytes)) = some (some (.int .u8 0), 1, 1) := by kernel_rfl

/-- The row behind 'separate': a comma more, but for the first cell. -/
def sepL (l : List UInt8) (c : Nat) : List UInt8 := if c = 0 then l else l ++ [44]
def Sep (B : Nat) (l : List UInt8) (c : Nat) (w : World) (e : Ending) (w' : World) : Prop :=
  ∃ ao cap, e = .returned (.tuple #[.slice ao (sepL l c).length cap, .int .i64 ((c + 1 : Nat) : Int)]) ∧ w'.ownsRow B 5 1 (.slice ao (sepL l c).length cap) (sepL l c).length (Bc (sepL l c)) ∧ Below B w w'

set_option maxHeartbeats 400000 in
theorem separate_zero (B : Nat) (ao : Option Addr) (cap : Nat) (l : List UInt8) (w : World) (hown : w.ownsRow B 5 1 (.slice ao l.length cap) l.length (Bc l)) (hB : B ≤ w.heap.size) :
    Calls Try.prog 8 #[.slice ao l.length cap, .int .i64 0] w (Sep B l 0 w) := by
  go_enter Try.func8, Try.ntmps8
  go_wp2
  go_end0
  go_wp2
  go_quiet (fail)
  go_wp2
  go_ret2
  exact ⟨ao, cap, rfl, hown.alloc _, below_drewN ((Below.refl _ _).alloc hB _) nq⟩

/-- The struct's block behind the append: as it was. -/
theorem struct_kept {w w1 : World} {x y : Value} {o : Obj} {row : Option Nat} (hg : ((w.alloc (.cells #[x, y] 35)).alloc o).grownBy w1 row) (hrow : ∀ k, row = some k → k < w.heap.size) :
    w1.heap[w.heap.size]? = some (.cells #[x, y] 35 (0, 0)) := by
  rw [hg.block w.heap.size (by simp; omega) (fun e => by have := hrow _ e.symm; omega), Below.heap_alloc _ _ _ (by simp)]
  exact heap_alloc_new w _
theorem own_form {w : World} {base size n : Nat} {e : TypeId} {v : Value} {xs : List Value} (h : w.ownsRow base e size v n xs) (hn : 0 < n) : ∃ g cap, v = .slice (some ⟨g, 0, none⟩) n cap := by
  rcases h.2 with ⟨_, h0⟩ | ⟨g, cap, _, hv, _⟩
  · omega
  · exact ⟨g, cap, hv⟩
theorem own_apart {w : World} {B g cap n N : Nat} {xs : List Value} {x y : Value} (h : w.ownsRow B 5 1 (.slice (some ⟨g, 0, none⟩) n cap) n xs) (hN : w.heap[N]? = some (.cells #[x, y] 35 (0, 0))) : g ≠ N := by
  rintro rfl
  rcases h.2 with ⟨h0, _⟩ | ⟨g', cap', cur, hv, _, hh, _⟩
  · cases h0
  · cases hv
    rw [hN] at hh
    simp at hh

theorem sep_end {B g cap c : Nat} {l : List UInt8} {w w1 : World} (hO : w1.ownsRow B 5 1 (.slice (some ⟨g, 0, none⟩) (l.length + 1) cap) (l.length + 1) (Bc l ++ [.int .u8 44])) (hN : g ≠ w.heap.size) (hb : Below B w w1) (hB : B ≤ w.heap.size) (x y : Value) (nq : Nat) :
    Sep B l (c + 1) w (.returned (.tuple #[.slice (some ⟨g, 0, none⟩) (l.length + 1) cap, .int .i64 ((c : Int) + 1 + 1)])) (((w1.setCell ⟨w.heap.size, 0, none⟩ x).setCell ⟨w.heap.size, 1, none⟩ y).drewN nq) := by
  have e : sepL l (c + 1) = l ++ [44] := rfl
  have el : (sepL l (c + 1)).length = l.length + 1 := by rw [e]; simp
  have eb : Bc (sepL l (c + 1)) = Bc l ++ [.int .u8 44] := by rw [e, Bc_append]; rfl
  refine ⟨some ⟨g, 0, none⟩, cap, by rw [el]; rfl, ?_, below_drewN ((hb.setCell hB x).setCell hB y) nq⟩
  rw [el, eb]
  have hn : Value.ownBlock (.slice (some ⟨g, 0, none⟩) (l.length + 1) cap) ≠ some w.heap.size := fun h => hN (by simpa [Value.ownBlock] using h)
  exact ownsRow_setCell_other (ownsRow_setCell_other hO hn x) hn y

set_option maxHeartbeats 400000 in
theorem separate_more (B : Nat) (ao : Option Addr) (cap : Nat) (l : List UInt8) (c : Nat) (w : World) (hown : w.ownsRow B 5 1 (.slice ao l.length cap) l.length (Bc l)) (hB : B ≤ w.heap.size)
    (hlen : l.length + 1 ≤ 1099511627776) (hc : c + 1 ≤ 1099511627776) :
    Calls Try.prog 8 #[.slice ao l.length cap, .int .i64 ((c + 1 : Nat) : Int)] w (Sep B l (c + 1) w) := by
  obtain ⟨i0, hi, hz0, hz1, hz2⟩ := info_parts Try.info5'
  go_enter Try.func8, Try.ntmps8
  go_wp2_with (first | (at_builtin; refine wpList_append_own _ rfl (.tmp 11) (.tmp 12) 26 rfl B 5 i0 (.int .u8 0) 1 1 Try.underlying26 hi hz0 hz1 hz2 rfl (by decide) _ _ _ rfl ((hown.alloc _).alloc _) ⟨w.heap.size + 1, 0, none⟩ 1 1 [.int .u8 44] rfl rfl ?c1 ?c2 ?c3 ?c4 ?c5 ?_) | go_in)
  case c1 =>
    intro j u hj
    have h := cell_one_new (w.alloc (.cells #[Value.slice ao l.length cap, Value.int IntKind.i64 (↑c + 1)] 35)) (.int .u8 44) 5 j u hj
    simpa using h
  case c2 => intro u hu; simp at hu; subst hu; rfl
  case c3 => unfold maxLen; omega
  case c4 => omega
  case c5 => simp; omega
  · intro v' w1 hown' hgrow _
    have hst := struct_kept hgrow (fun k hk => (hown.lt k hk).2)
    have hbel : Below B w w1 := (((Below.refl _ _).alloc hB _).alloc (by simp; omega) _).grown hgrow (by simp; omega) (fun k hk => (hown.lt k hk).1)
    obtain ⟨g, cap', hv⟩ := own_form hown' (by omega)
    subst hv
    have hne := own_apart hown' hst
    have s1 : w1.cell? ⟨w.heap.size, 1, none⟩ = some (.int .i64 (↑c + 1)) := by simp [World.cell?, hst]
    have s0 : ∃ x, w1.cell? ⟨w.heap.size, 0, none⟩ = some x := ⟨.slice ao l.length cap, by simp [World.cell?, hst]⟩
    obtain ⟨x, s0⟩ := s0
    have f1 : w1.frozen? ⟨w.heap.size, 1, none⟩ = false := by simp [World.frozen?, hst]
    have f0 : w1.frozen? ⟨w.heap.size, 0, none⟩ = false := by simp [World.frozen?, hst]
    have HO : Hid _ := hown'
    have HB : Hid _ := hbel
    have HN : Hid _ := hne
    clear hst hown' hbel hne hgrow hown hi hz0 hz1 hz2
    go_wp2
    go_end0
    go_wp2
    go_quiet (fail)
    go_wp2
    go_ret2
    exact sep_end HO.out HN.out HB.out hB _ _ nq

theorem separate_any (B : Nat) (ao : Option Addr) (cap : Nat) (l : List UInt8) (c : Nat) (w : World) (hown : w.ownsRow B 5 1 (.slice ao l.length cap) l.length (Bc l)) (hB : B ≤ w.heap.size)
    (hlen : l.length + 1 ≤ 1099511627776) (hc : c ≤ 1099511627776) : Calls Try.prog 8 #[.slice ao l.length cap, .int .i64 (c : Int)] w (Sep B l c w) := by
  cases c with
  | zero => exact separate_zero B ao cap l w hown hB
  | succ c => exact separate_more B ao cap l c w hown hB hlen hc
end Go.Proofs.Qxb6601081a
