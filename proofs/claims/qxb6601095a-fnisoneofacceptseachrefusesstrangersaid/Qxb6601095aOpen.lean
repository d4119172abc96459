/-
  SEAT b6601095a: a slice of strings that came in, opened as the walks ask it.
-/
import Derived.Test.Qxb6601095aReads
import Derived.ProofKit
import Derived.SliceStrings
namespace Go.Proofs.Qxb6601095a
open Go.ChangeShapes Go.WideShapes

theorem Try.cells9 : Try.prog.cellsOf 9 = 1 := by kernel_rfl

theorem strs_of_trod {H : Type} {enc : TypeId × Value → H} {W : World} {a : Option Addr} {len cap : Nat} {d : DataW H} {ps : List MemPlace} (h : DataW.Trod enc Try.prog W 0 (fun _ => true) true 22 (.slice a len cap) d ps) :
    ∃ ss : List ByteArray, len = ss.length ∧ Strs W a ss := by
  obtain ⟨fuel, hf⟩ := h
  rcases open_strings Try.underlying22 Try.underlying9 Try.cells9 hf with ⟨hcs, _⟩ | ⟨x, l, c, ss, hcs, _, hl, _, hz, _, hcell, _⟩
  · simp [Value.cells] at hcs
    obtain ⟨_, rfl, _⟩ := hcs
    exact ⟨[], rfl, fun i hi => by simp at hi⟩
  · simp [Value.cells] at hcs
    obtain ⟨rfl, rfl, rfl⟩ := hcs
    simp only [if_true] at hz
    refine ⟨ss.take len, by rw [List.length_take]; omega, fun i hi => ?_⟩
    rw [List.length_take] at hi
    have hc := hcell i (by omega)
    obtain ⟨b, off, spot⟩ := x
    have hsp : spot = none := by simpa [Addr.add] using World.cell?_spot (hcell 0 (by omega))
    subst hsp
    refine ⟨b, off, rfl, ?_⟩
    rw [add_plain] at hc
    rw [hc]
    simp [List.getD, show i < len by omega]
end Go.Proofs.Qxb6601095a
