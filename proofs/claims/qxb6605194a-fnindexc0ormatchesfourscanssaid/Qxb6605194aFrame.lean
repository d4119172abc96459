/-
  SEAT b6605194a: small facts that both rows' steps share.
-/
import Derived.WalkKit
import Derived.ProofKit
import Derived.Deep.QuietTactic
namespace Go.Proofs.Qxb6605194a
open Go.ChangeShapes Go.WideShapes Go.ChangeAt Go.RowKit

/-- A byte's number is a byte. -/
theorem byte_of {a : Int} (h : (Lit.int .u8 a).wf = true) : ∃ c : UInt8, a = (c.toNat : Int) := by
  simp only [Lit.wf, Bool.and_eq_true, decide_eq_true_eq] at h
  have hmin : IntKind.u8.min = 0 := rfl
  have hmax : IntKind.u8.max = 255 := rfl
  rw [hmin, hmax] at h
  refine ⟨UInt8.ofNat a.toNat, ?_⟩
  rw [UInt8.toNat_ofNat_of_lt' (by show a.toNat < 256; omega)]
  omega
/-- Draws lay nothing and turn nothing. -/
theorem grown_drewN (w : World) (m : Nat) : Grown w (w.drewN m) := Grown.refl w
/-- One argument more. -/
theorem cons_mk {H : Type} {enc : TypeId × Value → H} {P : Program} {w : World} {base : Nat} {spare : Nat → Bool} {held : Bool} {t : TypeId} {ts : List TypeId} {v : Value} {vs : List Value} {d : DataW H} {ds : List (DataW H)} {p q : List MemPlace}
    (h : DataW.Trod enc P w base spare held t v d p) (hs : DataW.TrodAll enc P w base spare held ts vs ds q) : DataW.TrodAll enc P w base spare held (t :: ts) (v :: vs) (d :: ds) (p ++ q) := ⟨p, q, h, hs, rfl⟩
end Go.Proofs.Qxb6605194a
