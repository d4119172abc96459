/-
  SEAT b6604046a: 'Rows.FnAllDigitsEmptyAndOneByteSaid', proved: the walk of the law, and the row's step round it (the guide's frame).
-/
import Derived.Test.Qxb6604046aRows
import Derived.Test.Qxb6604046aWalks
import Derived.ProofKit
namespace Go.Proofs.Qxb6604046a.fnAllDigitsEmptyAndOneByte
open Go.ChangeShapes Go.WideShapes Go.ChangeAt Go.RowKit

theorem own : ownKnob Try.prog.godebug = none := by kernel_rfl

/-- A byte's number is a byte. -/
theorem byte_of {a : Int} (h : (Lit.int .u8 a).wf = true) : ∃ c : UInt8, a = (c.toNat : Int) := by
  simp only [Lit.wf, Bool.and_eq_true, decide_eq_true_eq] at h
  have hmin : IntKind.u8.min = 0 := rfl
  have hmax : IntKind.u8.max = 255 := rfl
  rw [hmin, hmax] at h
  refine ⟨UInt8.ofNat a.toNat, ?_⟩
  rw [UInt8.toNat_ofNat_of_lt' (by show a.toNat < 256; omega)]
  omega

/-- The one-byte text is all digits exactly where its byte is a digit. -/
theorem one_byte {c : UInt8} {w w' : World} {e : Ending} (h : AllDig ⟨#[c]⟩ w e w') : e = .returned (.bool (dig (c.toNat : Int))) ∧ w = w' := by
  obtain ⟨r, he, hw, h1, h2⟩ := h
  refine ⟨?_, hw.symm⟩
  rw [he]
  cases r with
  | true =>
    have h3 := (h1 rfl).2 0 (by show 0 < 1; omega)
    have h4 : 48 ≤ c.toNat ∧ c.toNat ≤ 57 := h3
    have : dig (c.toNat : Int) = true := decide_eq_true (by omega)
    rw [this]
  | false =>
    have h4 : c.toNat < 48 ∨ 57 < c.toNat := by
      rcases h2 rfl with h | ⟨j, hj, h⟩
      · cases h
      · have hj' : j < 1 := hj
        obtain rfl : j = 0 := by omega
        exact h
    have : dig (c.toNat : Int) = false := decide_eq_false (by omega)
    rw [this]

set_option maxHeartbeats 400000 in
theorem walk (a0 : Int) (w0 : (Lit.int .u8 a0).wf = true) (w : World) :
    Calls Try.prog 3 #[.int .u8 a0] w fun e w' => e = .returned (.bool true) ∧ Grown w w' := by
  obtain ⟨c, rfl⟩ := byte_of w0
  have hcv : (convert 23 9 (.slice (some ⟨w.heap.size, 0, none⟩) 1 1)).run Try.prog (w.alloc (.cells #[.int .u8 (c.toNat : Int)] 5)) = .ok (.string ⟨#[c]⟩) (w.alloc (.cells #[.int .u8 (c.toNat : Int)] 5)) :=
    run_convert_bytes_back (P := Try.prog) (w.alloc (.cells #[.int .u8 (c.toNat : Int)] 5)) 23 9 5 ⟨w.heap.size, 0, none⟩ 1 [c] Try.underlying23 Try.underlying5 Try.underlying9 (fun j hj => by
      have hj' : j < 1 := hj
      obtain rfl : j = 0 := by omega
      exact cell_one_new w (.int .u8 (c.toNat : Int)) 5 0 _ rfl)
  clear w0
  go_enter Try.func3, Try.ntmps3
  go_wp2_with fail
  refine (zAllDigits_any ⟨#[]⟩ w (by show 0 ≤ maxLen; omega)).mono ?_
  rintro e w1 ⟨r, rfl, hw, h1, _⟩
  have hw2 := hw.symm
  clear hw
  subst hw2
  cases r with
  | true => exact absurd (h1 rfl).1 (by show ¬ 0 < 0; omega)
  | false =>
    clear h1
    go_wp2_with fail
    refine (zAllDigits_any ⟨#[c]⟩ _ (by show 1 ≤ maxLen; unfold maxLen; omega)).mono ?_
    intro e w1 h
    obtain ⟨rfl, rfl⟩ := one_byte h
    clear h
    go_wp2_with fail
    refine (table_any (c.toNat : Int) _).mono ?_
    rintro e w1 ⟨rfl, hw⟩
    have hw2 := hw.symm
    clear hw
    subst hw2
    go_wp2
    go_ret
    exact ⟨by simp, (Grown.refl _).alloc _ _⟩

set_option maxRecDepth 100000 in
theorem lifted (os : Os) (started : os.Started) (H : Type) (enc : TypeId × Value → H) :
    ReturnsInHanded {} Try.checked os 3 .any (Rows.fnAllDigitsEmptyAndOneByteSpec.pre6 enc Try.prog Try.f3 Rows.fnAllDigitsEmptyAndOneByteRow.domain false) (Rows.fnAllDigitsEmptyAndOneByteSpec.post enc Try.prog Try.f3 false true false false) := by
  refine returnsInHanded_of_change (C := Try.checked) own started (by kernel_rfl) Try.func3
    (ChangeSpec.witness6 (enc := enc) (C := Try.checked) false ⟨#[], #[.int .u8 0], []⟩ 8 (by kernel_rfl) (by kernel_rfl) (by kernel_rfl) (by kernel_rfl)) ?_
  intro W base args ds gs before hval0 hW hcnd _
  have hval : ∀ (j : Nat) t v, Try.f3.params[j]? = some t → args[j]? = some v → Value.okWide Try.prog W .any base t v := hval0
  have hW' := hW
  obtain ⟨p, q, hA0, hV, rfl, hfz, hnd⟩ := hW
  have hA : DataW.TrodAll enc Try.prog W 0 (fun _ => true) true Try.f3.params.toList args.toList ds p := hA0
  rw [Try.params3] at hA hval
  obtain ⟨v0, d0, rfl, rfl, h0⟩ := trodAll_one hA
  obtain ⟨rfl, rfl⟩ := trodVars_none hV
  obtain ⟨a0, rfl, rfl, rfl, w0⟩ := open_int Try.underlying5 (hval 0 5 v0 rfl rfl) h0
  clear hA0 hval0
  simp only [List.append_nil] at hW'
  refine (walk a0 w0 W).mono fun e W' ⟨he, hg⟩ => ?_
  subst he
  exact ⟨_, rfl, post_of_same (pa := []) (pv := []) hW' (fun _ _ _ => (trodAll_mk1 (shut_bool Try.underlying4 _))) (fun sp _ => (trodAll_mk1 (shut_int Try.underlying5 w0))) (fun _ _ => rfl) rfl
    (hg.frame _) hg.2.1 (ok_one (by kernel_rfl) rfl (okWide_bool_mk Try.underlying4 _))⟩

theorem over : Rows.fnAllDigitsEmptyAndOneByteRow.holds Try.pinned (OpenSpec.ofChange Rows.fnAllDigitsEmptyAndOneByteSpec) :=
  OpenClaim.holds_of_wide 3 Try.f3 rfl rfl rfl rfl rfl rfl rfl ⟨rfl, rfl, rfl, rfl, rfl⟩ rfl rfl rfl rfl rfl (by kernel_rfl) Try.func3 (by kernel_rfl)
    (of_decide_eq_true (by kernel_rfl)) (by unfold Func.isWrapper; first | (rw [if_pos (by decide +kernel)]; kernel_rfl) | (rw [if_neg (by decide +kernel)]; exact ⟨rfl, rfl⟩))
    (fun os started H enc _ => lifted os started H enc)

theorem proved : Rows.FnAllDigitsEmptyAndOneByteSaid := over
end Go.Proofs.Qxb6604046a.fnAllDigitsEmptyAndOneByte
