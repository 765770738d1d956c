/-
  THE SHELL OF A PROOF OF 'Rows.FnCutRowsRecutReusesRoomAndClearsSaid' ('example.com/tiergang/tiergang/zzlaws_placement_b1.FnCutRowsRecutReusesRoomAndClears'), WRITTEN BY PROGRAM (proof-skeleton.mjs) off the guide's own print for that function.
  The walk is filled by hand; all else is the guide's own frame at this function's number and types.
-/
import Derived.Test.Qxb6605221aModsRows
import Derived.Test.Qxb6605221aModsCutJ
import Derived.WalkKit
import Derived.ProofKit
import Derived.OpenShut
import Derived.ShutString
import Derived.ChangeOld
import Derived.Below
namespace Go.Proofs.Qxb6605221aMods.fnCutRowsRecutReusesRoomAndClears
open Go.ChangeShapes Go.WideShapes Go.ChangeAt Go.RowKit
open Go.ChangeMaps (open_string shut_string)
set_option linter.unusedVariables false      -- a walk need not use every 'w<i>' (that an integer argument fits its kind)

theorem own : ownKnob Trym.prog.godebug = none := by kernel_rfl

/-- Rows that fit their division fit. -/
theorem room (n m : Nat) (h : (0 : Int) < (m : Int) → (n : Int) ≤ 65536 / (m : Int)) : n * m ≤ 65536 := by
  rcases Nat.eq_zero_or_pos m with e | e
  · rw [e]; omega
  · have h1 := h (by omega)
    have h2 : (n : Int) * (m : Int) ≤ 65536 / (m : Int) * (m : Int) := Int.mul_le_mul_of_nonneg_right h1 (by omega)
    have h3 : (65536 : Int) / (m : Int) * (m : Int) ≤ 65536 := Int.ediv_mul_le _ (by omega)
    have h4 : ((n * m : Nat) : Int) ≤ 65536 := by rw [Int.natCast_mul]; exact Int.le_trans h2 h3
    omega

/-! ### STEP 1: THE WALK: the Go text returns true, and writes nothing that was there -/
theorem walk (a0 : Int) (a1 : Int) (a2 : Int) (a3 : Int) (w0 : (Lit.int .i64 a0).wf = true) (w1 : (Lit.int .i64 a1).wf = true) (w2 : (Lit.int .i64 a2).wf = true) (w3 : (Lit.int .i64 a3).wf = true) (w : World) :
    Calls Trym.prog 5 #[.int .i64 a0, .int .i64 a1, .int .i64 a2, .int .i64 a3] w fun e w' => e = .returned (.bool true) ∧ Below w.heap.size w w' := by
  have b0 : a0 ≤ 9223372036854775807 := by simp [Lit.wf, IntKind.min, IntKind.max, IntKind.signed, IntKind.bits] at w0; omega
  by_cases c1 : (a0 < 0 ∨ a1 < 0 ∨ a2 < 0 ∨ a3 < 0) ∨ (65536 < a0 ∨ 65536 < a1 ∨ 65536 < a2 ∨ 65536 < a3)
  · refine (Cut.f5_early a0 a1 a2 a3 w c1).mono fun e w' h => ?_
    obtain ⟨rfl, rfl⟩ := h
    exact ⟨rfl, Below.refl _ _⟩
  · by_cases c2 : (0 < a1 ∧ 65536 / a1 < a0) ∨ (¬ (0 < a1 ∧ 65536 / a1 < a0) ∧ 0 < a3 ∧ 65536 / a3 < a2)
    · refine (Cut.f5_wide a0 a1 a2 a3 w (by omega) (by omega) (by omega) (by omega) (by omega) (by omega) (by omega) (by omega) c2).mono fun e w' h => ?_
      obtain ⟨rfl, rfl⟩ := h
      exact ⟨rfl, Below.refl _ _⟩
    · obtain ⟨n1, rfl⟩ := Int.eq_ofNat_of_zero_le (show 0 ≤ a0 by omega)
      obtain ⟨m1, rfl⟩ := Int.eq_ofNat_of_zero_le (show 0 ≤ a1 by omega)
      obtain ⟨n2, rfl⟩ := Int.eq_ofNat_of_zero_le (show 0 ≤ a2 by omega)
      obtain ⟨m2, rfl⟩ := Int.eq_ofNat_of_zero_le (show 0 ≤ a3 by omega)
      have q1 : (0 : Int) < (m1 : Int) → (n1 : Int) ≤ 65536 / (m1 : Int) := fun x => Int.not_lt.1 fun y => c2 (.inl ⟨x, y⟩)
      have q2 : (0 : Int) < (m2 : Int) → (n2 : Int) ≤ 65536 / (m2 : Int) := fun x => Int.not_lt.1 fun y => c2 (by
        by_cases z : (0 : Int) < (m1 : Int) ∧ (65536 : Int) / (m1 : Int) < (n1 : Int)
        · exact .inl z
        · exact .inr ⟨z, x, y⟩)
      exact Cut.f5_main n1 m1 n2 m2 (n1 * m1) (n2 * m2) w (by omega) (by omega) (by omega) (by omega) (room n1 m1 q1) (room n2 m2 q2) (by rw [Int.natCast_mul]) (by rw [Int.natCast_mul]) q1 q2

/-! ### THE ROW's STEP: WRITTEN OUT: LEAVE IT -/
set_option maxRecDepth 100000 in
theorem lifted (os : Os) (started : os.Started) (H : Type) (enc : TypeId × Value → H) :
    ReturnsInHanded {} Trym.checked os 5 .any (Rows.fnCutRowsRecutReusesRoomAndClearsSpec.pre6 enc Trym.prog Trym.f5 Rows.fnCutRowsRecutReusesRoomAndClearsRow.domain false) (Rows.fnCutRowsRecutReusesRoomAndClearsSpec.post enc Trym.prog Trym.f5 false true false false) := by
  refine returnsInHanded_of_change (C := Trym.checked) own started (by kernel_rfl) Trym.func5
    (ChangeSpec.witness6 (enc := enc) (C := Trym.checked) false ⟨#[], #[.int .i64 0, .int .i64 0, .int .i64 0, .int .i64 0], []⟩ 8 (by kernel_rfl) (by kernel_rfl) (by kernel_rfl) (by kernel_rfl)) ?_
  intro W base args ds gs before hval0 hW hcnd _
  have hval : ∀ (j : Nat) t v, Trym.f5.params[j]? = some t → args[j]? = some v → Value.okWide Trym.prog W .any base t v := hval0
  have hW' := hW
  obtain ⟨p, q, hA0, hV, rfl, hfz, hnd⟩ := hW
  have hA : DataW.TrodAll enc Trym.prog W 0 (fun _ => true) true Trym.f5.params.toList args.toList ds p := hA0
  rw [Trym.params5] at hA hval
  obtain ⟨v0, vs0, d0, ds0, p0, q0, hargs, rfl, rfl, h0, r0⟩ := trodAll_cons hA
  obtain ⟨v1, vs1, d1, ds1, p1, q1, rfl, rfl, rfl, h1, r1⟩ := trodAll_cons r0
  obtain ⟨v2, vs2, d2, ds2, p2, q2, rfl, rfl, rfl, h2, r2⟩ := trodAll_cons r1
  obtain ⟨v3, vs3, d3, ds3, p3, q3, rfl, rfl, rfl, h3, r3⟩ := trodAll_cons r2
  obtain ⟨rfl, rfl, rfl⟩ := trodAll_nil r3
  obtain rfl : args = #[v0, v1, v2, v3] := by cases args; simp_all
  obtain ⟨rfl, rfl⟩ := trodVars_none hV
  obtain ⟨a0, rfl, rfl, rfl, w0⟩ := open_int Trym.underlying3 (hval 0 3 v0 rfl rfl) h0
  obtain ⟨a1, rfl, rfl, rfl, w1⟩ := open_int Trym.underlying3 (hval 1 3 v1 rfl rfl) h1
  obtain ⟨a2, rfl, rfl, rfl, w2⟩ := open_int Trym.underlying3 (hval 2 3 v2 rfl rfl) h2
  obtain ⟨a3, rfl, rfl, rfl, w3⟩ := open_int Trym.underlying3 (hval 3 3 v3 rfl rfl) h3
  clear hA0 hval0
  refine (walk a0 a1 a2 a3 w0 w1 w2 w3 W).mono fun e W' ⟨he, bel⟩ => ?_
  subst he
  exact ⟨_, rfl, _, _, _, [], _, [], hW', trodAll_mk1 (shut_bool Trym.underlying4 _), (trodAll_cons_mk (shut_int Trym.underlying3 w0) (trodAll_cons_mk (shut_int Trym.underlying3 w1) (trodAll_cons_mk (shut_int Trym.underlying3 w2) (trodAll_cons_mk (shut_int Trym.underlying3 w3) trodAll_mk0)))), rfl, bel.frame _, fun h => by cases h⟩

theorem over : Rows.fnCutRowsRecutReusesRoomAndClearsRow.holds Trym.pinned (OpenSpec.ofChange Rows.fnCutRowsRecutReusesRoomAndClearsSpec) :=
  OpenClaim.holds_of_wide 5 Trym.f5 rfl rfl rfl rfl rfl rfl rfl ⟨rfl, rfl, rfl, rfl, rfl⟩ rfl rfl rfl rfl rfl (by kernel_rfl) Trym.func5 (by kernel_rfl)
    (of_decide_eq_true (by kernel_rfl)) (by unfold Func.isWrapper; first | (rw [if_pos (by decide +kernel)]; kernel_rfl) | (rw [if_neg (by decide +kernel)]; exact ⟨rfl, rfl⟩))
    (fun os started H enc _ => lifted os started H enc)

/-- ████ THE STATEMENT ████ -/
theorem proved : Rows.FnCutRowsRecutReusesRoomAndClearsSaid :=
  over
#print axioms proved
end Go.Proofs.Qxb6605221aMods.fnCutRowsRecutReusesRoomAndClears
