/-
  THE PROOF OF 'Rows.FnTakeTakesTheFirstSegmentAfterItsTextSaid'. The frame is the shell that was given with the statement, its end turned to 'Below' (as in the shells over slices); the walk goes by Qxb6602171aW1 .. W5.
-/
import Derived.Test.Qxb6602171aRows
import Derived.Test.Qxb6602171aW5
import Derived.WalkKit
import Derived.ProofKit
import Derived.OpenShut
import Derived.ShutString
import Derived.ChangeOld
import Derived.Below
namespace Go.Proofs.Qxb6602171a.fnTakeTakesTheFirstSegmentAfterItsText
open Go.ChangeShapes Go.WideShapes Go.ChangeAt Go.RowKit
open Go.ChangeMaps (open_string shut_string)
set_option linter.unusedVariables false      -- a walk need not use every 'w<i>' (that an integer argument fits its kind)

theorem own : ownKnob Try.prog.godebug = none := by kernel_rfl

theorem u32_bounds {a : Int} (h : (Lit.int .u32 a).wf = true) : 0 ≤ a ∧ a ≤ 4294967295 := bounds_u32 h

/-! ### STEP 1: THE WALK -/
theorem walk (a0 : Int) (a1 : Int) (a2 : ByteArray) (a3 : Int) (a4 : ByteArray) (w0 : (Lit.int .u32 a0).wf = true) (w1 : (Lit.int .u32 a1).wf = true) (w2 : a2.size ≤ maxLen) (w3 : (Lit.int .u32 a3).wf = true) (w4 : a4.size ≤ maxLen) (w : World) :
    Calls Try.prog 3 #[.int .u32 a0, .int .u32 a1, .string a2, .int .u32 a3, .string a4] w fun e w' => e = .returned (.bool true) ∧ Below w.heap.size w w' := by
  obtain ⟨b0, c0⟩ := u32_bounds w0
  obtain ⟨b1, c1⟩ := u32_bounds w1
  obtain ⟨b3, c3⟩ := u32_bounds w3
  obtain ⟨st, rfl⟩ := Int.eq_ofNat_of_zero_le b0
  obtain ⟨en, rfl⟩ := Int.eq_ofNat_of_zero_le b1
  obtain ⟨fr, rfl⟩ := Int.eq_ofNat_of_zero_le b3
  by_cases hl : a2.size + a4.size ≤ 1048576
  · by_cases hF : 2 ≤ st ∧ fr ≤ st - 2 ∧ st ≤ en ∧ en ≤ a2.size
    · have F : Fits a2 st en fr a4 := ⟨hF.1, hF.2.1, hF.2.2.1, hF.2.2.2, hl⟩
      obtain ⟨o, ho⟩ := OptIs.some a2 en
      by_cases hh : Hit a4 (a2.extract fr (st - 2))
      · have hs : st - 1 < a2.size := by omega
        cases h3 : ((a2[st - 1].toNat : Int) == 42) with
        | true => exact law_star st en fr a2 a4 w o F ho hh hs h3
        | false => exact law_seg st en fr a2 a4 w o F ho hh hs h3
      · exact law_miss st en fr a2 a4 w o F ho hh
    · refine (law_out st en fr a2 a4 w hl (by omega) (by omega) (by omega) hF).mono ?_
      rintro e w' ⟨rfl, rfl⟩
      exact ⟨rfl, Below.refl _ _⟩
  · refine (law_long _ _ _ a2 a4 w w2 w4 hl).mono ?_
    rintro e w' ⟨rfl, rfl⟩
    exact ⟨rfl, Below.refl _ _⟩

/-! ### THE ROW's STEP: WRITTEN OUT: LEAVE IT -/
set_option maxRecDepth 100000 in
theorem lifted (os : Os) (started : os.Started) (H : Type) (enc : TypeId × Value → H) :
    ReturnsInHanded {} Try.checked os 3 .any (Rows.fnTakeTakesTheFirstSegmentAfterItsTextSpec.pre6 enc Try.prog Try.f3 Rows.fnTakeTakesTheFirstSegmentAfterItsTextRow.domain false) (Rows.fnTakeTakesTheFirstSegmentAfterItsTextSpec.post enc Try.prog Try.f3 false true false false) := by
  refine returnsInHanded_of_change (C := Try.checked) own started (by kernel_rfl) Try.func3
    (ChangeSpec.witness6 (enc := enc) (C := Try.checked) false ⟨#[], #[.int .u32 0, .int .u32 0, .string ByteArray.empty, .int .u32 0, .string ByteArray.empty], []⟩ 8 (by kernel_rfl) (by kernel_rfl) (by kernel_rfl) (by kernel_rfl)) ?_
  intro W base args ds gs before hval0 hW hcnd _
  have hval : ∀ (j : Nat) t v, Try.f3.params[j]? = some t → args[j]? = some v → Value.okWide Try.prog W .any base t v := hval0
  have hW' := hW
  obtain ⟨p, q, hA0, hV, rfl, hfz, hnd⟩ := hW
  have hA : DataW.TrodAll enc Try.prog W 0 (fun _ => true) true Try.f3.params.toList args.toList ds p := hA0
  rw [Try.params3] at hA hval
  obtain ⟨v0, vs0, d0, ds0, p0, q0, hargs, rfl, rfl, h0, r0⟩ := trodAll_cons hA
  obtain ⟨v1, vs1, d1, ds1, p1, q1, rfl, rfl, rfl, h1, r1⟩ := trodAll_cons r0
  obtain ⟨v2, vs2, d2, ds2, p2, q2, rfl, rfl, rfl, h2, r2⟩ := trodAll_cons r1
  obtain ⟨v3, vs3, d3, ds3, p3, q3, rfl, rfl, rfl, h3, r3⟩ := trodAll_cons r2
  obtain ⟨v4, vs4, d4, ds4, p4, q4, rfl, rfl, rfl, h4, r4⟩ := trodAll_cons r3
  obtain ⟨rfl, rfl, rfl⟩ := trodAll_nil r4
  obtain rfl : args = #[v0, v1, v2, v3, v4] := by cases args; simp_all
  obtain ⟨rfl, rfl⟩ := trodVars_none hV
  obtain ⟨a0, rfl, rfl, rfl, w0⟩ := open_int Try.underlying22 (hval 0 22 v0 rfl rfl) h0
  obtain ⟨a1, rfl, rfl, rfl, w1⟩ := open_int Try.underlying22 (hval 1 22 v1 rfl rfl) h1
  obtain ⟨a2, rfl, rfl, rfl, w2⟩ := open_string Try.underlying9 (hval 2 9 v2 rfl rfl) h2
  obtain ⟨a3, rfl, rfl, rfl, w3⟩ := open_int Try.underlying22 (hval 3 22 v3 rfl rfl) h3
  obtain ⟨a4, rfl, rfl, rfl, w4⟩ := open_string Try.underlying9 (hval 4 9 v4 rfl rfl) h4
  clear hA0 hval0
  refine (walk a0 a1 a2 a3 a4 w0 w1 w2 w3 w4 W).mono fun e W' ⟨he, bel⟩ => ?_
  subst he
  exact ⟨_, rfl, _, _, _, [], _, [], hW', trodAll_mk1 (shut_bool Try.underlying4 _), (trodAll_cons_mk (shut_int Try.underlying22 w0) (trodAll_cons_mk (shut_int Try.underlying22 w1) (trodAll_cons_mk (shut_string Try.underlying9 w2) (trodAll_cons_mk (shut_int Try.underlying22 w3) (trodAll_cons_mk (shut_string Try.underlying9 w4) trodAll_mk0))))), rfl, bel.frame _, fun h => by cases h⟩

theorem over : Rows.fnTakeTakesTheFirstSegmentAfterItsTextRow.holds Try.pinned (OpenSpec.ofChange Rows.fnTakeTakesTheFirstSegmentAfterItsTextSpec) :=
  OpenClaim.holds_of_wide 3 Try.f3 rfl rfl rfl rfl rfl rfl rfl ⟨rfl, rfl, rfl, rfl, rfl⟩ rfl rfl rfl rfl rfl (by kernel_rfl) Try.func3 (by kernel_rfl)
    (of_decide_eq_true (by kernel_rfl)) (by unfold Func.isWrapper; first | (rw [if_pos (by decide +kernel)]; kernel_rfl) | (rw [if_neg (by decide +kernel)]; exact ⟨rfl, rfl⟩))
    (fun os started H enc _ => lifted os started H enc)

/-- ████ THE STATEMENT ████ -/
theorem proved : Rows.FnTakeTakesTheFirstSegmentAfterItsTextSaid :=
  over
end Go.Proofs.Qxb6602171a.fnTakeTakesTheFirstSegmentAfterItsText
