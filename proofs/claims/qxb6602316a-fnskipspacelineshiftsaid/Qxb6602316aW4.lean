import Derived.Test.Qxb6602316aW3
namespace Go.Proofs.Qxb6602316a
open Go.RowKit
set_option linter.unusedVariables false
set_option maxRecDepth 100000

theorem below_of {w w1 w2 : World} {O : Obj} (hw : w1 = w.alloc O) (hg : w1.grownBy w2 (some w.heap.size)) : Below w.heap.size w w2 := by
  subst hw
  refine ⟨hg.os, hg.tape, hg.output, ?_, fun k hk => ?_⟩
  · have := hg.size; simp at this; omega
  · rw [hg.block k (by simp; omega) (by simp; omega), Below.heap_alloc _ _ _ hk]

/-- The line number is within int. -/
def Line (l : Int) : Prop := -9223372036854775808 ≤ l ∧ l ≤ 9223372036854775807

set_option maxHeartbeats 400000 in
theorem zzskip_any (b len cap : Nat) (y : Nat → Int) (p : Nat) (l : Int) (w : World) (hl : len ≤ 1048576) (hL : Line l) (hR : Row w b len y) :
    Calls Try.prog 8 #[.slice (some ⟨b, 0, none⟩) len cap, .int .i64 p, .int .i64 l] w fun e w' =>
      e = .returned (.tuple #[.int .i64 ((skip y len (len - p) p).1 : Nat), .int .i64 (wrap64 (l + ((skip y len (len - p) p).2 : Nat)))]) ∧ Below w.heap.size w w' := by
  have R := hide hR
  have hlt := hR.lt
  have e0 : wrap64 (l + 0) = l := by rw [Int.add_zero]; exact IntWalk.wrap64_in _ hL
  have E0 := hide e0
  clear hR hL e0
  go_enter Try.func8, Try.ntmps8
  go_wp2_with fail
  have SC : Hid (Scan (w.alloc (.cells #[.slice (some ⟨b, 0, none⟩) len cap, .int .i64 p, .int .i64 l] 30)) (w.alloc (.cells #[.slice (some ⟨b, 0, none⟩) len cap, .int .i64 p, .int .i64 l] 30)) w.heap.size b len cap y p (wrap64 (l + 0))) :=
    ⟨by simp [go_sem], by simp [go_sem], by rw [E0.out]; simp [go_sem], by simp [go_sem], by simp [go_sem], by omega, R.out.below (by go_grown), ⟨rfl, rfl, rfl, Nat.le_refl _, fun _ _ _ => rfl⟩⟩
  refine (skip_any w.heap.size b len cap y p l _ hl SC.out).mono ?_
  rintro e w2 ⟨rfl, h2⟩
  have k1 := h2.k1
  have k2 := h2.k2
  have B := hide (below_of rfl h2.g)
  clear h2 SC R
  go_wp2
  go_quiet (fail)
  go_wp2
  go_ret2
  exact ⟨rfl, B.out.trans (below_drewN _ _ _)⟩

theorem skip_zero (c : Nat) (a : Option Addr) (cap : Nat) (p : Nat) (w : World) (k0 : w.cell? ⟨c, 0, none⟩ = some (.slice a 0 cap)) (k1 : w.cell? ⟨c, 1, none⟩ = some (.int .i64 p)) :
    Calls Try.prog 13 #[.pointer (some ⟨c, 0, none⟩)] w fun e w' => e = .returned (.tuple #[]) ∧ ∃ n, w' = w.drewN n := by
  have i1 : (0 : Int) ≤ (p : Int) := by omega
  have d1 : decide ((p : Int) < 0) = false := by simp
  go_enter Try.func13, Try.ntmps13
  go_wp2
  refine wp_loop_rounds 1 ?_
  rw [rounds_succ]
  go_wp2
  go_quiet (fail)
  go_wp2
  go_returns
  exact ⟨rfl, _, rfl⟩

theorem zzskip_zero (a : Option Addr) (cap : Nat) (p : Nat) (l : Int) (w : World) :
    Calls Try.prog 8 #[.slice a 0 cap, .int .i64 p, .int .i64 l] w fun e w' => e = .returned (.tuple #[.int .i64 p, .int .i64 l]) ∧ Below w.heap.size w w' := by
  go_enter Try.func8, Try.ntmps8
  go_wp2_with fail
  refine (skip_zero w.heap.size a cap p _ (by simp [go_sem]) (by simp [go_sem])).mono ?_
  rintro e w2 ⟨rfl, n, rfl⟩
  go_wp2
  go_quiet (fail)
  go_wp2
  go_ret2
  exact ⟨rfl, (((Below.refl _ w).alloc (Nat.le_refl _) _).trans (below_drewN _ _ _)).trans (below_drewN _ _ _)⟩
end Go.Proofs.Qxb6602316a
