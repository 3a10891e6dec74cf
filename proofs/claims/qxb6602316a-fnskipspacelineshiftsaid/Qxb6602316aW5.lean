import Derived.Test.Qxb6602316aW4
namespace Go.Proofs.Qxb6602316a
open Go.RowKit
set_option linter.unusedVariables false
set_option maxRecDepth 100000

theorem law_out (a0 : Option Addr) (len cap : Nat) (p l : Int) (w : World) (hx : len ≤ 9223372036854775807) (h : 1048576 < len ∨ p < 0) :
    Calls Try.prog 5 #[.slice a0 len cap, .int .i64 p, .int .i64 l] w fun e w' => e = .returned (.bool true) ∧ w' = w := by
  by_cases h0 : 1048576 < len
  · go_enter Try.func5, Try.ntmps5
    go_wp2_with (go_at_call 12; refine (bytes_no _ len cap _ _ _ h0).mono ?_; rintro e w' ⟨rfl, rfl⟩)
    go_ret
    exact ⟨rfl, rfl⟩
  · have h1 : p < 0 := by omega
    clear h
    go_enter Try.func5, Try.ntmps5
    go_wp2_with (go_at_call 12; refine (bytes_yes _ len cap _ _ _ (by omega)).mono ?_; rintro e w' ⟨rfl, rfl⟩)
    go_ret
    exact ⟨rfl, rfl⟩

/-- No byte: nil, or empty. -/
theorem law_nil (p : Nat) (l : Int) (w : World) (hL : Line l) :
    Calls Try.prog 5 #[.slice none 0 0, .int .i64 p, .int .i64 l] w fun e w' => e = .returned (.bool true) ∧ Below w.heap.size w w' := by
  obtain ⟨l1, l2⟩ := hL
  have i0 : (0 : Int) ≤ (p : Int) := by omega
  go_enter Try.func5, Try.ntmps5
  go_wp2_with fail
  refine (bytes_yes _ 0 0 _ _ _ (by omega)).mono ?_
  rintro e w' ⟨rfl, hw⟩
  rw [hw]; clear hw w'
  go_wp2_with fail
  refine (clone_nil w).mono ?_
  rintro e w' ⟨rfl, hw⟩
  rw [hw]; clear hw w'
  go_wp2_with fail
  refine (zzskip_zero none 0 p l w).mono ?_
  rintro e w1 ⟨rfl, hb⟩
  have B1 := hide hb
  clear hb
  go_wp2_with fail
  refine (zzskip_zero none 0 p 0 w1).mono ?_
  rintro e w2 ⟨rfl, hb⟩
  have B2 := hide (chain B1.out hb)
  clear hb B1
  go_wp2
  go_ret
  exact ⟨rfl, B2.out⟩

theorem law_zero (x : Addr) (cap : Nat) (p : Nat) (l : Int) (w : World) (hL : Line l) :
    Calls Try.prog 5 #[.slice (some x) 0 cap, .int .i64 p, .int .i64 l] w fun e w' => e = .returned (.bool true) ∧ Below w.heap.size w w' := by
  obtain ⟨l1, l2⟩ := hL
  have i0 : (0 : Int) ≤ (p : Int) := by omega
  go_enter Try.func5, Try.ntmps5
  go_wp2_with fail
  refine (bytes_yes _ 0 cap _ _ _ (by omega)).mono ?_
  rintro e w' ⟨rfl, hw⟩
  rw [hw]; clear hw w'
  go_wp2_with fail
  refine (clone_zero x cap w).mono ?_
  rintro e w0 ⟨rfl, hb⟩
  have B0 := hide hb
  clear hb
  go_wp2_with fail
  refine (zzskip_zero _ 0 p l w0).mono ?_
  rintro e w1 ⟨rfl, hb⟩
  have B1 := hide (chain B0.out hb)
  clear hb B0
  go_wp2_with fail
  refine (zzskip_zero _ 0 p 0 w1).mono ?_
  rintro e w2 ⟨rfl, hb⟩
  have B2 := hide (chain B1.out hb)
  clear hb B1
  go_wp2
  go_ret
  exact ⟨rfl, B2.out⟩

theorem law_main (b off len cap : Nat) (z : Nat → Int) (p : Nat) (l : Int) (w : World) (hb : b < w.heap.size) (hl : len ≤ 1048576) (hL : Line l) (hc : ∀ j, j < len → w.cell? ⟨b, off + j, none⟩ = some (.int .u8 (z j))) :
    Calls Try.prog 5 #[.slice (some ⟨b, off, none⟩) len cap, .int .i64 p, .int .i64 l] w fun e w' => e = .returned (.bool true) ∧ Below w.heap.size w w' := by
  have C := hide hc
  have LL := hide hL
  have i0 : (0 : Int) ≤ (p : Int) := by omega
  clear hc hL
  go_enter Try.func5, Try.ntmps5
  go_wp2_with fail
  refine (bytes_yes _ len cap _ _ _ hl).mono ?_
  rintro e w' ⟨rfl, hw⟩
  rw [hw]; clear hw w'
  go_wp2_with fail
  refine (clone_any b off len cap z w hb hl C.out).mono ?_
  rintro e w1 ⟨rfl, own⟩
  have B1 := hide own.bel
  have R1 := hide own.row
  clear own C
  go_wp2_with fail
  refine (zzskip_any w.heap.size len len z p l w1 hl LL.out R1.out).mono ?_
  rintro e w2 ⟨rfl, hbel⟩
  have B2 := hide (chain B1.out hbel)
  have R2 := hide (R1.out.below hbel)
  clear hbel B1 R1
  have ew : (wrap64 (l + ((skip z len (len - p) p).2 : Nat)) == wrap64 (l + wrap64 (0 + ((skip z len (len - p) p).2 : Nat)))) = true := by rw [wrap_shift]; simp
  have EW := hide ew
  clear ew
  generalize hA : wrap64 (l + ((skip z len (len - p) p).2 : Nat)) = A at *
  have HA := hide hA
  clear hA
  go_wp2_with fail
  refine (zzskip_any w.heap.size len len z p 0 w2 hl ⟨by omega, by omega⟩ R2.out).mono ?_
  rintro e w3 ⟨rfl, hbel⟩
  have B3 := hide (chain B2.out hbel)
  clear hbel B2 R2 HA
  generalize (skip z len (len - p) p).1 = S at *
  generalize wrap64 (0 + ((skip z len (len - p) p).2 : Nat)) = B at *
  have ew := EW.out
  go_wp2
  go_ret
  exact ⟨rfl, B3.out⟩
end Go.Proofs.Qxb6602316a
