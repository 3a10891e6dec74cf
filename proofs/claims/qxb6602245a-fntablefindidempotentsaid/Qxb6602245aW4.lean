import Derived.Test.Qxb6602245aW3
namespace Go.Proofs.Qxb6602245a
open Go.RowKit
set_option linter.unusedVariables false
set_option maxRecDepth 100000

theorem grown_of {w w1 w2 : World} {b : Nat} {y' : Nat → Int} {r len : Nat} {O : Obj} (hw : w1 = w.alloc O) (hF : FPost w1 w2 w.heap.size b len y' r) : w.grownBy w2 (some b) := by
  subst hw
  refine ⟨hF.os, hF.tape, hF.output, ?_, fun k hk hkb => ?_⟩
  · have := hF.size; simp at this; omega
  · rw [hF.block k (by simp; omega) (by simpa using hkb) (by omega), Below.heap_alloc _ _ _ hk]
theorem grown_drewN {w w2 : World} {b : Option Nat} (h : w.grownBy w2 b) (n : Nat) : w.grownBy (w2.drewN n) b := ⟨h.os, h.tape, h.output, h.size, h.block⟩

set_option maxHeartbeats 400000 in
theorem zzfind_any (b len bt cx r0 r1 r2 : Nat) (row st : Int) (y : Nat → Int) (w : World) (hb1 : 2 ≤ bt) (hb2 : bt ≤ 16) (hl : len ≤ 1048576) (hl2 : 64 ≤ len) (hcx : cx ≤ 4294967295)
    (hR : Row w b len y) (hP : Places len cx r0 r1 r2) :
    Calls Try.prog 10 #[.slice (some ⟨b, 0, none⟩) len len, .int .u64 bt, .int .u32 row, .int .u8 st, .int .u32 cx] w fun e w' =>
      e = .returned (.tuple #[.slice (some ⟨b, 0, none⟩) len len, .int .u64 bt, .int .u32 (fRow y r0 r1 r2 ((cx : Int) / 2 ^ bt % 256)), .int .u8 st]) ∧ w.grownBy w' (some b) ∧ Row w' b len (fY y r0 r1 r2 ((cx : Int) / 2 ^ bt % 256)) := by
  have R := hide hR
  have P := hide hP
  have hlt := hR.lt
  clear hR hP
  go_enter Try.func10, Try.ntmps10
  go_wp2_with fail
  have T : Hid (Tab (w.alloc (.cells #[.slice (some ⟨b, 0, none⟩) len len, .int .u64 bt, .int .u32 row, .int .u8 st] 45)) w.heap.size b len bt row st) :=
    ⟨by simp, by omega, by simp [go_sem], by simp [go_sem], by simp [go_sem], by simp [go_sem], by simp [go_sem]⟩
  have R1 : Hid (Row (w.alloc (.cells #[.slice (some ⟨b, 0, none⟩) len len, .int .u64 bt, .int .u32 row, .int .u8 st] 45)) b len y) := R.out.below (by go_grown)
  refine (find_any w.heap.size b len bt cx r0 r1 r2 row st y _ hb1 hb2 hl hl2 hcx T.out R1.out P.out).mono ?_
  rintro e w2 ⟨rfl, hF⟩
  have k0 := hF.k0.trans T.out.k0
  have k1 := hF.k1.trans T.out.k1
  have k2 := hF.k2
  have k3 := hF.k3.trans T.out.k3
  have G := hide (grown_of rfl hF)
  have RR := hide hF.row
  clear hF T R1 R P
  go_wp2
  go_quiet (fail)
  go_wp2
  exact bodyPost_ret (v := .tuple #[.slice (some ⟨b, 0, none⟩) len len, .int .u64 bt, .int .u32 (fRow y r0 r1 r2 ((cx : Int) / 2 ^ bt % 256)), .int .u8 st]) (by simp [results, Try.results10, go_sem]) rfl ⟨rfl, grown_drewN G.out _, RR.out.drewN _⟩
end Go.Proofs.Qxb6602245a
