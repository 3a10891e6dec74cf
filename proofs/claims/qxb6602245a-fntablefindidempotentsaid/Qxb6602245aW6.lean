import Derived.Test.Qxb6602245aW5
namespace Go.Proofs.Qxb6602245a
open Go.RowKit
set_option linter.unusedVariables false
set_option maxRecDepth 100000

theorem pow_int (bt : Nat) : ((2 : Int) ^ bt) = ((2 ^ bt : Nat) : Int) := by simp

/-- The row at r, emptied as far as k. -/
def pblank (y : Nat → Int) (r : Nat) (chk : Int) (k : Nat) : Nat → Int := fun j => if j = r then chk else if r < j ∧ j < r + k then 0 else y j
theorem pblank_start (y : Nat → Int) (r : Nat) (chk : Int) : upd y r chk = pblank y r chk 1 := by
  funext j
  unfold upd pblank
  by_cases e : j = r
  · simp [e]
  · rw [if_neg e, if_neg e, if_neg (by omega)]
theorem pblank_step (y : Nat → Int) (r : Nat) (chk : Int) (k : Nat) (hk : 1 ≤ k) : upd (pblank y r chk k) (r + k) 0 = pblank y r chk (k + 1) := by
  funext j
  unfold upd pblank
  by_cases e : j = r + k
  · rw [if_pos e, if_neg (by omega), if_pos (by omega)]
  · rw [if_neg e]
    by_cases e2 : j = r
    · rw [if_pos e2, if_pos e2]
    · rw [if_neg e2, if_neg e2]
      by_cases e3 : r < j ∧ j < r + k
      · rw [if_pos e3, if_pos (by omega)]
      · rw [if_neg e3, if_neg (by omega)]

theorem start_rows {w w5 : World} {gW len r : Nat} {z y2 : Nat → Int} (hW : Row w5 gW len z) (hR : Row w5 w.heap.size len y2) (hB : Below w.heap.size w w5) (h : w.heap.size < gW) (hr : r < len) (o : Obj) (n : Nat) (chk : Int) :
    Row (((w5.alloc o).drewN n).setCell ⟨gW, r, none⟩ (.int .u8 chk)) gW len (pblank z r chk 1) ∧ Row (((w5.alloc o).drewN n).setCell ⟨gW, r, none⟩ (.int .u8 chk)) w.heap.size len y2 ∧ Below w.heap.size w (((w5.alloc o).drewN n).setCell ⟨gW, r, none⟩ (.int .u8 chk)) := by
  have X : Below w5.heap.size w5 ((w5.alloc o).drewN n) := ((Below.refl _ w5).alloc (Nat.le_refl _) o).trans (below_drewN _ _ _)
  have a := (hW.below X).set r hr chk
  rw [pblank_start] at a
  exact ⟨a, (hR.below X).other (by omega) _ _, (chain hB X).setCell (by show w.heap.size ≤ gW; omega) _⟩

/-- The sizes do not fit: the law says nothing. -/
theorem law3_out (a0 : Option Addr) (len cap bt : Nat) (row st cx : Int) (w : World) (hl : len ≤ 9223372036854775807) (h : ¬ (2 ≤ bt ∧ bt ≤ 16 ∧ len = 16 * 2 ^ bt)) (hbt : bt ≤ 18446744073709551615) :
    Calls Try.prog 3 #[.slice a0 len cap, .int .u64 bt, .int .u32 row, .int .u8 st, .int .u32 cx] w fun e w' => e = .returned (.bool true) ∧ w' = w := by
  by_cases h0 : 1048576 < len
  · go_enter Try.func3, Try.ntmps3
    go_wp2_with (go_at_call 8; refine (bytes_no _ len cap _ _ _ _ _ h0).mono ?_; rintro e w' ⟨rfl, rfl⟩)
    go_ret
    exact ⟨rfl, rfl⟩
  by_cases h1 : bt < 2
  · have d1 : decide ((bt : Int) < 2) = true := by simp; omega
    clear h
    go_enter Try.func3, Try.ntmps3
    go_wp2_with (go_at_call 8; refine (bytes_yes _ len cap _ _ _ _ _ (by omega)).mono ?_; rintro e w' ⟨rfl, rfl⟩)
    go_ret
    exact ⟨rfl, rfl⟩
  have d1 : decide ((bt : Int) < 2) = false := by simp; omega
  by_cases h2 : 16 < bt
  · clear h
    go_enter Try.func3, Try.ntmps3
    go_wp2_with (go_at_call 8; refine (bytes_yes _ len cap _ _ _ _ _ (by omega)).mono ?_; rintro e w' ⟨rfl, rfl⟩)
    go_ret
    exact ⟨rfl, rfl⟩
  obtain ⟨n1, n2⟩ := two_pow_bounds (bt := bt) (by omega) (by omega)
  have hb : bt ≤ 16 := by omega
  have d2 : ((len : Int) != wrap64 (16 * 2 ^ bt)) = true := by
    rw [bne_iff_ne, pow_int, IntWalk.wrap64_in _ ⟨by omega, by omega⟩]
    omega
  clear h
  go_enter Try.func3, Try.ntmps3
  go_wp2_with (go_at_call 8; refine (bytes_yes _ len cap _ _ _ _ _ (by omega)).mono ?_; rintro e w' ⟨rfl, rfl⟩)
  go_ret
  exact ⟨rfl, rfl⟩

set_option maxHeartbeats 4000000 in
theorem law3_main (b off len cap bt cx : Nat) (z : Nat → Int) (row st : Int) (w : World) (hb : b < w.heap.size) (hc : ∀ j, j < len → w.cell? ⟨b, off + j, none⟩ = some (.int .u8 (z j)))
    (hb1 : 2 ≤ bt) (hb2 : bt ≤ 16) (hlen : len = 16 * 2 ^ bt) (hcx : cx ≤ 4294967295) :
    Calls Try.prog 3 #[.slice (some ⟨b, off, none⟩) len cap, .int .u64 bt, .int .u32 row, .int .u8 st, .int .u32 cx] w fun e w' => e = .returned (.bool true) ∧ Below w.heap.size w w' := by
  obtain ⟨n1, n2⟩ := two_pow_bounds hb1 hb2
  have hl : len ≤ 1048576 := by omega
  have hl2 : 64 ≤ len := by omega
  have d1 : decide ((bt : Int) < 2) = false := by simp; omega
  have d2 : ((len : Int) != 16 * 2 ^ bt) = false := by
    rw [bne_eq_false_iff_eq, pow_int]
    omega
  have p1 : (4 : Int) ≤ 2 ^ bt := by rw [pow_int]; omega
  have p2 : (2 : Int) ^ bt ≤ 65536 := by rw [pow_int]; omega
  have q1 : 0 ≤ (cx : Int) / 2 ^ bt := Int.ediv_nonneg (by omega) (by omega)
  have q2 : (cx : Int) / 2 ^ bt ≤ 4294967295 := Int.le_trans (Int.ediv_le_self _ (by omega)) (by omega)
  have C := hide hc
  have P : Hid (Places len cx (16 * (cx % 2 ^ bt)) (16 * ((cx % 2 ^ bt) ^^^ 1)) (16 * ((cx % 2 ^ bt) ^^^ 2))) := by rw [hlen]; exact places hb1 hb2 hcx
  clear hc n1 n2 hlen
  go_enter Try.func3, Try.ntmps3
  go_wp2_with fail
  refine (bytes_yes _ len cap _ _ _ _ _ hl).mono ?_
  rintro e w' ⟨rfl, hw⟩
  rw [hw]; clear hw w'
  go_wp2_with fail
  refine (clone_any b off len cap z w hb hl C.out).mono ?_
  rintro e w1 ⟨rfl, own⟩
  have B1 := hide own.bel
  have R1 := hide own.row
  have g1 := own.row.lt
  clear own C
  go_wp2_with fail
  refine (clone_any w.heap.size 0 len len z w1 g1 hl (fun j hj => by rw [Nat.zero_add]; exact R1.out.cell j hj)).mono ?_
  rintro e w2 ⟨rfl, own⟩
  have B2 := hide (chain B1.out own.bel)
  have R2 := hide (R1.out.below own.bel)
  have S2 := hide own.row
  have g2 := own.row.lt
  clear own R1 B1
  go_wp2_with fail
  refine (zzfind_any w.heap.size len bt cx _ _ _ row st z w2 hb1 hb2 hl hl2 hcx R2.out P.out).mono ?_
  rintro e w3 ⟨rfl, hg, hr⟩
  have B3 : Hid (Below w.heap.size w w3) := B2.out.trans ⟨hg.os, hg.tape, hg.output, hg.size, fun k hk => hg.block k (Nat.lt_of_lt_of_le hk (Nat.le_trans B2.out.size (Nat.le_refl _))) (by simp; omega)⟩
  have R3 := hide hr
  have S3 := hide (S2.out.kept hg (by omega))
  have g3 := S3.out.lt
  clear hg hr R2 S2 B2
  go_wp2_with fail
  have eH : (cx : Int) % 2 ^ bt = ((cx % 2 ^ bt : Nat) : Int) := by rw [pow_int]; simp
  have hh : cx % 2 ^ bt < 2 ^ bt := Nat.mod_lt _ (by omega)
  have hn : 2 ^ bt ≤ 65536 := by have := p2; rw [pow_int] at this; omega
  have eX1 : bits BinOp.xor IntKind.u32 ((cx % 2 ^ bt : Nat) : Int) 1 = (((cx % 2 ^ bt) ^^^ 1 : Nat) : Int) := u32_xor_nat _ 1 (by omega) (by decide)
  have eX2 : bits BinOp.xor IntKind.u32 ((cx % 2 ^ bt : Nat) : Int) 2 = (((cx % 2 ^ bt) ^^^ 2 : Nat) : Int) := u32_xor_nat _ 2 (by omega) (by decide)
  rw [eH, eX1, eX2]
  clear eH eX1 eX2 hh hn
  have l0 := P.out.l0
  have l1 := P.out.l1
  have l2 := P.out.l2
  clear P
  generalize cx % 2 ^ bt ^^^ 1 = h1 at *
  generalize cx % 2 ^ bt ^^^ 2 = h2 at *
  generalize cx % 2 ^ bt = h0 at *
  generalize (cx : Int) / 2 ^ bt % 256 = chk at *
  clear d1 d2 p1 p2 q1 q2 hb1 hb2 hcx hb
  generalize hrr : fRow z (16 * h0) (16 * h1) (16 * h2) chk = rr at *
  have RR := hide hrr
  clear hrr
  have B4 : Hid (Below w.heap.size w (w3.alloc (.cells #[.int .u32 h0, .int .u32 h1, .int .u32 h2] 29))) := B3.out.alloc B3.out.size _
  have R4 := hide (R3.out.below (w1 := w3.alloc (.cells #[.int .u32 h0, .int .u32 h1, .int .u32 h2] 29)) (by go_grown))
  have S4 := hide (S3.out.below (w1 := w3.alloc (.cells #[.int .u32 h0, .int .u32 h1, .int .u32 h2] 29)) (by go_grown))
  have a0 : (w3.alloc (.cells #[.int .u32 h0, .int .u32 h1, .int .u32 h2] 29)).cell? ⟨w3.heap.size, 0, none⟩ = some (.int .u32 h0) := by simp [go_sem]
  have a1 : (w3.alloc (.cells #[.int .u32 h0, .int .u32 h1, .int .u32 h2] 29)).cell? ⟨w3.heap.size, 1, none⟩ = some (.int .u32 h1) := by simp [go_sem]
  have a2 : (w3.alloc (.cells #[.int .u32 h0, .int .u32 h1, .int .u32 h2] 29)).cell? ⟨w3.heap.size, 2, none⟩ = some (.int .u32 h2) := by simp [go_sem]
  have g4 : w3.heap.size < (w3.alloc (.cells #[.int .u32 h0, .int .u32 h1, .int .u32 h2] 29)).heap.size := by simp
  clear B3 R3 S3
  generalize w3.alloc (.cells #[.int .u32 h0, .int .u32 h1, .int .u32 h2] 29) = w4 at *
  generalize w3.heap.size = gC at *
  refine (clone_any w1.heap.size 0 len len z w4 (by omega) hl (fun j hj => by rw [Nat.zero_add]; exact S4.out.cell j hj)).mono ?_
  rintro e w5 ⟨rfl, own⟩
  have B5 := hide (chain B4.out own.bel)
  have R5 := hide (R4.out.below own.bel)
  have S5 := hide (S4.out.below own.bel)
  have W5 := hide own.row
  have g5 := own.row.lt
  have b0 := (bcell own.bel gC 0 g4).trans a0
  have b1 := (bcell own.bel gC 1 g4).trans a1
  have b2 := (bcell own.bel gC 2 g4).trans a2
  clear own B4 R4 S4 a0 a1 a2
  generalize w4.heap.size = gW at *
  generalize w1.heap.size = gB at *
  have s0 : w5.cell? ⟨gB, h0 * 16, none⟩ = some (.int .u8 (z (16 * h0))) := by rw [Nat.mul_comm h0]; exact S5.out.cell _ (by omega)
  have s1 : w5.cell? ⟨gB, h1 * 16, none⟩ = some (.int .u8 (z (16 * h1))) := by rw [Nat.mul_comm h1]; exact S5.out.cell _ (by omega)
  have s2 : w5.cell? ⟨gB, h2 * 16, none⟩ = some (.int .u8 (z (16 * h2))) := by rw [Nat.mul_comm h2]; exact S5.out.cell _ (by omega)
  by_cases c0 : z (16 * h0) = chk
  · have n0 : (z (16 * h0) == chk) = true := by simp [c0]
    have ER : ((rr : Int) == (h0 : Int) * 16) = true := by have := RR.out.symm.trans (if_pos c0); rw [beq_iff_eq]; omega
    have R6 : Hid (Row w5 w.heap.size len z) := by have := R5.out; rw [show fY z (16 * h0) (16 * h1) (16 * h2) chk = z from if_pos c0] at this; exact this
    clear RR R5 c0
    go_wp2
    refine wp_loop_rounds 4 ?_
    iterate 4 (rw [rounds_succ]; go_wp2_with (go_at_call 11; refine (equal_any w.heap.size gW len len len z w5 hl R6.out W5.out).mono ?_; rintro e w6 ⟨rfl, nd, rfl⟩))
    go_ret
    exact ⟨rfl, B5.out.trans (below_drewN _ _ _)⟩
  have n0 : (z (16 * h0) == chk) = false := by simp [c0]
  by_cases c1 : z (16 * h1) = chk
  · have n1 : (z (16 * h1) == chk) = true := by simp [c1]
    have ER : ((rr : Int) == (h1 : Int) * 16) = true := by have := RR.out.symm.trans ((if_neg c0).trans (if_pos c1)); rw [beq_iff_eq]; omega
    have R6 : Hid (Row w5 w.heap.size len z) := by have := R5.out; rw [show fY z (16 * h0) (16 * h1) (16 * h2) chk = z from (if_neg c0).trans (if_pos c1)] at this; exact this
    clear RR R5 c0 c1
    go_wp2
    refine wp_loop_rounds 4 ?_
    iterate 4 (rw [rounds_succ]; go_wp2_with (go_at_call 11; refine (equal_any w.heap.size gW len len len z w5 hl R6.out W5.out).mono ?_; rintro e w6 ⟨rfl, nd, rfl⟩))
    go_ret
    exact ⟨rfl, B5.out.trans (below_drewN _ _ _)⟩
  have n1 : (z (16 * h1) == chk) = false := by simp [c1]
  by_cases c2 : z (16 * h2) = chk
  · have n2 : (z (16 * h2) == chk) = true := by simp [c2]
    have ER : ((rr : Int) == (h2 : Int) * 16) = true := by have := RR.out.symm.trans ((if_neg c0).trans ((if_neg c1).trans (if_pos c2))); rw [beq_iff_eq]; omega
    have R6 : Hid (Row w5 w.heap.size len z) := by have := R5.out; rw [show fY z (16 * h0) (16 * h1) (16 * h2) chk = z from (if_neg c0).trans ((if_neg c1).trans (if_pos c2))] at this; exact this
    clear RR R5 c0 c1 c2
    go_wp2
    refine wp_loop_rounds 4 ?_
    iterate 4 (rw [rounds_succ]; go_wp2_with (go_at_call 11; refine (equal_any w.heap.size gW len len len z w5 hl R6.out W5.out).mono ?_; rintro e w6 ⟨rfl, nd, rfl⟩))
    go_ret
    exact ⟨rfl, B5.out.trans (below_drewN _ _ _)⟩
  have n2 : (z (16 * h2) == chk) = false := by simp [c2]
  have EY : Hid (fY z (16 * h0) (16 * h1) (16 * h2) chk = blank z (pick z (16 * h0) (16 * h1) (16 * h2)) chk) := (if_neg c0).trans ((if_neg c1).trans (if_neg c2))
  have ER : Hid (rr = pick z (16 * h0) (16 * h1) (16 * h2)) := RR.out.symm.trans ((if_neg c0).trans ((if_neg c1).trans (if_neg c2)))
  clear RR c0 c1 c2
  have t0 : w5.cell? ⟨gB, h0 * 16 + 1, none⟩ = some (.int .u8 (z (16 * h0 + 1))) := by rw [Nat.mul_comm h0]; exact S5.out.cell _ (by omega)
  have t1 : w5.cell? ⟨gB, h1 * 16 + 1, none⟩ = some (.int .u8 (z (16 * h1 + 1))) := by rw [Nat.mul_comm h1]; exact S5.out.cell _ (by omega)
  have t2 : w5.cell? ⟨gB, h2 * 16 + 1, none⟩ = some (.int .u8 (z (16 * h2 + 1))) := by rw [Nat.mul_comm h2]; exact S5.out.cell _ (by omega)
  have v1 : gB < w5.heap.size := by omega
  have v2 : gC < w5.heap.size := by omega
  have i0 : (h0 : Int) * 16 + 1 < len := by omega
  have i1 : (h1 : Int) * 16 + 1 < len := by omega
  have i2 : (h2 : Int) * 16 + 1 < len := by omega
  by_cases q1 : z (16 * h2 + 1) < z (16 * h0 + 1)
  · by_cases q2 : z (16 * h1 + 1) < z (16 * h2 + 1)
    · skip
      have EP : pick z (16 * h0) (16 * h1) (16 * h2) = h1 * 16 := ((if_neg (by omega)).trans (if_pos q2)).trans (Nat.mul_comm _ _)
      have ER2 : ((rr : Int) == (h1 : Int) * 16) = true := by have := ER.out; rw [EP] at this; rw [beq_iff_eq]; omega
      have R6 : Hid (Row w5 w.heap.size len (blank z (h1 * 16) chk)) := by have := R5.out; rw [EY.out, EP] at this; exact this
      have x1 := W5.out.cell (h1 * 16) (by omega)
      have x2 := W5.out.froz (h1 * 16) (by omega)
      have lx : h1 * 16 + 16 ≤ len := by omega
      clear EP ER R5 EY S5
      go_wp2
      refine wp_loop_rounds 4 ?_
      iterate 4 (rw [rounds_succ]; go_wp2_with fail)
      refine wp_loop_rounds 3 ?_
      rw [rounds_succ]
      go_wp2
      go_quiet (fail)
      go_wp2
      rw [rounds_succ]
      go_wp2
      go_quiet (fail)
      go_wp2
      rw [rounds_succ]
      go_wp2
      clear b0 b1 b2 s0 s1 s2 n0 n1 n2 t0 t1 t2 v1 v2 i0 i1 i2 q1 q2
      go_loopw [27] (fun s wr => ∃ k : Nat, 1 ≤ k ∧ k ≤ 16 ∧ s = .int .u32 k ∧ Row wr gW len (pblank z (h1 * 16) chk k) ∧ Row wr w.heap.size len (blank z (h1 * 16) chk) ∧ Below w.heap.size w wr) (fun s _ => 16 - (intOf s).toNat)
      case atStart => exact ⟨1, Nat.le_refl _, by decide, rfl, start_rows W5.out R6.out B5.out (by omega) (by omega) _ _ _⟩
      case round =>
        obtain ⟨k, hk1, hk2, rfl, rW, rR, rB⟩ := hrel
        have RW := hide rW
        have RR2 := hide rR
        have RB := hide rB
        clear rW rR rB x1 x2 R6 B5 W5
        by_cases hlt : k < 16
        · have x1 := RW.out.cell (h1 * 16 + k) (by omega)
          have x2 := RW.out.froz (h1 * 16 + k) (by omega)
          have i1 : (h1 : Int) * 16 + k < len := by omega
          go_wp2
          go_roundw
          case rel => exact ⟨k + 1, by omega, by omega, by go_num, by have := RW.out.set (h1 * 16 + k) (by omega) 0; rw [pblank_step _ _ _ _ hk1] at this; exact this, RR2.out.other (by omega) _ _, RB.out.setCell (by show w.heap.size ≤ gW; omega) _⟩
          case measure => simp [intOf]; omega
        · obtain rfl : k = 16 := by omega
          go_wp2_with (go_at_call 11; refine (equal_any w.heap.size gW len len len (blank z (h1 * 16) chk) _ hl RR2.out RW.out).mono ?_; rintro e w6 ⟨rfl, nd, rfl⟩)
          go_ret
          exact ⟨rfl, RB.out.trans (below_drewN _ _ _)⟩
    · skip
      have EP : pick z (16 * h0) (16 * h1) (16 * h2) = h2 * 16 := ((if_neg (by omega)).trans (if_neg q2)).trans (Nat.mul_comm _ _)
      have ER2 : ((rr : Int) == (h2 : Int) * 16) = true := by have := ER.out; rw [EP] at this; rw [beq_iff_eq]; omega
      have R6 : Hid (Row w5 w.heap.size len (blank z (h2 * 16) chk)) := by have := R5.out; rw [EY.out, EP] at this; exact this
      have x1 := W5.out.cell (h2 * 16) (by omega)
      have x2 := W5.out.froz (h2 * 16) (by omega)
      have lx : h2 * 16 + 16 ≤ len := by omega
      clear EP ER R5 EY S5
      go_wp2
      refine wp_loop_rounds 4 ?_
      iterate 4 (rw [rounds_succ]; go_wp2_with fail)
      refine wp_loop_rounds 3 ?_
      rw [rounds_succ]
      go_wp2
      go_quiet (fail)
      go_wp2
      rw [rounds_succ]
      go_wp2
      go_quiet (fail)
      go_wp2
      rw [rounds_succ]
      go_wp2
      clear b0 b1 b2 s0 s1 s2 n0 n1 n2 t0 t1 t2 v1 v2 i0 i1 i2 q1 q2
      go_loopw [27] (fun s wr => ∃ k : Nat, 1 ≤ k ∧ k ≤ 16 ∧ s = .int .u32 k ∧ Row wr gW len (pblank z (h2 * 16) chk k) ∧ Row wr w.heap.size len (blank z (h2 * 16) chk) ∧ Below w.heap.size w wr) (fun s _ => 16 - (intOf s).toNat)
      case atStart => exact ⟨1, Nat.le_refl _, by decide, rfl, start_rows W5.out R6.out B5.out (by omega) (by omega) _ _ _⟩
      case round =>
        obtain ⟨k, hk1, hk2, rfl, rW, rR, rB⟩ := hrel
        have RW := hide rW
        have RR2 := hide rR
        have RB := hide rB
        clear rW rR rB x1 x2 R6 B5 W5
        by_cases hlt : k < 16
        · have x1 := RW.out.cell (h2 * 16 + k) (by omega)
          have x2 := RW.out.froz (h2 * 16 + k) (by omega)
          have i1 : (h2 : Int) * 16 + k < len := by omega
          go_wp2
          go_roundw
          case rel => exact ⟨k + 1, by omega, by omega, by go_num, by have := RW.out.set (h2 * 16 + k) (by omega) 0; rw [pblank_step _ _ _ _ hk1] at this; exact this, RR2.out.other (by omega) _ _, RB.out.setCell (by show w.heap.size ≤ gW; omega) _⟩
          case measure => simp [intOf]; omega
        · obtain rfl : k = 16 := by omega
          go_wp2_with (go_at_call 11; refine (equal_any w.heap.size gW len len len (blank z (h2 * 16) chk) _ hl RR2.out RW.out).mono ?_; rintro e w6 ⟨rfl, nd, rfl⟩)
          go_ret
          exact ⟨rfl, RB.out.trans (below_drewN _ _ _)⟩
  · by_cases q2 : z (16 * h1 + 1) < z (16 * h0 + 1)
    · skip
      have EP : pick z (16 * h0) (16 * h1) (16 * h2) = h1 * 16 := ((if_neg (by omega)).trans (if_pos (by omega))).trans (Nat.mul_comm _ _)
      have ER2 : ((rr : Int) == (h1 : Int) * 16) = true := by have := ER.out; rw [EP] at this; rw [beq_iff_eq]; omega
      have R6 : Hid (Row w5 w.heap.size len (blank z (h1 * 16) chk)) := by have := R5.out; rw [EY.out, EP] at this; exact this
      have x1 := W5.out.cell (h1 * 16) (by omega)
      have x2 := W5.out.froz (h1 * 16) (by omega)
      have lx : h1 * 16 + 16 ≤ len := by omega
      clear EP ER R5 EY S5
      go_wp2
      refine wp_loop_rounds 4 ?_
      iterate 4 (rw [rounds_succ]; go_wp2_with fail)
      refine wp_loop_rounds 3 ?_
      rw [rounds_succ]
      go_wp2
      go_quiet (fail)
      go_wp2
      rw [rounds_succ]
      go_wp2
      go_quiet (fail)
      go_wp2
      rw [rounds_succ]
      go_wp2
      clear b0 b1 b2 s0 s1 s2 n0 n1 n2 t0 t1 t2 v1 v2 i0 i1 i2 q1 q2
      go_loopw [27] (fun s wr => ∃ k : Nat, 1 ≤ k ∧ k ≤ 16 ∧ s = .int .u32 k ∧ Row wr gW len (pblank z (h1 * 16) chk k) ∧ Row wr w.heap.size len (blank z (h1 * 16) chk) ∧ Below w.heap.size w wr) (fun s _ => 16 - (intOf s).toNat)
      case atStart => exact ⟨1, Nat.le_refl _, by decide, rfl, start_rows W5.out R6.out B5.out (by omega) (by omega) _ _ _⟩
      case round =>
        obtain ⟨k, hk1, hk2, rfl, rW, rR, rB⟩ := hrel
        have RW := hide rW
        have RR2 := hide rR
        have RB := hide rB
        clear rW rR rB x1 x2 R6 B5 W5
        by_cases hlt : k < 16
        · have x1 := RW.out.cell (h1 * 16 + k) (by omega)
          have x2 := RW.out.froz (h1 * 16 + k) (by omega)
          have i1 : (h1 : Int) * 16 + k < len := by omega
          go_wp2
          go_roundw
          case rel => exact ⟨k + 1, by omega, by omega, by go_num, by have := RW.out.set (h1 * 16 + k) (by omega) 0; rw [pblank_step _ _ _ _ hk1] at this; exact this, RR2.out.other (by omega) _ _, RB.out.setCell (by show w.heap.size ≤ gW; omega) _⟩
          case measure => simp [intOf]; omega
        · obtain rfl : k = 16 := by omega
          go_wp2_with (go_at_call 11; refine (equal_any w.heap.size gW len len len (blank z (h1 * 16) chk) _ hl RR2.out RW.out).mono ?_; rintro e w6 ⟨rfl, nd, rfl⟩)
          go_ret
          exact ⟨rfl, RB.out.trans (below_drewN _ _ _)⟩
    · skip
      have EP : pick z (16 * h0) (16 * h1) (16 * h2) = h0 * 16 := (if_pos ⟨by omega, by omega⟩).trans (Nat.mul_comm _ _)
      have ER2 : ((rr : Int) == (h0 : Int) * 16) = true := by have := ER.out; rw [EP] at this; rw [beq_iff_eq]; omega
      have R6 : Hid (Row w5 w.heap.size len (blank z (h0 * 16) chk)) := by have := R5.out; rw [EY.out, EP] at this; exact this
      have x1 := W5.out.cell (h0 * 16) (by omega)
      have x2 := W5.out.froz (h0 * 16) (by omega)
      have lx : h0 * 16 + 16 ≤ len := by omega
      clear EP ER R5 EY S5
      go_wp2
      refine wp_loop_rounds 4 ?_
      iterate 4 (rw [rounds_succ]; go_wp2_with fail)
      refine wp_loop_rounds 3 ?_
      rw [rounds_succ]
      go_wp2
      go_quiet (fail)
      go_wp2
      rw [rounds_succ]
      go_wp2
      go_quiet (fail)
      go_wp2
      rw [rounds_succ]
      go_wp2
      clear b0 b1 b2 s0 s1 s2 n0 n1 n2 t0 t1 t2 v1 v2 i0 i1 i2 q1 q2
      go_loopw [27] (fun s wr => ∃ k : Nat, 1 ≤ k ∧ k ≤ 16 ∧ s = .int .u32 k ∧ Row wr gW len (pblank z (h0 * 16) chk k) ∧ Row wr w.heap.size len (blank z (h0 * 16) chk) ∧ Below w.heap.size w wr) (fun s _ => 16 - (intOf s).toNat)
      case atStart => exact ⟨1, Nat.le_refl _, by decide, rfl, start_rows W5.out R6.out B5.out (by omega) (by omega) _ _ _⟩
      case round =>
        obtain ⟨k, hk1, hk2, rfl, rW, rR, rB⟩ := hrel
        have RW := hide rW
        have RR2 := hide rR
        have RB := hide rB
        clear rW rR rB x1 x2 R6 B5 W5
        by_cases hlt : k < 16
        · have x1 := RW.out.cell (h0 * 16 + k) (by omega)
          have x2 := RW.out.froz (h0 * 16 + k) (by omega)
          have i1 : (h0 : Int) * 16 + k < len := by omega
          go_wp2
          go_roundw
          case rel => exact ⟨k + 1, by omega, by omega, by go_num, by have := RW.out.set (h0 * 16 + k) (by omega) 0; rw [pblank_step _ _ _ _ hk1] at this; exact this, RR2.out.other (by omega) _ _, RB.out.setCell (by show w.heap.size ≤ gW; omega) _⟩
          case measure => simp [intOf]; omega
        · obtain rfl : k = 16 := by omega
          go_wp2_with (go_at_call 11; refine (equal_any w.heap.size gW len len len (blank z (h0 * 16) chk) _ hl RR2.out RW.out).mono ?_; rintro e w6 ⟨rfl, nd, rfl⟩)
          go_ret
          exact ⟨rfl, RB.out.trans (below_drewN _ _ _)⟩
end Go.Proofs.Qxb6602245a
