import Derived.Test.Qxb6602245aW6
namespace Go.Proofs.Qxb6602245a
open Go.RowKit
set_option linter.unusedVariables false
set_option maxRecDepth 100000

/-! ### A second find of the same context -/
theorem pick_mem (y : Nat → Int) (r0 r1 r2 : Nat) : pick y r0 r1 r2 = r0 ∨ pick y r0 r1 r2 = r1 ∨ pick y r0 r1 r2 = r2 := by
  unfold pick
  split
  · exact .inl rfl
  · split
    · exact .inr (.inl rfl)
    · exact .inr (.inr rfl)

theorem again {y : Nat → Int} {h0 h1 h2 : Nat} {chk : Int} {rr : Nat} {yy : Nat → Int} (hr : fRow y (16 * h0) (16 * h1) (16 * h2) chk = rr) (hy : fY y (16 * h0) (16 * h1) (16 * h2) chk = yy) :
    fRow yy (16 * h0) (16 * h1) (16 * h2) chk = rr ∧ fY yy (16 * h0) (16 * h1) (16 * h2) chk = yy ∧ yy rr = chk ∧ (rr = 16 * h0 ∨ rr = 16 * h1 ∨ rr = 16 * h2) := by
  by_cases c0 : y (16 * h0) = chk
  · have e1 : y = yy := by rw [← hy]; exact (if_pos c0).symm
    have e2 : 16 * h0 = rr := by rw [← hr]; exact (if_pos c0).symm
    subst e1
    exact ⟨hr, hy, by rw [← e2]; exact c0, .inl e2.symm⟩
  by_cases c1 : y (16 * h1) = chk
  · have e1 : y = yy := by rw [← hy]; exact ((if_neg c0).trans (if_pos c1)).symm
    have e2 : 16 * h1 = rr := by rw [← hr]; exact ((if_neg c0).trans (if_pos c1)).symm
    subst e1
    exact ⟨hr, hy, by rw [← e2]; exact c1, .inr (.inl e2.symm)⟩
  by_cases c2 : y (16 * h2) = chk
  · have e1 : y = yy := by rw [← hy]; exact ((if_neg c0).trans ((if_neg c1).trans (if_pos c2))).symm
    have e2 : 16 * h2 = rr := by rw [← hr]; exact ((if_neg c0).trans ((if_neg c1).trans (if_pos c2))).symm
    subst e1
    exact ⟨hr, hy, by rw [← e2]; exact c2, .inr (.inr e2.symm)⟩
  have e2 : pick y (16 * h0) (16 * h1) (16 * h2) = rr := by rw [← hr]; exact ((if_neg c0).trans ((if_neg c1).trans (if_neg c2))).symm
  have e1 : blank y rr chk = yy := by rw [← hy, ← e2]; exact ((if_neg c0).trans ((if_neg c1).trans (if_neg c2))).symm
  have hm := pick_mem y (16 * h0) (16 * h1) (16 * h2)
  rw [e2] at hm
  have hrr : yy rr = chk := by rw [← e1]; unfold blank; exact if_pos rfl
  have hk : ∃ k, rr = 16 * k := by
    rcases hm with h | h | h
    · exact ⟨_, h⟩
    · exact ⟨_, h⟩
    · exact ⟨_, h⟩
  have hno : ∀ k, y (16 * k) ≠ chk → yy (16 * k) = chk → 16 * k = rr := by
    intro k hn he
    obtain ⟨k', rfl⟩ := hk
    rw [← e1] at he
    unfold blank at he
    by_cases e : 16 * k = 16 * k'
    · exact e
    · rw [if_neg e, if_neg (by omega)] at he
      exact absurd he hn
  refine ⟨?_, ?_, hrr, hm⟩
  · by_cases d0 : yy (16 * h0) = chk
    · exact (if_pos d0).trans (hno _ c0 d0)
    by_cases d1 : yy (16 * h1) = chk
    · exact (if_neg d0).trans ((if_pos d1).trans (hno _ c1 d1))
    by_cases d2 : yy (16 * h2) = chk
    · exact (if_neg d0).trans ((if_neg d1).trans ((if_pos d2).trans (hno _ c2 d2)))
    rcases hm with h | h | h
    · exact absurd (h ▸ hrr) d0
    · exact absurd (h ▸ hrr) d1
    · exact absurd (h ▸ hrr) d2
  · by_cases d0 : yy (16 * h0) = chk
    · exact if_pos d0
    by_cases d1 : yy (16 * h1) = chk
    · exact (if_neg d0).trans (if_pos d1)
    by_cases d2 : yy (16 * h2) = chk
    · exact (if_neg d0).trans ((if_neg d1).trans (if_pos d2))
    rcases hm with h | h | h
    · exact absurd (h ▸ hrr) d0
    · exact absurd (h ▸ hrr) d1
    · exact absurd (h ▸ hrr) d2

theorem law4_out (a0 : Option Addr) (len cap bt : Nat) (row st cx : Int) (w : World) (hl : len ≤ 9223372036854775807) (h : ¬ (2 ≤ bt ∧ bt ≤ 16 ∧ len = 16 * 2 ^ bt)) (hbt : bt ≤ 18446744073709551615) :
    Calls Try.prog 4 #[.slice a0 len cap, .int .u64 bt, .int .u32 row, .int .u8 st, .int .u32 cx] w fun e w' => e = .returned (.bool true) ∧ w' = w := by
  by_cases h0 : 1048576 < len
  · go_enter Try.func4, Try.ntmps4
    go_wp2_with (go_at_call 12; refine (bytes2_no _ len cap _ _ _ _ _ h0).mono ?_; rintro e w' ⟨rfl, rfl⟩)
    go_ret
    exact ⟨rfl, rfl⟩
  by_cases h1 : bt < 2
  · have d1 : decide ((bt : Int) < 2) = true := by simp; omega
    clear h
    go_enter Try.func4, Try.ntmps4
    go_wp2_with (go_at_call 12; refine (bytes2_yes _ len cap _ _ _ _ _ (by omega)).mono ?_; rintro e w' ⟨rfl, rfl⟩)
    go_ret
    exact ⟨rfl, rfl⟩
  have d1 : decide ((bt : Int) < 2) = false := by simp; omega
  by_cases h2 : 16 < bt
  · clear h
    go_enter Try.func4, Try.ntmps4
    go_wp2_with (go_at_call 12; refine (bytes2_yes _ len cap _ _ _ _ _ (by omega)).mono ?_; rintro e w' ⟨rfl, rfl⟩)
    go_ret
    exact ⟨rfl, rfl⟩
  obtain ⟨n1, n2⟩ := two_pow_bounds (bt := bt) (by omega) (by omega)
  have hb : bt ≤ 16 := by omega
  have d2 : ((len : Int) != wrap64 (16 * 2 ^ bt)) = true := by
    rw [bne_iff_ne, pow_int, IntWalk.wrap64_in _ ⟨by omega, by omega⟩]
    omega
  clear h
  go_enter Try.func4, Try.ntmps4
  go_wp2_with (go_at_call 12; refine (bytes2_yes _ len cap _ _ _ _ _ (by omega)).mono ?_; rintro e w' ⟨rfl, rfl⟩)
  go_ret
  exact ⟨rfl, rfl⟩

set_option maxHeartbeats 1000000 in
theorem law4_main (b off len cap bt cx : Nat) (z : Nat → Int) (row st : Int) (w : World) (hb : b < w.heap.size) (hc : ∀ j, j < len → w.cell? ⟨b, off + j, none⟩ = some (.int .u8 (z j)))
    (hb1 : 2 ≤ bt) (hb2 : bt ≤ 16) (hlen : len = 16 * 2 ^ bt) (hcx : cx ≤ 4294967295) :
    Calls Try.prog 4 #[.slice (some ⟨b, off, none⟩) len cap, .int .u64 bt, .int .u32 row, .int .u8 st, .int .u32 cx] w fun e w' => e = .returned (.bool true) ∧ Below w.heap.size w w' := by
  obtain ⟨n1, n2⟩ := two_pow_bounds hb1 hb2
  have hl : len ≤ 1048576 := by omega
  have hl2 : 64 ≤ len := by omega
  have d1 : decide ((bt : Int) < 2) = false := by simp; omega
  have d2 : ((len : Int) != 16 * 2 ^ bt) = false := by
    rw [bne_eq_false_iff_eq, pow_int]
    omega
  have p1 : (4 : Int) ≤ 2 ^ bt := by rw [pow_int]; omega
  have p2 : (2 : Int) ^ bt ≤ 65536 := by rw [pow_int]; omega
  have q1 : 0 ≤ (cx : Int) / 2 ^ bt := Int.ediv_nonneg (by omega) (by omega)
  have q2 : (cx : Int) / 2 ^ bt ≤ 4294967295 := Int.le_trans (Int.ediv_le_self _ (by omega)) (by omega)
  have C := hide hc
  have P : Hid (Places len cx (16 * (cx % 2 ^ bt)) (16 * ((cx % 2 ^ bt) ^^^ 1)) (16 * ((cx % 2 ^ bt) ^^^ 2))) := by rw [hlen]; exact places hb1 hb2 hcx
  clear hc n1 n2 hlen
  go_enter Try.func4, Try.ntmps4
  go_wp2_with fail
  refine (bytes2_yes _ len cap _ _ _ _ _ hl).mono ?_
  rintro e w' ⟨rfl, hw⟩
  rw [hw]; clear hw w'
  go_wp2_with fail
  refine (clone_any b off len cap z w hb hl C.out).mono ?_
  rintro e w1 ⟨rfl, own⟩
  have B1 := hide own.bel
  have R1 := hide own.row
  have g1 := own.row.lt
  clear own C
  go_wp2_with fail
  refine (zzfind_any w.heap.size len bt cx _ _ _ row st z w1 hb1 hb2 hl hl2 hcx R1.out P.out).mono ?_
  rintro e w2 ⟨rfl, hg, hr⟩
  have B2 : Hid (Below w.heap.size w w2) := B1.out.trans ⟨hg.os, hg.tape, hg.output, hg.size, fun k hk => hg.block k (by omega) (by simp; omega)⟩
  have R2 := hide hr
  clear hg hr R1 B1
  have eH : (cx : Int) % 2 ^ bt = ((cx % 2 ^ bt : Nat) : Int) := by rw [pow_int]; simp
  have hh : cx % 2 ^ bt < 2 ^ bt := Nat.mod_lt _ (by omega)
  have hn : 2 ^ bt ≤ 65536 := by have := p2; rw [pow_int] at this; omega
  have eX1 : bits BinOp.xor IntKind.u32 ((cx % 2 ^ bt : Nat) : Int) 1 = (((cx % 2 ^ bt) ^^^ 1 : Nat) : Int) := u32_xor_nat _ 1 (by omega) (by decide)
  have eX2 : bits BinOp.xor IntKind.u32 ((cx % 2 ^ bt : Nat) : Int) 2 = (((cx % 2 ^ bt) ^^^ 2 : Nat) : Int) := u32_xor_nat _ 2 (by omega) (by decide)
  rw [eH]
  clear eH hh hn
  have l0 := P.out.l0
  have l1 := P.out.l1
  have l2 := P.out.l2
  generalize cx % 2 ^ bt ^^^ 1 = h1 at *
  generalize cx % 2 ^ bt ^^^ 2 = h2 at *
  generalize cx % 2 ^ bt = h0 at *
  generalize hK : (cx : Int) / 2 ^ bt % 256 = chk at *
  have CK := hide hK
  clear hK
  generalize hrr : fRow z (16 * h0) (16 * h1) (16 * h2) chk = rr at *
  generalize hyy : fY z (16 * h0) (16 * h1) (16 * h2) chk = yy at *
  obtain ⟨f1, f2, f3, f4⟩ := again hrr hyy
  have F1 := hide f1
  have F2 := hide f2
  have F3 := hide f3
  have F4 := hide f4
  clear hrr hyy f1 f2 f3 f4 d1 d2 p1 p2 q1 q2 hb
  have m0 : ((rr : Int) % 16 != 0) = false := by
    rw [bne_eq_false_iff_eq]
    rcases F4.out with h | h | h <;> omega
  have rl : rr < len := by rcases F4.out with h | h | h <;> omega
  have rl2 : (rr : Int) < len := by omega
  have T : (((rr : Int) / 16 == (h0 : Int)) = true) ∨ (((rr : Int) / 16 == (h0 : Int)) = false ∧ ((rr : Int) / 16 == (h1 : Int)) = true) ∨ (((rr : Int) / 16 == (h0 : Int)) = false ∧ ((rr : Int) / 16 == (h1 : Int)) = false ∧ ((rr : Int) / 16 == (h2 : Int)) = true) := by
    by_cases e0 : rr = 16 * h0
    · exact .inl (by rw [beq_iff_eq]; omega)
    by_cases e1 : rr = 16 * h1
    · exact .inr (.inl ⟨by rw [beq_eq_false_iff_ne]; omega, by rw [beq_iff_eq]; omega⟩)
    have e2 : rr = 16 * h2 := by
      rcases F4.out with h | h | h
      · exact absurd h e0
      · exact absurd h e1
      · exact h
    exact .inr (.inr ⟨by rw [beq_eq_false_iff_ne]; omega, by rw [beq_eq_false_iff_ne]; omega, by rw [beq_iff_eq]; omega⟩)
  clear F4
  have TT := hide T
  clear T
  rcases TT.out with t0 | ⟨t0, t1⟩ | ⟨t0, t1, t2⟩
  all_goals
    clear TT
    go_wp2_with fail
    refine (clone_any w.heap.size 0 len len yy w2 R2.out.lt hl (fun j hj => by rw [Nat.zero_add]; exact R2.out.cell j hj)).mono ?_
    rintro e w3 ⟨rfl, own⟩
    have B3 := hide (chain B2.out own.bel)
    have R3 := hide (R2.out.below own.bel)
    have A3 := hide own.row
    have g2 := R2.out.lt
    have x3 := own.row.cell rr rl
    rw [F3.out] at x3
    clear own B2 R2
    go_wp2_with fail
    refine (zzfind_any w.heap.size len bt cx _ _ _ rr st yy w3 hb1 hb2 hl hl2 hcx R3.out P.out).mono ?_
    rintro e w4 ⟨rfl, hg, hr⟩
    have B4 : Hid (Below w.heap.size w w4) := B3.out.trans ⟨hg.os, hg.tape, hg.output, hg.size, fun k hk => hg.block k (by have := R3.out.lt; omega) (by simp; omega)⟩
    rw [CK.out] at hr ⊢
    rw [F2.out] at hr
    rw [F1.out]
    have R4 := hide hr
    have A4 := hide (A3.out.kept hg (by omega))
    clear hg hr B3 R3 A3 x3
    go_wp2_with (go_at_call 11; refine (equal_any w.heap.size w2.heap.size len len len yy w4 hl R4.out A4.out).mono ?_; rintro e w6 ⟨rfl, nd, rfl⟩)
    go_ret
    exact ⟨rfl, B4.out.trans (below_drewN _ _ _)⟩
end Go.Proofs.Qxb6602245a
