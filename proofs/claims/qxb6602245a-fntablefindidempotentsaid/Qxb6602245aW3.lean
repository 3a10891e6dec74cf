import Derived.Test.Qxb6602245aW2
namespace Go.Proofs.Qxb6602245a
open Go.RowKit
set_option linter.unusedVariables false
set_option maxRecDepth 100000

/-- The three places, as the Go text reckons them. -/
structure Places (len cx r0 r1 r2 : Nat) : Prop where
  e0 : bits BinOp.and IntKind.u32 ((cx : Int) * 16 % 4294967296) ((len : Int) - 16) = (r0 : Int)
  e1 : bits BinOp.xor IntKind.u32 (r0 : Int) 16 = (r1 : Int)
  e2 : bits BinOp.xor IntKind.u32 (r0 : Int) 32 = (r2 : Int)
  l0 : r0 + 16 ≤ len
  l1 : r1 + 16 ≤ len
  l2 : r2 + 16 ≤ len

/-- The table at block c. -/
structure Tab (w : World) (c b len bt : Nat) (row st : Int) : Prop where
  hc : c < w.heap.size
  ne : c ≠ b
  k0 : w.cell? ⟨c, 0, none⟩ = some (.slice (some ⟨b, 0, none⟩) len len)
  k1 : w.cell? ⟨c, 1, none⟩ = some (.int .u64 bt)
  k2 : w.cell? ⟨c, 2, none⟩ = some (.int .u32 row)
  k3 : w.cell? ⟨c, 3, none⟩ = some (.int .u8 st)
  f2 : w.frozen? ⟨c, 2, none⟩ = false

set_option maxHeartbeats 400000 in
theorem find_hit (c b len bt cx r0 r1 r2 : Nat) (row st : Int) (y : Nat → Int) (w : World) (hb1 : 2 ≤ bt) (hb2 : bt ≤ 16) (hl : len ≤ 1048576) (hl2 : 64 ≤ len) (hcx : cx ≤ 4294967295)
    (hT : Tab w c b len bt row st) (hR : Row w b len y) (hP : Places len cx r0 r1 r2) (h : y r0 = (cx : Int) / 2 ^ bt % 256 ∨ y r1 = (cx : Int) / 2 ^ bt % 256 ∨ y r2 = (cx : Int) / 2 ^ bt % 256) :
    Calls Try.prog 20 #[.pointer (some ⟨c, 0, none⟩), .int .u32 cx] w fun e w' => e = .returned (.tuple #[]) ∧ FPost w w' c b len (fY y r0 r1 r2 ((cx : Int) / 2 ^ bt % 256)) (fRow y r0 r1 r2 ((cx : Int) / 2 ^ bt % 256)) := by
  have R := hide hR
  have ne := hT.ne
  have kk := hide hT.k2
  obtain ⟨hc, _, k0, k1, k2, k3, f2⟩ := hT
  obtain ⟨e0, e1, e2, l0, l1, l2⟩ := hP
  have c0 := hR.cell r0 (by omega)
  have c1 := hR.cell r1 (by omega)
  have c2 := hR.cell r2 (by omega)
  have j0 : (r0 : Int) < len := by omega
  have j1 : (r1 : Int) < len := by omega
  have j2 : (r2 : Int) < len := by omega
  clear hR
  by_cases h0 : y r0 = (cx : Int) / 2 ^ bt % 256
  · have E1 : Hid (fY y r0 r1 r2 ((cx : Int) / 2 ^ bt % 256) = y) := if_pos h0
    have E2 : Hid (fRow y r0 r1 r2 ((cx : Int) / 2 ^ bt % 256) = r0) := if_pos h0
    have n0 : (y r0 == (cx : Int) / 2 ^ bt % 256) = true := by simp [h0]
    rw [E1.out, E2.out]
    clear h h0
    go_enter Try.func20, Try.ntmps20
    go_wp2
    go_returns
    exact ⟨rfl, FPost.of_set R.out ne kk.out _⟩
  · have n0 : (y r0 == (cx : Int) / 2 ^ bt % 256) = false := by simp [h0]
    by_cases h1 : y r1 = (cx : Int) / 2 ^ bt % 256
    · have E1 : Hid (fY y r0 r1 r2 ((cx : Int) / 2 ^ bt % 256) = y) := (if_neg h0).trans (if_pos h1)
      have E2 : Hid (fRow y r0 r1 r2 ((cx : Int) / 2 ^ bt % 256) = r1) := (if_neg h0).trans (if_pos h1)
      have n1 : (y r1 == (cx : Int) / 2 ^ bt % 256) = true := by simp [h1]
      rw [E1.out, E2.out]
      clear h h0 h1
      go_enter Try.func20, Try.ntmps20
      go_wp2
      go_returns
      exact ⟨rfl, FPost.of_set R.out ne kk.out _⟩
    · have h2 : y r2 = (cx : Int) / 2 ^ bt % 256 := by
        rcases h with h | h | h
        · exact absurd h h0
        · exact absurd h h1
        · exact h
      have n1 : (y r1 == (cx : Int) / 2 ^ bt % 256) = false := by simp [h1]
      have E1 : Hid (fY y r0 r1 r2 ((cx : Int) / 2 ^ bt % 256) = y) := (if_neg h0).trans ((if_neg h1).trans (if_pos h2))
      have E2 : Hid (fRow y r0 r1 r2 ((cx : Int) / 2 ^ bt % 256) = r2) := (if_neg h0).trans ((if_neg h1).trans (if_pos h2))
      have n2 : (y r2 == (cx : Int) / 2 ^ bt % 256) = true := by simp [h2]
      rw [E1.out, E2.out]
      clear h h0 h1 h2
      go_enter Try.func20, Try.ntmps20
      go_wp2
      go_returns
      exact ⟨rfl, FPost.of_set R.out ne kk.out _⟩

theorem info54 : (Try.prog.info? 54).map (·.size) = some 16 := by kernel_rfl

def arr16 (chk : Int) : Array Value := #[.int .u8 chk, .int .u8 0, .int .u8 0, .int .u8 0, .int .u8 0, .int .u8 0, .int .u8 0, .int .u8 0, .int .u8 0, .int .u8 0, .int .u8 0, .int .u8 0, .int .u8 0, .int .u8 0, .int .u8 0, .int .u8 0]
theorem arr16_one (chk : Int) : (arr16 chk).all (·.oneCell') = true := by simp [arr16, Value.oneCell']
theorem arr16_size (chk : Int) : (arr16 chk).size = 16 := rfl
theorem arr16_info (chk : Int) : (Try.prog.info? 54).map (·.size) = some (arr16 chk).size := info54
theorem sixteen_of (chk : Int) : Sixteen (arr16 chk).toList chk :=
  ⟨rfl, fun
    | 0, _ => rfl
    | 1, _ => rfl
    | 2, _ => rfl
    | 3, _ => rfl
    | 4, _ => rfl
    | 5, _ => rfl
    | 6, _ => rfl
    | 7, _ => rfl
    | 8, _ => rfl
    | 9, _ => rfl
    | 10, _ => rfl
    | 11, _ => rfl
    | 12, _ => rfl
    | 13, _ => rfl
    | 14, _ => rfl
    | 15, _ => rfl
    | n + 16, h => absurd h (by show ¬ n + 16 < 16; omega)⟩

/-- The store of '[16]uint8{chk}', the world behind it under a name. -/
theorem wpList_store16 {ops : Array Oper} {rest : List Oper} {op : Oper} {a : Act} {w : World} {Q : Exit → Act → World → Prop} (hgd : op.guard = none) (ho : op.op = .store 54 (.tmp 108) (.tmp 107))
    (b r c : Nat) (chk : Int) (u : Value) (hx : a.eval (.tmp 108) = .pointer (some ⟨b, r, none⟩)) (hy : a.eval (.tmp 107) = .agg (arr16 chk)) (hcb : c ≠ b)
    (ht : w.there b r (arr16 chk).size) (hc : w.cell? ⟨c, 2, none⟩ = some u) (hf : w.frozen? ⟨c, 2, none⟩ = false)
    (h : ∀ W', Hid (W' = w.setCells b r (arr16 chk).toList) → W'.cell? ⟨c, 2, none⟩ = some u → W'.frozen? ⟨c, 2, none⟩ = false → wpList Try.prog ops Q rest (a.put op.dst undef) W') : wpList Try.prog ops Q (op :: rest) a w :=
  wpList_store_mid hgd 54 _ _ ho b r (arr16 chk) hx hy ht (arr16_info _) (arr16_one _)
    (h _ rfl (by rw [World.cell?_setCells_out b _ r _ _ (fun e _ => absurd e hcb)]; exact hc) (by rw [World.frozen?_setCells]; exact hf))

set_option maxHeartbeats 2000000 in
theorem find_miss (c b len bt cx r0 r1 r2 : Nat) (row st : Int) (y : Nat → Int) (w : World) (hb1 : 2 ≤ bt) (hb2 : bt ≤ 16) (hl : len ≤ 1048576) (hl2 : 64 ≤ len) (hcx : cx ≤ 4294967295)
    (hT : Tab w c b len bt row st) (hR : Row w b len y) (hP : Places len cx r0 r1 r2) (h0 : y r0 ≠ (cx : Int) / 2 ^ bt % 256) (h1 : y r1 ≠ (cx : Int) / 2 ^ bt % 256) (h2 : y r2 ≠ (cx : Int) / 2 ^ bt % 256) :
    Calls Try.prog 20 #[.pointer (some ⟨c, 0, none⟩), .int .u32 cx] w fun e w' => e = .returned (.tuple #[]) ∧ FPost w w' c b len (fY y r0 r1 r2 ((cx : Int) / 2 ^ bt % 256)) (fRow y r0 r1 r2 ((cx : Int) / 2 ^ bt % 256)) := by
  have E1 : fY y r0 r1 r2 ((cx : Int) / 2 ^ bt % 256) = blank y (pick y r0 r1 r2) ((cx : Int) / 2 ^ bt % 256) := (if_neg h0).trans ((if_neg h1).trans (if_neg h2))
  have E2 : fRow y r0 r1 r2 ((cx : Int) / 2 ^ bt % 256) = pick y r0 r1 r2 := (if_neg h0).trans ((if_neg h1).trans (if_neg h2))
  rw [E1, E2]
  have n0 : (y r0 == (cx : Int) / 2 ^ bt % 256) = false := by simp [h0]
  have n1 : (y r1 == (cx : Int) / 2 ^ bt % 256) = false := by simp [h1]
  have n2 : (y r2 == (cx : Int) / 2 ^ bt % 256) = false := by simp [h2]
  clear h0 h1 h2 E1 E2
  have R := hide hR
  have ne := hT.ne
  have kk := hide hT.k2
  obtain ⟨hc, _, k0, k1, k2, k3, f2⟩ := hT
  obtain ⟨e0, e1, e2, l0, l1, l2⟩ := hP
  have c0 := hR.cell r0 (by omega)
  have c1 := hR.cell r1 (by omega)
  have c2 := hR.cell r2 (by omega)
  have c3 := hR.cell (r0 + 1) (by omega)
  have c4 := hR.cell (r1 + 1) (by omega)
  have c5 := hR.cell (r2 + 1) (by omega)
  have j0 : (r0 : Int) < len := by omega
  have j1 : (r1 : Int) < len := by omega
  have j2 : (r2 : Int) < len := by omega
  have j3 : (r0 : Int) + 1 < len := by omega
  have j4 : (r1 : Int) + 1 < len := by omega
  have j5 : (r2 : Int) + 1 < len := by omega
  clear hR
  have ha0 := fun w => run_arrayAt (P := Try.prog) w 54 5 16 (some ⟨b, r0, none⟩) 16 (len - r0) Try.underlying54 (Nat.le_refl _)
  have ha1 := fun w => run_arrayAt (P := Try.prog) w 54 5 16 (some ⟨b, r1, none⟩) 16 (len - r1) Try.underlying54 (Nat.le_refl _)
  have ha2 := fun w => run_arrayAt (P := Try.prog) w 54 5 16 (some ⟨b, r2, none⟩) 16 (len - r2) Try.underlying54 (Nat.le_refl _)
  by_cases q : y (r0 + 1) ≤ y (r1 + 1) ∧ y (r0 + 1) ≤ y (r2 + 1)
  · obtain ⟨q1, q2⟩ := q
    rw [show pick y r0 r1 r2 = r0 from if_pos ⟨q1, q2⟩]
    have ht : ∀ n, (w.drewN n).there b r0 (arr16 ((cx : Int) / 2 ^ bt % 256)).size := fun n j hj => ⟨by rw [arr16_size] at hj; rw [(R.out.drewN n).cell _ (by omega)]; rfl, (R.out.drewN n).froz _ (by rw [arr16_size] at hj; omega)⟩
    have HT := hide ht
    clear ht
    go_enter Try.func20, Try.ntmps20
    go_wp2
    go_quiet (fail)
    go_wp2_with (refine wpList_store16 rfl rfl b r0 c ((cx : Int) / 2 ^ bt % 256) (.int .u32 row) ?_ ?_ ne (HT.out _) ?_ ?_ ?_; (focus (simp [Act.eval]; done)); (focus (simp [Act.eval, arr16]; done)); (focus exact k2); (focus exact f2); intro W' hW kW fW)
    go_end0
    refine ⟨rfl, ?_⟩
    rw [hW.out]
    exact FPost.of_blank R.out ne kk.out l0 (sixteen_of _) _
  · by_cases q3 : y (r1 + 1) < y (r2 + 1)
    · have q4 : y (r1 + 1) < y (r0 + 1) := by omega
      have g1 : decide (y (r0 + 1) ≤ y (r1 + 1)) = false := by simp; omega
      rw [show pick y r0 r1 r2 = r1 from (if_neg q).trans (if_pos q3)]
      clear q
      have ht : ∀ n, (w.drewN n).there b r1 (arr16 ((cx : Int) / 2 ^ bt % 256)).size := fun n j hj => ⟨by rw [arr16_size] at hj; rw [(R.out.drewN n).cell _ (by omega)]; rfl, (R.out.drewN n).froz _ (by rw [arr16_size] at hj; omega)⟩
      have HT := hide ht
      clear ht
      go_enter Try.func20, Try.ntmps20
      go_wp2
      go_quiet (fail)
      go_wp2
      go_quiet (fail)
      go_wp2_with (refine wpList_store16 rfl rfl b r1 c ((cx : Int) / 2 ^ bt % 256) (.int .u32 row) ?_ ?_ ne (HT.out _) ?_ ?_ ?_; (focus (simp [Act.eval]; done)); (focus (simp [Act.eval, arr16]; done)); (focus exact k2); (focus exact f2); intro W' hW kW fW)
      go_end0
      refine ⟨rfl, ?_⟩
      rw [hW.out]
      exact FPost.of_blank R.out ne kk.out l1 (sixteen_of _) _
    · have q4 : y (r2 + 1) < y (r0 + 1) := by omega
      rw [show pick y r0 r1 r2 = r2 from (if_neg q).trans (if_neg q3)]
      clear q
      by_cases q5 : y (r0 + 1) ≤ y (r1 + 1)
      · have g1 : decide (y (r0 + 1) ≤ y (r1 + 1)) = true := by simp; omega
        have ht : ∀ n, (w.drewN n).there b r2 (arr16 ((cx : Int) / 2 ^ bt % 256)).size := fun n j hj => ⟨by rw [arr16_size] at hj; rw [(R.out.drewN n).cell _ (by omega)]; rfl, (R.out.drewN n).froz _ (by rw [arr16_size] at hj; omega)⟩
        have HT := hide ht
        clear ht
        go_enter Try.func20, Try.ntmps20
        go_wp2
        go_quiet (fail)
        go_wp2
        go_quiet (fail)
        go_wp2_with (refine wpList_store16 rfl rfl b r2 c ((cx : Int) / 2 ^ bt % 256) (.int .u32 row) ?_ ?_ ne (HT.out _) ?_ ?_ ?_; (focus (simp [Act.eval]; done)); (focus (simp [Act.eval, arr16]; done)); (focus exact k2); (focus exact f2); intro W' hW kW fW)
        go_end0
        refine ⟨rfl, ?_⟩
        rw [hW.out]
        exact FPost.of_blank R.out ne kk.out l2 (sixteen_of _) _
      · have g1 : decide (y (r0 + 1) ≤ y (r1 + 1)) = false := by simp; omega
        have ht : ∀ n, (w.drewN n).there b r2 (arr16 ((cx : Int) / 2 ^ bt % 256)).size := fun n j hj => ⟨by rw [arr16_size] at hj; rw [(R.out.drewN n).cell _ (by omega)]; rfl, (R.out.drewN n).froz _ (by rw [arr16_size] at hj; omega)⟩
        have HT := hide ht
        clear ht
        go_enter Try.func20, Try.ntmps20
        go_wp2
        go_quiet (fail)
        go_wp2
        go_quiet (fail)
        go_wp2_with (refine wpList_store16 rfl rfl b r2 c ((cx : Int) / 2 ^ bt % 256) (.int .u32 row) ?_ ?_ ne (HT.out _) ?_ ?_ ?_; (focus (simp [Act.eval]; done)); (focus (simp [Act.eval, arr16]; done)); (focus exact k2); (focus exact f2); intro W' hW kW fW)
        go_end0
        refine ⟨rfl, ?_⟩
        rw [hW.out]
        exact FPost.of_blank R.out ne kk.out l2 (sixteen_of _) _

theorem find_any (c b len bt cx r0 r1 r2 : Nat) (row st : Int) (y : Nat → Int) (w : World) (hb1 : 2 ≤ bt) (hb2 : bt ≤ 16) (hl : len ≤ 1048576) (hl2 : 64 ≤ len) (hcx : cx ≤ 4294967295)
    (hT : Tab w c b len bt row st) (hR : Row w b len y) (hP : Places len cx r0 r1 r2) :
    Calls Try.prog 20 #[.pointer (some ⟨c, 0, none⟩), .int .u32 cx] w fun e w' => e = .returned (.tuple #[]) ∧ FPost w w' c b len (fY y r0 r1 r2 ((cx : Int) / 2 ^ bt % 256)) (fRow y r0 r1 r2 ((cx : Int) / 2 ^ bt % 256)) := by
  by_cases h : y r0 = (cx : Int) / 2 ^ bt % 256 ∨ y r1 = (cx : Int) / 2 ^ bt % 256 ∨ y r2 = (cx : Int) / 2 ^ bt % 256
  · exact find_hit c b len bt cx r0 r1 r2 row st y w hb1 hb2 hl hl2 hcx hT hR hP h
  · exact find_miss c b len bt cx r0 r1 r2 row st y w hb1 hb2 hl hl2 hcx hT hR hP (fun e => h (.inl e)) (fun e => h (.inr (.inl e))) (fun e => h (.inr (.inr e)))
end Go.Proofs.Qxb6602245a
