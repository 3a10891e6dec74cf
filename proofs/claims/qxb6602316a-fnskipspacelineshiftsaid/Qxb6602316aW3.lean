import Derived.Test.Qxb6602316aW2
namespace Go.Proofs.Qxb6602316a
open Go.RowKit
set_option linter.unusedVariables false
set_option maxRecDepth 100000

section
variable {y : Nat → Int} {len q : Nat} {w wr : World} {c b cap : Nat} {x : Int}
theorem Scan.step (h : Scan w wr c b len cap y q x) (n : Nat) : Scan w ((wr.drewN n).setCell ⟨c, 1, none⟩ (.int .i64 ((q : Int) + 1))) c b len cap y (q + 1) x := by
  have := (h.drewN n).move (q + 1)
  rw [show ((q + 1 : Nat) : Int) = (q : Int) + 1 by omega] at this
  exact this
theorem Scan.stepLine {l : Int} {k : Nat} (h : Scan w wr c b len cap y q (wrap64 (l + (k : Int)))) (n : Nat) :
    Scan w (((wr.drewN n).setCell ⟨c, 2, none⟩ (.int .i64 (wrap64 (wrap64 (l + (k : Int)) + 1)))).setCell ⟨c, 1, none⟩ (.int .i64 ((q : Int) + 1))) c b len cap y (q + 1) (wrap64 (l + ((k + 1 : Nat) : Int))) := by
  have := ((h.drewN n).count (wrap64 (wrap64 (l + (k : Int)) + 1))).move (q + 1)
  rw [show ((q + 1 : Nat) : Int) = (q : Int) + 1 by omega] at this
  rw [show ((k + 1 : Nat) : Int) = (k : Int) + 1 by omega, ← wrap_succ]
  exact this
end

set_option maxHeartbeats 1000000 in
theorem skip_any (c b len cap : Nat) (y : Nat → Int) (p : Nat) (l : Int) (w : World) (hl : len ≤ 1048576) (hS : Scan w w c b len cap y p (wrap64 (l + 0))) :
    Calls Try.prog 13 #[.pointer (some ⟨c, 0, none⟩)] w fun e w' => e = .returned (.tuple #[]) ∧ Scan w w' c b len cap y (skip y len (len - p) p).1 (wrap64 (l + (skip y len (len - p) p).2)) := by
  have T0 := hide (To.start y len p)
  have S0 := hide hS
  clear hS
  generalize (skip y len (len - p) p).1 = S at *
  generalize (skip y len (len - p) p).2 = N at *
  go_enter Try.func13, Try.ntmps13
  go_wp2
  go_loopg [] (len - p) (fun f wr => ∃ (q k : Nat), Hid (To y len S N f q k) ∧ Hid (Scan w wr c b len cap y q (wrap64 (l + k))))
  case atStart => exact ⟨p, 0, T0, S0⟩
  case round =>
    obtain ⟨q, k, T, Sc⟩ := hrel
    clear T0 S0
    have k0 := Sc.out.k0
    have k1 := Sc.out.k1
    by_cases hlt : q < len
    · obtain ⟨f, hf⟩ := T.out.pos hlt
      have T1 : Hid (To y len S N (f + 1) q k) := by rw [← hf]; exact T
      have hfg : f < gk := by omega
      clear T hf
      have ck := Sc.out.row.cell q hlt
      have i1 : (q : Int) < len := by omega
      by_cases n1 : y q = 10
      · have m1 : (y q == 10) = true := by simp [n1]
        have k2 := Sc.out.k2
        have f1 := Sc.out.f1
        have f2 := Sc.out.f2
        have M1 := hide n1
        clear n1
        go_wp2
        go_quiet (fail)
        go_wp2
        go_quiet (fail)
        go_wp2
        go_roundg f
        case measure => exact hfg
        case rel =>
          exact ⟨q + 1, k + 1, T1.out.line hlt M1.out, Sc.out.stepLine _⟩
      have m1 : (y q == 10) = false := by simp [n1]
      by_cases n2 : y q = 32 ∨ y q = 9 ∨ y q = 13
      · have B := hide n2
        have f1 := Sc.out.f1
        rcases n2 with n2 | n2 | n2
        · have m2 : (y q == 32) = true := by simp [n2]
          clear n1 n2
          go_wp2
          go_quiet (fail)
          go_wp2
          go_quiet (fail)
          go_wp2
          go_roundg f
          case measure => exact hfg
          case rel => exact ⟨q + 1, k, T1.out.blank hlt B.out, Sc.out.step _⟩
        · have m2 : (y q == 32) = false := by simp [n2]
          have m3 : (y q == 9) = true := by simp [n2]
          clear n1 n2
          go_wp2
          go_quiet (fail)
          go_wp2
          go_quiet (fail)
          go_wp2
          go_roundg f
          case measure => exact hfg
          case rel => exact ⟨q + 1, k, T1.out.blank hlt B.out, Sc.out.step _⟩
        · have m2 : (y q == 32) = false := by simp [n2]
          have m3 : (y q == 9) = false := by simp [n2]
          have m4 : (y q == 13) = true := by simp [n2]
          clear n1 n2
          go_wp2
          go_quiet (fail)
          go_wp2
          go_quiet (fail)
          go_wp2
          go_roundg f
          case measure => exact hfg
          case rel => exact ⟨q + 1, k, T1.out.blank hlt B.out, Sc.out.step _⟩
      have m2 : (y q == 32) = false := by simp; omega
      have m3 : (y q == 9) = false := by simp; omega
      have m4 : (y q == 13) = false := by simp; omega
      by_cases n5 : y q = 35
      · have m5 : (y q == 35) = true := by simp [n5]
        have T2 := hide (T1.out.hash hlt n5)
        clear n1 n2 n5 T1
        generalize hE : cend y (len - q) q = E at *
        have E0 := hide hE
        clear hE
        go_wp2
        go_quiet (fail)
        go_wp2
        go_quiet (fail)
        go_wp2
        go_loopg [] (len - q) (fun g wi => ∃ r : Nat, r ≤ len ∧ len - r ≤ g ∧ Hid (cend y (len - r) r = E) ∧ Hid (Scan w wi c b len cap y r (wrap64 (l + k))))
        case atStart => exact ⟨q, by omega, Nat.le_refl _, E0, Sc.out.drewN _⟩
        case round =>
          obtain ⟨r, hr, hg, E1, Si⟩ := hrel
          clear E0 Sc k0 k1 ck i1
          have k0 := Si.out.k0
          have k1 := Si.out.k1
          have f1 := Si.out.f1
          by_cases hlt2 : r < len
          · have ck := Si.out.row.cell r hlt2
            have i1 : (r : Int) < len := by omega
            have d1 : decide ((r : Int) < len) = true := by simp; omega
            by_cases n1 : y r = 10
            · have m6 : (y r != 10) = false := by simp [n1]
              have E2 : Hid (r = E) := by rw [← E1.out]; exact (cend_here (.inr n1)).symm
              clear n1
              go_wp2
              go_quiet (fail)
              go_wp2
              go_roundg f
              case measure => exact hfg
              case rel => exact ⟨r, k, by rw [E2.out]; exact T2, Si.out.drewN _⟩
            · have m6 : (y r != 10) = true := by simp [n1]
              have E2 : Hid (cend y (len - (r + 1)) (r + 1) = E) := by rw [← E1.out]; exact (cend_step hlt2 n1).symm
              clear n1
              go_wp2
              go_quiet (fail)
              go_wp2
              go_roundg (len - (r + 1))
              case measure => omega
              case rel => exact ⟨r + 1, by omega, Nat.le_refl _, E2, Si.out.step _⟩
          · have E2 : Hid (r = E) := by rw [← E1.out]; exact (cend_here (.inl (by omega))).symm
            have d1 : decide ((r : Int) < len) = false := by simp; omega
            go_wp2
            go_quiet (fail)
            go_wp2
            go_roundg f
            case measure => exact hfg
            case rel => exact ⟨r, k, by rw [E2.out]; exact T2, Si.out.drewN _⟩
      · have m5 : (y q == 35) = false := by simp [n5]
        have E := T1.out.other hlt n1 (by omega) (by omega) (by omega) n5
        have E1 := hide E.1
        have E2 := hide E.2
        clear n1 n2 n5 E
        go_wp2
        go_quiet (fail)
        go_wp2
        go_quiet (fail)
        go_wp2
        go_returns
        exact ⟨rfl, by rw [E1.out, E2.out]; exact Sc.out.drewN _⟩
    · have E := T.out.done (by omega)
      have E1 := hide E.1
      have E2 := hide E.2
      clear E
      have i2 : (len : Int) ≤ q := by omega
      go_wp2
      go_quiet (fail)
      go_wp2
      go_returns
      exact ⟨rfl, by rw [E1.out, E2.out]; exact Sc.out.drewN _⟩
end Go.Proofs.Qxb6602316a
