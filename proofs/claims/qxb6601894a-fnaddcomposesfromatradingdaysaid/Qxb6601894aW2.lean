import Derived.Test.Qxb6601894aW1
namespace Go.Proofs.Qxb6601894a
open Go.RowKit

/-- The bound of a day number. -/
def Half (x : Int) : Prop := -4611686018427387903 ≤ x ∧ x ≤ 4611686018427387903

/-- A bool comes back; if it is true, P. -/
def Ans (P : Prop) (e : Ending) : Prop := ∃ r, e = .returned (.bool r) ∧ (r = true → P)
theorem Ans.yes {P : Prop} (h : P) : Ans P (.returned (.bool true)) := ⟨true, rfl, fun _ => h⟩
theorem Ans.no {P : Prop} : Ans P (.returned (.bool false)) := ⟨false, rfl, fun h => by cases h⟩

/-! ### No element -/
theorem allHalf_nil (a0 : Option Addr) (cap : Nat) (w : World) :
    Calls Try.prog 10 #[.slice a0 0 cap] w fun e w' => e = .returned (.bool true) ∧ w' = w := by
  go_enter Try.func10, Try.ntmps10
  go_wp2
  go_rounds 1
  go_ret
  exact ⟨rfl, rfl⟩
theorem asc_nil (a0 : Option Addr) (cap : Nat) (w : World) :
    Calls Try.prog 11 #[.slice a0 0 cap] w fun e w' => e = .returned (.bool true) ∧ w' = w := by
  go_enter Try.func11, Try.ntmps11
  go_wp2
  go_rounds 1
  go_ret
  exact ⟨rfl, rfl⟩
theorem within_nil (a0 : Option Addr) (cap : Nat) (lo hi : Int) (w : World) :
    Calls Try.prog 18 #[.slice a0 0 cap, .int .i64 lo, .int .i64 hi] w fun e w' => e = .returned (.bool true) ∧ w' = w := by
  go_enter Try.func18, Try.ntmps18
  go_wp2
  go_rounds 1
  go_ret
  exact ⟨rfl, rfl⟩
theorem has_nil (a0 : Option Addr) (cap : Nat) (x : Int) (w : World) :
    Calls Try.prog 19 #[.slice a0 0 cap, .int .i64 x] w fun e w' => e = .returned (.bool false) ∧ w' = w := by
  go_enter Try.func19, Try.ntmps19
  go_wp2
  go_rounds 1
  go_ret
  exact ⟨rfl, rfl⟩

/-! ### Some elements: the cells are 'z 0', 'z 1', .. -/
variable (b off len cap : Nat) (z : Nat → Int)

theorem allHalf_any (w : World) (hl : len ≤ 131072) (hc : ∀ j, j < len → w.cell? ⟨b, off + j, none⟩ = some (.int .i64 (z j))) :
    Calls Try.prog 10 #[.slice (some ⟨b, off, none⟩) len cap] w fun e w' => Ans (∀ j, j < len → Half (z j)) e ∧ w' = w := by
  go_enter Try.func10, Try.ntmps10
  go_wp2
  go_loop [3] (fun i => ∃ k : Nat, k ≤ len ∧ i = .int .i64 k ∧ ∀ j, j < k → Half (z j)) (fun i => len - (intOf i).toNat)
  case atStart => exact ⟨0, Nat.zero_le _, rfl, fun j hj => absurd hj (Nat.not_lt_zero _)⟩
  case round =>
    obtain ⟨k, hk, rfl, hH⟩ := hrel
    have HH : Hid (∀ j, j < k → Half (z j)) := hH
    clear hH
    by_cases hlt : k < len
    · have hck := hc k hlt
      by_cases hx : -4611686018427387903 ≤ z k ∧ z k ≤ 4611686018427387903
      · have e1 : decide (-4611686018427387903 ≤ z k ∧ z k ≤ 4611686018427387903) = true := decide_eq_true hx
        have hh := half_any (z k) w
        rw [e1] at hh
        clear hc e1
        go_wp2_with (go_at_call 9; refine hh.mono ?_; rintro e w' ⟨rfl, rfl⟩)
        go_round
        case rel => exact ⟨k + 1, by omega, by go_num, fun j hj => by rcases Nat.lt_succ_iff_lt_or_eq.1 hj with h | h; exact HH.out j h; subst h; exact hx⟩
        case measure => simp [intOf]; omega
      · have e1 : decide (-4611686018427387903 ≤ z k ∧ z k ≤ 4611686018427387903) = false := decide_eq_false hx
        have hh := half_any (z k) w
        rw [e1] at hh
        clear hc e1
        go_wp2_with (go_at_call 9; refine hh.mono ?_; rintro e w' ⟨rfl, rfl⟩)
        go_ret
        exact ⟨Ans.no, rfl⟩
    · clear hc
      go_wp2
      go_ret
      exact ⟨Ans.yes fun j hj => HH.out j (by omega), rfl⟩

theorem within_any (lo hi : Int) (w : World) (hl : len ≤ 131072) (hc : ∀ j, j < len → w.cell? ⟨b, off + j, none⟩ = some (.int .i64 (z j))) :
    Calls Try.prog 18 #[.slice (some ⟨b, off, none⟩) len cap, .int .i64 lo, .int .i64 hi] w fun e w' => Ans (∀ j, j < len → lo ≤ z j ∧ z j ≤ hi) e ∧ w' = w := by
  go_enter Try.func18, Try.ntmps18
  go_wp2
  go_loop [7] (fun i => ∃ k : Nat, k ≤ len ∧ i = .int .i64 k ∧ ∀ j, j < k → lo ≤ z j ∧ z j ≤ hi) (fun i => len - (intOf i).toNat)
  case atStart => exact ⟨0, Nat.zero_le _, rfl, fun j hj => absurd hj (Nat.not_lt_zero _)⟩
  case round =>
    obtain ⟨k, hk, rfl, hH⟩ := hrel
    have HH : Hid (∀ j, j < k → lo ≤ z j ∧ z j ≤ hi) := hH
    clear hH
    by_cases hlt : k < len
    · have hck := hc k hlt
      clear hc
      by_cases h1 : z k < lo
      · have e1 : decide (z k < lo) = true := decide_eq_true h1
        go_wp2
        go_ret
        exact ⟨Ans.no, rfl⟩
      · by_cases h2 : hi < z k
        · go_wp2
          go_ret
          exact ⟨Ans.no, rfl⟩
        · go_wp2
          go_round
          case rel => exact ⟨k + 1, by omega, by go_num, fun j hj => by rcases Nat.lt_succ_iff_lt_or_eq.1 hj with h | h; exact HH.out j h; subst h; omega⟩
          case measure => simp [intOf]; omega
    · clear hc
      go_wp2
      go_ret
      exact ⟨Ans.yes fun j hj => HH.out j (by omega), rfl⟩

theorem has_any (x : Int) (w : World) (hl : len ≤ 131072) (hc : ∀ j, j < len → w.cell? ⟨b, off + j, none⟩ = some (.int .i64 (z j))) :
    Calls Try.prog 19 #[.slice (some ⟨b, off, none⟩) len cap, .int .i64 x] w fun e w' => Ans (∃ j, j < len ∧ z j = x) e ∧ w' = w := by
  go_enter Try.func19, Try.ntmps19
  go_wp2
  go_loop [5] (fun i => ∃ k : Nat, k ≤ len ∧ i = .int .i64 k) (fun i => len - (intOf i).toNat)
  case atStart => exact ⟨0, Nat.zero_le _, rfl⟩
  case round =>
    obtain ⟨k, hk, rfl⟩ := hrel
    by_cases hlt : k < len
    · have hck := hc k hlt
      clear hc
      by_cases h1 : z k = x
      · have e1 : (z k == x) = true := by simp [h1]
        have H1 : Hid (z k = x) := h1
        clear h1
        go_wp2
        go_ret
        exact ⟨Ans.yes ⟨k, hlt, H1.out⟩, rfl⟩
      · have e1 : (z k == x) = false := by simp [h1]
        clear h1
        go_wp2
        go_round
        case rel => exact ⟨k + 1, by omega, by go_num⟩
        case measure => simp [intOf]; omega
    · clear hc
      go_wp2
      go_ret
      exact ⟨Ans.no, rfl⟩

theorem below_drewN (B : Nat) (w : World) (n : Nat) : Below B w (w.drewN n) := ⟨rfl, rfl, rfl, Nat.le_refl _, fun _ _ => rfl⟩

theorem asc_any (w : World) (hl : len ≤ 131072) (hc : ∀ j, j < len → w.cell? ⟨b, off + j, none⟩ = some (.int .i64 (z j))) :
    Calls Try.prog 11 #[.slice (some ⟨b, off, none⟩) len cap] w fun e w' => Ans (∀ j, j + 1 < len → z j < z (j + 1)) e ∧ ∃ n, w' = w.drewN n := by
  go_enter Try.func11, Try.ntmps11
  go_wp2
  go_loopw [3] (fun i wr => ∃ k : Nat, (k + 1 ≤ len ∨ len = 0) ∧ i = .int .i64 ((k : Int) + 1) ∧ (∀ j, j < k → z j < z (j + 1)) ∧ ∃ n, wr = w.drewN n) (fun i _ => len - (intOf i).toNat)
  case atStart => exact ⟨0, by omega, by simp, (fun j hj => absurd hj (Nat.not_lt_zero _)), 0, rfl⟩
  case round =>
    obtain ⟨k, hk, rfl, hH, n, rfl⟩ := hrel
    have HH : Hid (∀ j, j < k → z j < z (j + 1)) := hH
    clear hH
    by_cases hlt : k + 1 < len
    · have hck := hc k (by omega)
      have hck1 := hc (k + 1) hlt
      have b1 : (k : Int) < len := by omega
      have b2 : (k : Int) + 1 < len := by omega
      have b3 : (k : Int) + 1 - 1 = k := by omega
      clear hc
      by_cases hz : z k < z (k + 1)
      · go_wp2
        go_quiet (fail)
        go_wp2
        go_roundw
        case rel => exact ⟨k + 1, by omega, by go_num, (fun j hj => by rcases Nat.lt_succ_iff_lt_or_eq.1 hj with h | h; exact HH.out j h; subst h; exact hz), _, rfl⟩
        case measure => simp [intOf]; omega
      · go_wp2
        go_quiet (fail)
        go_wp2
        go_ret
        exact ⟨Ans.no, n + nq, World.drewN_drewN _ _ _⟩
    · clear hc
      go_wp2
      go_ret
      exact ⟨Ans.yes fun j hj => HH.out j (by omega), n, rfl⟩
end Go.Proofs.Qxb6601894a
