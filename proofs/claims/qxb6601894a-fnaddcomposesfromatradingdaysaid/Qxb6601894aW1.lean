import Derived.Test.Qxb6601894aRows
import Derived.WalkKit
import Derived.WalkSpells
import Derived.ProofKit
import Derived.OpenShut
import Derived.Below
import Derived.Handy
import Derived.Outline
import Derived.Deep.RegionWith
import Derived.Deep.QuietTactic
import Derived.BigQuiet
import Derived.Deep.RegionHeld3
namespace Go.Proofs.Qxb6601894a
open Go.RowKit

theorem chain {w X w1 : World} (h : Below w.heap.size w X) (hb : Below X.heap.size X w1) : Below w.heap.size w w1 := h.trans (hb.mono h.size)

theorem before_any (a b : Int) (w : World) :
    Calls Try.prog 34 #[.agg #[.int .i64 a], .agg #[.int .i64 b]] w fun e w' => e = .returned (.bool (decide (a < b))) ∧ Below w.heap.size w w' := by
  go_enter Try.func34, Try.ntmps34
  go_wp2
  go_ret
  exact ⟨rfl, by go_grown⟩

theorem after_any (a b : Int) (w : World) :
    Calls Try.prog 40 #[.agg #[.int .i64 a], .agg #[.int .i64 b]] w fun e w' => e = .returned (.bool (decide (b < a))) ∧ Below w.heap.size w w' := by
  go_enter Try.func40, Try.ntmps40
  go_wp2
  go_ret
  exact ⟨rfl, by go_grown⟩

theorem sub_any (a b : Int) (w : World) (h1 : -9223372036854775808 ≤ a - b) (h2 : a - b ≤ 9223372036854775807) :
    Calls Try.prog 39 #[.agg #[.int .i64 a], .agg #[.int .i64 b]] w fun e w' => e = .returned (.int .i64 (a - b)) ∧ Below w.heap.size w w' := by
  go_enter Try.func39, Try.ntmps39
  go_wp2
  go_ret
  exact ⟨rfl, by go_grown⟩

theorem cmp_any (a b : Int) (w : World) (h1 : -9223372036854775808 ≤ a - b) (h2 : a - b ≤ 9223372036854775807) :
    Calls Try.prog 38 #[.agg #[.int .i64 a], .agg #[.int .i64 b]] w fun e w' => e = .returned (.int .i64 (a - b)) ∧ Below w.heap.size w w' := by
  go_enter Try.func38, Try.ntmps38
  go_wp2
  go_ret
  exact ⟨rfl, by go_grown⟩

theorem day_any (n : Int) (w : World) :
    Calls Try.prog 14 #[.int .i64 n] w fun e w' => e = .returned (.agg #[.int .i64 n]) ∧ Below w.heap.size w w' := by
  go_enter Try.func14, Try.ntmps14
  go_wp2
  go_returns
  exact ⟨rfl, by go_grown⟩

theorem num_any (n : Int) (w : World) :
    Calls Try.prog 16 #[.agg #[.int .i64 n]] w fun e w' => e = .returned (.int .i64 n) ∧ Below w.heap.size w w' := by
  go_enter Try.func16, Try.ntmps16
  go_wp2
  go_ret
  exact ⟨rfl, by go_grown⟩

theorem contains_any (f t d : Int) (w : World) (h1 : f ≤ d) (h2 : d ≤ t) :
    Calls Try.prog 35 #[.agg #[.int .i64 f, .int .i64 t], .agg #[.int .i64 d]] w fun e w' => e = .returned (.bool true) ∧ Below w.heap.size w w' := by
  have e1 : decide (d < f) = false := by simp; omega
  have e2 : decide (t < d) = false := by simp; omega
  go_enter Try.func35, Try.ntmps35
  go_wp2
  go_ret
  exact ⟨rfl, by go_grown⟩

theorem covers_any (c : Nat) (f t d : Int) (w : World) (hc : c < w.heap.size) (h1 : f ≤ d) (h2 : d ≤ t) (k1 : w.cell? ⟨c, 1, none⟩ = some (.int .i64 f)) (k2 : w.cell? ⟨c, 2, none⟩ = some (.int .i64 t)) :
    Calls Try.prog 32 #[.pointer (some ⟨c, 0, none⟩), .agg #[.int .i64 d]] w fun e w' => e = .returned (.bool true) ∧ Below w.heap.size w w' := by
  go_enter Try.func32, Try.ntmps32
  go_wp2

  go_region_with (go_at_call 35; refine (contains_any f t d _ h1 h2).mono ?_; rintro e w' ⟨rfl, hb⟩)
  all_goals (go_wp2; go_ret; exact ⟨rfl, chain (by go_grown) hb⟩)

/-- zzBytes: within the bound. -/
theorem bytes_yes (a0 : Option Addr) (len cap : Nat) (a1 a2 a3 a4 a5 : Int) (w : World) (h : len ≤ 1048576) :
    Calls Try.prog 17 #[.slice a0 len cap, .int .i64 a1, .int .i64 a2, .int .i64 a3, .int .i64 a4, .int .i64 a5] w fun e w' => e = .returned (.bool true) ∧ w' = w := by
  go_enter Try.func17, Try.ntmps17
  go_wp2
  go_ret
  exact ⟨rfl, rfl⟩
theorem bytes_no (a0 : Option Addr) (len cap : Nat) (a1 a2 a3 a4 a5 : Int) (w : World) (h : 1048576 < len) :
    Calls Try.prog 17 #[.slice a0 len cap, .int .i64 a1, .int .i64 a2, .int .i64 a3, .int .i64 a4, .int .i64 a5] w fun e w' => e = .returned (.bool false) ∧ w' = w := by
  go_enter Try.func17, Try.ntmps17
  go_wp2
  go_ret
  exact ⟨rfl, rfl⟩

theorem half_any (x : Int) (w : World) :
    Calls Try.prog 9 #[.int .i64 x] w fun e w' => e = .returned (.bool (decide (-4611686018427387903 ≤ x ∧ x ≤ 4611686018427387903))) ∧ w' = w := by
  by_cases h1 : -4611686018427387903 ≤ x
  · by_cases h2 : x ≤ 4611686018427387903
    · rw [decide_eq_true (And.intro h1 h2)]
      go_enter Try.func9, Try.ntmps9
      go_wp2
      go_ret
      exact ⟨rfl, rfl⟩
    · rw [decide_eq_false (fun h => h2 h.2)]
      go_enter Try.func9, Try.ntmps9
      go_wp2
      go_ret
      exact ⟨rfl, rfl⟩
  · rw [decide_eq_false (fun h => h1 h.1)]
    go_enter Try.func9, Try.ntmps9
    go_wp2
    go_ret
    exact ⟨rfl, rfl⟩
end Go.Proofs.Qxb6601894a
