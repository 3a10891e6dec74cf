import Derived.Test.Qxb6602171aRows
import Derived.WalkKit
import Derived.WalkSpells
import Derived.ProofKit
import Derived.OpenShut
import Derived.Below
import Derived.Handy
import Derived.Outline
import Derived.Deep.RegionWith
import Derived.Deep.QuietTactic
import Derived.BigQuiet
import Derived.Deep.RegionHeld3
import Derived.Lib.Strings
namespace Go.Proofs.Qxb6602171a
open Go.RowKit
set_option linter.unusedVariables false

theorem hide {p : Prop} (h : p) : Hid p := h
theorem chain {w X w1 : World} (h : Below w.heap.size w X) (hb : Below X.heap.size X w1) : Below w.heap.size w w1 := h.trans (hb.mono h.size)

/-! ### Two strings are one, as the model asks it -/
theorem eq_of_lists {a b : ByteArray} (h : a.toList = b.toList) : a = b := by
  rw [Lib.toList_data, Lib.toList_data] at h
  exact ByteArray.ext (Array.toList_inj.1 h)
theorem same_yes {a b : ByteArray} (h : a = b) : (a.toList == b.toList) = true := by rw [h]; simp
theorem same_no {a b : ByteArray} (h : a ≠ b) : (a.toList == b.toList) = false := by
  rw [beq_eq_false_iff_ne]
  exact fun e => h (eq_of_lists e)

/-- 'p' stands at the head of 's'. -/
def Pre (s p : ByteArray) : Prop := p.size ≤ s.size ∧ s.extract 0 p.size = p

theorem hasPrefix_yes (s p : ByteArray) (w : World) (hs : s.size ≤ 1048576) (h : Pre s p) :
    Calls Try.prog 27 #[.string s, .string p] w fun e w' => e = .returned (.bool true) ∧ w' = w := by
  obtain ⟨hp, h⟩ := h
  have h1 := same_yes h
  clear h
  go_enter Try.func27, Try.ntmps27
  go_wp2
  go_ret
  exact ⟨rfl, rfl⟩
theorem hasPrefix_no (s p : ByteArray) (w : World) (hs : s.size ≤ 1048576) (hp' : p.size ≤ 1048576) (h : ¬ Pre s p) :
    Calls Try.prog 27 #[.string s, .string p] w fun e w' => e = .returned (.bool false) ∧ w' = w := by
  by_cases hp : p.size ≤ s.size
  · have h1 : ((s.extract 0 p.size).toList == p.toList) = false := same_no fun e => h ⟨hp, e⟩
    clear h
    go_enter Try.func27, Try.ntmps27
    go_wp2
    go_ret
    exact ⟨rfl, rfl⟩
  · clear h
    go_enter Try.func27, Try.ntmps27
    go_wp2
    go_ret
    exact ⟨rfl, rfl⟩

theorem hasPrefix22_yes (s p : ByteArray) (w : World) (hs : s.size ≤ 1048576) (h : Pre s p) :
    Calls Try.prog 22 #[.string s, .string p] w fun e w' => e = .returned (.bool true) ∧ w' = w := by
  have H := hide h
  clear h
  go_enter Try.func22, Try.ntmps22
  go_wp2_with (go_at_call 27; refine (hasPrefix_yes _ _ _ hs H.out).mono ?_; rintro e w' ⟨rfl, rfl⟩)
  go_ret
  exact ⟨rfl, rfl⟩
theorem hasPrefix22_no (s p : ByteArray) (w : World) (hs : s.size ≤ 1048576) (hp' : p.size ≤ 1048576) (h : ¬ Pre s p) :
    Calls Try.prog 22 #[.string s, .string p] w fun e w' => e = .returned (.bool false) ∧ w' = w := by
  have H := hide h
  clear h
  go_enter Try.func22, Try.ntmps22
  go_wp2_with (go_at_call 27; refine (hasPrefix_no _ _ _ hs hp' H.out).mono ?_; rintro e w' ⟨rfl, rfl⟩)
  go_ret
  exact ⟨rfl, rfl⟩

theorem cut26_yes (s p : ByteArray) (w : World) (hs : s.size ≤ 1048576) (h : Pre s p) :
    Calls Try.prog 26 #[.string s, .string p] w fun e w' => e = .returned (.tuple #[.string (s.extract p.size s.size), .bool true]) ∧ w' = w := by
  have hp := h.1
  have H := hide h
  clear h
  go_enter Try.func26, Try.ntmps26
  go_wp2_with (go_at_call 27; refine (hasPrefix_yes _ _ _ hs H.out).mono ?_; rintro e w' ⟨rfl, rfl⟩)
  go_ret2
  exact ⟨rfl, rfl⟩
theorem cut26_no (s p : ByteArray) (w : World) (hs : s.size ≤ 1048576) (hp' : p.size ≤ 1048576) (h : ¬ Pre s p) :
    Calls Try.prog 26 #[.string s, .string p] w fun e w' => e = .returned (.tuple #[.string s, .bool false]) ∧ w' = w := by
  have H := hide h
  clear h
  go_enter Try.func26, Try.ntmps26
  go_wp2_with (go_at_call 27; refine (hasPrefix_no _ _ _ hs hp' H.out).mono ?_; rintro e w' ⟨rfl, rfl⟩)
  go_ret2
  exact ⟨rfl, rfl⟩

theorem cut_yes (s p : ByteArray) (w : World) (hs : s.size ≤ 1048576) (h : Pre s p) :
    Calls Try.prog 21 #[.string s, .string p] w fun e w' => e = .returned (.tuple #[.string (s.extract p.size s.size), .bool true]) ∧ w' = w := by
  have H := hide h
  clear h
  go_enter Try.func21, Try.ntmps21
  go_wp2_with (go_at_call 26; refine (cut26_yes _ _ _ hs H.out).mono ?_; rintro e w' ⟨rfl, rfl⟩)
  go_ret2
  exact ⟨rfl, rfl⟩
theorem cut_no (s p : ByteArray) (w : World) (hs : s.size ≤ 1048576) (hp' : p.size ≤ 1048576) (h : ¬ Pre s p) :
    Calls Try.prog 21 #[.string s, .string p] w fun e w' => e = .returned (.tuple #[.string s, .bool false]) ∧ w' = w := by
  have H := hide h
  clear h
  go_enter Try.func21, Try.ntmps21
  go_wp2_with (go_at_call 26; refine (cut26_no _ _ _ hs hp' H.out).mono ?_; rintro e w' ⟨rfl, rfl⟩)
  go_ret2
  exact ⟨rfl, rfl⟩

theorem hasSlash_no (s : ByteArray) (w : World) (hs : s.size ≤ 1048576) (h : ∀ k (hk : k < s.size), s[k].toNat ≠ 47) :
    Calls Try.prog 10 #[.string s] w fun e w' => e = .returned (.bool false) ∧ w' = w := by
  have H := hide h
  clear h
  go_enter Try.func10, Try.ntmps10
  go_wp2
  go_loop [3] (fun i => ∃ k : Nat, k ≤ s.size ∧ i = .int .i64 k) (fun i => s.size - (intOf i).toNat)
  case atStart => exact ⟨0, Nat.zero_le _, rfl⟩
  case round =>
    obtain ⟨k, hk, rfl⟩ := hrel
    by_cases hlt : k < s.size
    · have h1 : ((s[k].toNat : Int) == 47) = false := by
        have := H.out k hlt
        rw [beq_eq_false_iff_ne]; omega
      go_wp2
      go_round
      case rel => exact ⟨k + 1, by omega, by go_num⟩
      case measure => simp [intOf]; omega
    · go_wp2
      go_ret
      exact ⟨rfl, rfl⟩

theorem bytes_yes (a0 a1 a3 : Int) (p s : ByteArray) (w : World) (h : p.size + s.size ≤ 1048576) :
    Calls Try.prog 8 #[.int .u32 a0, .int .u32 a1, .string p, .int .u32 a3, .string s] w fun e w' => e = .returned (.bool true) ∧ w' = w := by
  go_enter Try.func8, Try.ntmps8
  go_wp2
  go_ret
  exact ⟨rfl, rfl⟩
theorem bytes_no (a0 a1 a3 : Int) (p s : ByteArray) (w : World) (hp : p.size ≤ maxLen) (hs : s.size ≤ maxLen) (h : ¬ p.size + s.size ≤ 1048576) :
    Calls Try.prog 8 #[.int .u32 a0, .int .u32 a1, .string p, .int .u32 a3, .string s] w fun e w' => e = .returned (.bool false) ∧ w' = w := by
  unfold maxLen at hp hs
  by_cases h1 : 1048576 < p.size
  · go_enter Try.func8, Try.ntmps8
    go_wp2
    go_ret
    exact ⟨rfl, rfl⟩
  · by_cases h2 : 1048576 < s.size
    · go_enter Try.func8, Try.ntmps8
      go_wp2
      go_ret
      exact ⟨rfl, rfl⟩
    · go_enter Try.func8, Try.ntmps8
      go_wp2
      go_ret
      exact ⟨rfl, rfl⟩
end Go.Proofs.Qxb6602171a
