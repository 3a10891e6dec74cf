import Derived.Test.Qxb6602171aW3
namespace Go.Proofs.Qxb6602171a
open Go.RowKit
set_option linter.unusedVariables false
set_option maxRecDepth 100000

theorem law_long (a0 a1 a3 : Int) (P S : ByteArray) (w : World) (hp : P.size ≤ maxLen) (hs : S.size ≤ maxLen) (h : ¬ P.size + S.size ≤ 1048576) :
    Calls Try.prog 3 #[.int .u32 a0, .int .u32 a1, .string P, .int .u32 a3, .string S] w fun e w' => e = .returned (.bool true) ∧ w' = w := by
  go_enter Try.func3, Try.ntmps3
  go_wp2_with (go_at_call 8; refine (bytes_no _ _ _ _ _ _ hp hs h).mono ?_; rintro e w' ⟨rfl, rfl⟩)
  go_ret
  exact ⟨rfl, rfl⟩

theorem law_out (st en fr : Nat) (P S : ByteArray) (w : World) (h0 : P.size + S.size ≤ 1048576) (b1 : st ≤ 4294967295) (b2 : en ≤ 4294967295) (b3 : fr ≤ 4294967295) (h : ¬ (2 ≤ st ∧ fr ≤ st - 2 ∧ st ≤ en ∧ en ≤ P.size)) :
    Calls Try.prog 3 #[.int .u32 st, .int .u32 en, .string P, .int .u32 fr, .string S] w fun e w' => e = .returned (.bool true) ∧ w' = w := by
  have d1 : decide (1048576 < (P.size : Int)) = false := by simp; omega
  have d2 : decide (1048576 < (S.size : Int)) = false := by simp; omega
  by_cases h1 : st < 2
  · have d3 : decide ((st : Int) < 2) = true := by simp; omega
    go_enter Try.func3, Try.ntmps3
    go_wp2_with (go_at_call 8; refine (bytes_yes _ _ _ _ _ _ h0).mono ?_; rintro e w' ⟨rfl, rfl⟩)
    go_ret
    exact ⟨rfl, rfl⟩
  · have d3 : decide ((st : Int) < 2) = false := by simp; omega
    by_cases h2 : st - 2 < fr
    · have d4 : decide ((st : Int) - 2 < (fr : Int)) = true := by simp; omega
      go_enter Try.func3, Try.ntmps3
      go_wp2_with (go_at_call 8; refine (bytes_yes _ _ _ _ _ _ h0).mono ?_; rintro e w' ⟨rfl, rfl⟩)
      go_ret
      exact ⟨rfl, rfl⟩
    · have d4 : decide ((st : Int) - 2 < (fr : Int)) = false := by simp; omega
      by_cases h3 : en < st
      · have d5 : decide ((en : Int) < (st : Int)) = true := by simp; omega
        go_enter Try.func3, Try.ntmps3
        go_wp2_with (go_at_call 8; refine (bytes_yes _ _ _ _ _ _ h0).mono ?_; rintro e w' ⟨rfl, rfl⟩)
        go_ret
        exact ⟨rfl, rfl⟩
      · have d5 : decide ((en : Int) < (st : Int)) = false := by simp; omega
        have h4 : P.size < en := by omega
        go_enter Try.func3, Try.ntmps3
        go_wp2_with (go_at_call 8; refine (bytes_yes _ _ _ _ _ _ h0).mono ?_; rintro e w' ⟨rfl, rfl⟩)
        go_ret
        exact ⟨rfl, rfl⟩

set_option maxHeartbeats 400000 in
theorem law_miss (st en fr : Nat) (P S : ByteArray) (w : World) (o : Bool) (hF : Fits P st en fr S) (ho : OptIs P en o) (h : ¬ Hit S (P.extract fr (st - 2))) :
    Calls Try.prog 3 #[.int .u32 st, .int .u32 en, .string P, .int .u32 fr, .string S] w fun e w' => e = .returned (.bool true) ∧ Below w.heap.size w w' := by
  have F := hide hF
  have O := hide ho
  have H := hide h
  obtain ⟨f1, f2, f3, f4, h0⟩ := hF
  clear ho h
  have d1 : decide (1048576 < (P.size : Int)) = false := by simp; omega
  have d2 : decide (1048576 < (S.size : Int)) = false := by simp; omega
  have d3 : decide ((st : Int) < 2) = false := by simp; omega
  have d4 : decide ((st : Int) - 2 < (fr : Int)) = false := by simp; omega
  have d5 : decide ((en : Int) < (st : Int)) = false := by simp; omega
  have hqs : (P.extract fr (st - 2)).size ≤ 1048576 := by rw [ByteArray.size_extract]; omega
  go_enter Try.func3, Try.ntmps3
  go_wp2_with fail
  refine (bytes_yes _ _ _ _ _ _ h0).mono ?_
  rintro e w' ⟨rfl, rfl⟩
  go_wp2_with fail
  refine (zz_miss P S st en fr o _ F.out O.out H.out).mono ?_
  rintro e w1 ⟨⟨V, R, ok, ⟨rfl, rfl, rfl⟩, rfl⟩, hb⟩
  have B := hide hb
  clear hb
  generalize hq : P.extract fr (st - 2) = q at *
  have hqq : q.size ≤ 1048576 := hqs
  by_cases m1 : S.size ≤ q.size
  · have d6 : decide ((S.size : Int) ≤ (q.size : Int)) = true := by simp; omega
    rcases O.out with ⟨rfl, hO⟩ | ⟨hO, hO2⟩
    all_goals (go_wp2; go_ret; exact ⟨rfl, B.out⟩)
  · have m1' : q.size < S.size := by omega
    have d6 : decide ((S.size : Int) ≤ (q.size : Int)) = false := by simp; omega
    by_cases m2 : S.extract 0 q.size = q
    · have e1 := same_yes m2
      have e2 : ((S.extract 0 q.size).toList != q.toList) = false := by rw [bne, e1]; rfl
      have m3 : ((S[q.size].toNat : Int) != 47) = true := by
        rw [bne_iff_ne]
        intro e
        exact H.out ⟨m1', m2, by omega⟩
      clear m2
      rcases O.out with ⟨rfl, hO⟩ | ⟨hO, hO2⟩
      all_goals (go_wp2; go_ret; exact ⟨rfl, B.out⟩)
    · have e1 := same_no m2
      have e2 : ((S.extract 0 q.size).toList != q.toList) = true := by rw [bne, e1]; rfl
      clear m2
      rcases O.out with ⟨rfl, hO⟩ | ⟨hO, hO2⟩
      all_goals (go_wp2; go_ret; exact ⟨rfl, B.out⟩)
end Go.Proofs.Qxb6602171a
