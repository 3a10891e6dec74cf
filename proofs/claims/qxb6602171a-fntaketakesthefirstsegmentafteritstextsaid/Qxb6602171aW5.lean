import Derived.Test.Qxb6602171aW4
namespace Go.Proofs.Qxb6602171a
open Go.RowKit
set_option linter.unusedVariables false
set_option maxRecDepth 100000

theorem empty_of_size {V : ByteArray} (h : V.size = 0) : V.toList.isEmpty = true := by
  rw [Lib.toList_data, List.isEmpty_iff, ← List.length_eq_zero_iff]
  simpa using h

set_option maxHeartbeats 400000 in
theorem law_star (st en fr : Nat) (P S : ByteArray) (w : World) (o : Bool) (hF : Fits P st en fr S) (ho : OptIs P en o) (h : Hit S (P.extract fr (st - 2))) (hs : st - 1 < P.size) (h3 : ((P[st - 1].toNat : Int) == 42) = true) :
    Calls Try.prog 3 #[.int .u32 st, .int .u32 en, .string P, .int .u32 fr, .string S] w fun e w' => e = .returned (.bool true) ∧ Below w.heap.size w w' := by
  have F := hide hF
  have O := hide ho
  have H := hide h
  obtain ⟨f1, f2, f3, f4, h0⟩ := hF
  clear ho h
  have d1 : decide (1048576 < (P.size : Int)) = false := by simp; omega
  have d2 : decide (1048576 < (S.size : Int)) = false := by simp; omega
  have d3 : decide ((st : Int) < 2) = false := by simp; omega
  have d4 : decide ((st : Int) - 2 < (fr : Int)) = false := by simp; omega
  have d5 : decide ((en : Int) < (st : Int)) = false := by simp; omega
  have hqs : (P.extract fr (st - 2)).size ≤ 1048576 := by rw [ByteArray.size_extract]; omega
  go_enter Try.func3, Try.ntmps3
  go_wp2_with fail
  refine (bytes_yes _ _ _ _ _ _ h0).mono ?_
  rintro e w' ⟨rfl, rfl⟩
  go_wp2_with fail
  refine (zz_star P S st en fr _ F.out H.out hs h3).mono ?_
  rintro e w1 ⟨⟨V, R, ok, ⟨rfl, rfl, rfl⟩, rfl⟩, hb⟩
  have B := hide hb
  clear hb
  generalize hq : P.extract fr (st - 2) = q at *
  have hqq : q.size ≤ 1048576 := hqs
  obtain ⟨m1, m2, m3⟩ := H.out
  have d6 : decide ((S.size : Int) ≤ (q.size : Int)) = false := by simp; omega
  have e1 := same_yes m2
  have e2 : ((S.extract 0 q.size).toList != q.toList) = false := by rw [bne, e1]; rfl
  have m4 : ((S[q.size].toNat : Int) != 47) = false := by rw [bne_eq_false_iff_eq]; omega
  clear m2 m3
  generalize hA : S.extract (q.size + 1) S.size = A at *
  rcases O.out with ⟨rfl, hO⟩ | ⟨hO, hO2⟩
  all_goals (go_wp2; go_ret; exact ⟨rfl, B.out⟩)

set_option maxHeartbeats 800000 in
theorem law_seg (st en fr : Nat) (P S : ByteArray) (w : World) (o : Bool) (hF : Fits P st en fr S) (ho : OptIs P en o) (h : Hit S (P.extract fr (st - 2))) (hs : st - 1 < P.size) (h3 : ((P[st - 1].toNat : Int) == 42) = false) :
    Calls Try.prog 3 #[.int .u32 st, .int .u32 en, .string P, .int .u32 fr, .string S] w fun e w' => e = .returned (.bool true) ∧ Below w.heap.size w w' := by
  have F := hide hF
  have O := hide ho
  have H := hide h
  obtain ⟨f1, f2, f3, f4, h0⟩ := hF
  clear ho h
  have d1 : decide (1048576 < (P.size : Int)) = false := by simp; omega
  have d2 : decide (1048576 < (S.size : Int)) = false := by simp; omega
  have d3 : decide ((st : Int) < 2) = false := by simp; omega
  have d4 : decide ((st : Int) - 2 < (fr : Int)) = false := by simp; omega
  have d5 : decide ((en : Int) < (st : Int)) = false := by simp; omega
  have hqs : (P.extract fr (st - 2)).size ≤ 1048576 := by rw [ByteArray.size_extract]; omega
  go_enter Try.func3, Try.ntmps3
  go_wp2_with fail
  refine (bytes_yes _ _ _ _ _ _ h0).mono ?_
  rintro e w' ⟨rfl, rfl⟩
  go_wp2_with fail
  refine (zz_seg P S st en fr o _ F.out O.out H.out hs h3).mono ?_
  rintro e w1 ⟨⟨V, R, ok, hS, rfl⟩, hb⟩
  have B := hide hb
  clear hb
  generalize hq : P.extract fr (st - 2) = q at *
  have hqq : q.size ≤ 1048576 := hqs
  obtain ⟨m1, m2, m3⟩ := H.out
  have d6 : decide ((S.size : Int) ≤ (q.size : Int)) = false := by simp; omega
  have e1 := same_yes m2
  have e2 : ((S.extract 0 q.size).toList != q.toList) = false := by rw [bne, e1]; rfl
  have m4 : ((S[q.size].toNat : Int) != 47) = false := by rw [bne_eq_false_iff_eq]; omega
  have hAs : (S.extract (q.size + 1) S.size).size ≤ 1048576 := by rw [ByteArray.size_extract]; omega
  clear m2 m3
  generalize hA : S.extract (q.size + 1) S.size = A at *
  obtain ⟨s1, s2, s3, s4, s5, s6⟩ := hS
  have NO := hide s4
  have hVs : V.size ≤ 1048576 := by omega
  have hVA : V.size ≤ A.size := by omega
  have hRs : R.size ≤ 1048576 := by omega
  have e5 : ((V.size : Int) + (R.size : Int) != (A.size : Int)) = false := by rw [bne_eq_false_iff_eq]; omega
  have E1 := hide s2
  have E2 := hide s3
  have E5 := hide s5
  have E6 := hide s6
  clear s1 s2 s3 s4 s5 s6
  have C : Hid (Calls Try.prog 10 #[.string V] w1 fun e w' => e = .returned (.bool false) ∧ w' = w1) := hasSlash_no V w1 hVs NO.out
  clear NO
  have hV : (V.toList.isEmpty = false ∧ ok = true) ∨ (V.toList.isEmpty = true ∧ ok = !o) := by
    by_cases h : 0 < V.size
    · exact .inl ⟨ne_of_size h, by rw [E6.out, decide_eq_true h]; rfl⟩
    · exact .inr ⟨empty_of_size (by omega), by rw [E6.out, decide_eq_false h]; rfl⟩
  have hR : (R.toList.isEmpty = true) ∨ (R.toList.isEmpty = false ∧ ∃ h : 0 < R.size, ((R[0].toNat : Int) != 47) = false) := by
    by_cases h : 0 < R.size
    · exact .inr ⟨ne_of_size h, h, by rw [bne_eq_false_iff_eq]; have := E5.out h; omega⟩
    · exact .inl (empty_of_size (by omega))
  have VV := hide hV
  have RR := hide hR
  clear hV hR E6 E5
  rcases O.out with ⟨rfl, hO⟩ | ⟨hO, hO2⟩
  all_goals
    go_wp2_with fail
    refine C.out.mono ?_
    rintro e w2 ⟨rfl, rfl⟩
    have s2 := E1.out
    have s3 := E2.out
    clear E1 E2 C
    rcases VV.out with ⟨hv, rfl⟩ | ⟨hv, rfl⟩ <;> rcases RR.out with hr | ⟨hr, hr1, hr2⟩
    all_goals (go_wp2; go_ret; exact ⟨rfl, B.out⟩)
end Go.Proofs.Qxb6602171a
