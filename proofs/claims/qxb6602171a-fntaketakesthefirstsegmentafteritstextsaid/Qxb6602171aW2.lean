import Derived.Test.Qxb6602171aW1
namespace Go.Proofs.Qxb6602171a
open Go.RowKit
set_option linter.unusedVariables false

/-- What 'optional' answers. -/
def OptIs (P : ByteArray) (en : Nat) (o : Bool) : Prop := (o = false ∧ P.size ≤ en) ∨ ∃ h : en < P.size, ((P[en].toNat : Int) == 63) = o
theorem OptIs.some (P : ByteArray) (en : Nat) : ∃ o, OptIs P en o := by
  by_cases h : en < P.size
  · exact ⟨_, .inr ⟨h, rfl⟩⟩
  · exact ⟨false, .inl ⟨rfl, by omega⟩⟩

theorem optional_any (st en : Nat) (P : ByteArray) (o : Bool) (w : World) (hP : P.size ≤ 1048576) (he : en ≤ 4294967295) (ho : OptIs P en o) :
    Calls Try.prog 24 #[.agg #[.int .u32 st, .int .u32 en], .string P] w fun e w' => e = .returned (.bool o) ∧ Below w.heap.size w w' := by
  rcases ho with ⟨rfl, h⟩ | ⟨h, ho⟩
  · go_enter Try.func24, Try.ntmps24
    go_wp2
    go_ret
    exact ⟨rfl, by go_grown⟩
  · go_enter Try.func24, Try.ntmps24
    go_wp2
    go_ret
    exact ⟨rfl, by go_grown⟩

/-- Where a segment ends. -/
structure SegEnd (s : ByteArray) (e : Nat) : Prop where
  lo : 1 ≤ e
  hi : e ≤ s.size
  no : ∀ j (hj : j < s.size), 1 ≤ j → j < e → s[j].toNat ≠ 47
  at_end : ∀ h : e < s.size, s[e].toNat = 47
def SegAns (s : ByteArray) (e : Ending) : Prop := ∃ n, SegEnd s n ∧ e = .returned (.tuple #[.string (s.extract 1 n), .string (s.extract n s.size)])

theorem cutSegment_any (s : ByteArray) (w : World) (hs : s.size ≤ 1048576) (h1 : 1 ≤ s.size) :
    Calls Try.prog 23 #[.string s] w fun e w' => SegAns s e ∧ ∃ n, w' = w.drewN n := by
  go_enter Try.func23, Try.ntmps23
  go_wp2
  go_loop [4] (fun i => ∃ k : Nat, k ≤ s.size ∧ 1 ≤ k ∧ i = .int .i64 k ∧ Hid (∀ j (hj : j < s.size), 1 ≤ j → j < k → s[j].toNat ≠ 47)) (fun i => s.size - (intOf i).toNat)
  case atStart => exact ⟨1, h1, Nat.le_refl _, rfl, fun j hj a b => by omega⟩
  case round =>
    obtain ⟨k, hk, hk1, rfl, N⟩ := hrel
    by_cases hlt : k < s.size
    · by_cases hc : s[k].toNat = 47
      · have hc1 : ((s[k].toNat : Int) != 47) = false := by rw [bne_eq_false_iff_eq]; omega
        have A : Hid (SegEnd s k) := ⟨hk1, hk, N.out, fun _ => hc⟩
        clear hc N
        go_wp2
        go_quiet (fail)
        go_wp2
        go_ret2
        exact ⟨⟨k, A.out, rfl⟩, _, rfl⟩
      · have hc1 : ((s[k].toNat : Int) != 47) = true := by rw [bne_iff_ne]; omega
        have C := hide hc
        clear hc
        go_wp2
        go_round
        case rel => exact ⟨k + 1, by omega, by omega, by go_num, fun j hj a b => by rcases Nat.lt_succ_iff_lt_or_eq.1 b with h | h; exact N.out j hj a h; subst h; exact C.out⟩
        case measure => simp [intOf]; omega
    · obtain rfl : k = s.size := by omega
      have A : Hid (SegEnd s s.size) := ⟨hk1, hk, N.out, fun h => absurd h (Nat.lt_irrefl _)⟩
      clear N
      have b1 : ((s.size : Int) < (s.size : Int)) = False := by simp
      go_wp2
      go_quiet (fail)
      go_wp2
      go_ret2
      exact ⟨⟨s.size, A.out, by rw [show s.extract s.size s.size = ByteArray.empty by simp]; rfl⟩, _, rfl⟩

/-- The slash, as a string. -/
theorem slash_size : (ByteArray.mk #[47]).size = 1 := rfl
theorem slash_yes {s : ByteArray} (h : 0 < s.size) (h2 : s[0].toNat = 47) : Pre s ⟨#[47]⟩ := by
  refine ⟨h, ?_⟩
  rw [slash_size]
  refine ByteArray.ext_getElem (by rw [ByteArray.size_extract, slash_size]; omega) fun i hi hi2 => ?_
  have hi0 : i = 0 := by rw [slash_size] at hi2; omega
  subst hi0
  rw [ByteArray.getElem_extract]
  simp only [Nat.add_zero]
  exact UInt8.toNat_inj.1 h2
theorem slash_no {s : ByteArray} (h : s.size = 0 ∨ ∃ h : 0 < s.size, s[0].toNat ≠ 47) : ¬ Pre s ⟨#[47]⟩ := by
  rintro ⟨h1, h2⟩
  rw [slash_size] at h1 h2
  rcases h with h | ⟨h, h3⟩
  · omega
  · apply h3
    have : (s.extract 0 1)[0]'(by rw [ByteArray.size_extract]; omega) = (47 : UInt8) := by simp [h2]; rfl
    rw [ByteArray.getElem_extract] at this
    simp only [Nat.add_zero] at this
    rw [this]; rfl

theorem ne_of_size {V : ByteArray} (h : 0 < V.size) : V.toList.isEmpty = false := by
  rw [Lib.toList_data, List.isEmpty_eq_false_iff, ← List.length_pos_iff]
  simpa using h
theorem below_drewN (B : Nat) (w : World) (n : Nat) : Below B w (w.drewN n) := ⟨rfl, rfl, rfl, Nat.le_refl _, fun _ _ => rfl⟩

/-- The arguments of 'take' fit the pattern. -/
structure Fits (P : ByteArray) (st en fr : Nat) (S : ByteArray) : Prop where
  a : 2 ≤ st
  b : fr ≤ st - 2
  c : st ≤ en
  d : en ≤ P.size
  e : P.size + S.size ≤ 1048576

theorem take_miss (P S : ByteArray) (st en fr : Nat) (o : Bool) (w : World) (hF : Fits P st en fr S) (ho : OptIs P en o) (h : ¬ Pre S (P.extract fr (st - 2))) :
    Calls Try.prog 18 #[.agg #[.int .u32 st, .int .u32 en], .string P, .int .u32 fr, .string S] w fun e w' => e = .returned (.tuple #[.string ByteArray.empty, .string ByteArray.empty, .bool (!o)]) ∧ Below w.heap.size w w' := by
  obtain ⟨f1, f2, f3, f4, f5⟩ := hF
  have H := hide h
  have O := hide ho
  clear h ho
  go_enter Try.func18, Try.ntmps18
  go_wp2_with fail
  refine (cut_no S (P.extract fr (st - 2)) _ (by omega) (by rw [ByteArray.size_extract]; omega) H.out).mono ?_
  rintro e w' ⟨rfl, rfl⟩
  go_wp2_with fail
  refine (optional_any st en P o _ (by omega) (by omega) O.out).mono ?_
  rintro e w' ⟨rfl, hb⟩
  go_wp2
  go_ret3
  exact ⟨rfl, chain (by go_grown) hb⟩

theorem take_miss2 (P S : ByteArray) (st en fr : Nat) (o : Bool) (w : World) (hF : Fits P st en fr S) (ho : OptIs P en o) (h : Pre S (P.extract fr (st - 2))) (h2 : ¬ Pre (S.extract (P.extract fr (st - 2)).size S.size) ⟨#[47]⟩) :
    Calls Try.prog 18 #[.agg #[.int .u32 st, .int .u32 en], .string P, .int .u32 fr, .string S] w fun e w' => e = .returned (.tuple #[.string ByteArray.empty, .string ByteArray.empty, .bool (!o)]) ∧ Below w.heap.size w w' := by
  obtain ⟨f1, f2, f3, f4, f5⟩ := hF
  have H := hide h
  have H2 := hide h2
  have O := hide ho
  clear h ho h2
  go_enter Try.func18, Try.ntmps18
  go_wp2_with fail
  refine (cut_yes S (P.extract fr (st - 2)) _ (by omega) H.out).mono ?_
  rintro e w' ⟨rfl, rfl⟩
  have hz : (S.extract (P.extract fr (st - 2)).size S.size).size ≤ 1048576 := by rw [ByteArray.size_extract]; omega
  generalize S.extract (P.extract fr (st - 2)).size S.size = T at *
  go_wp2_with fail
  refine (hasPrefix22_no T ⟨#[47]⟩ _ hz (by decide) H2.out).mono ?_
  rintro e w' ⟨rfl, rfl⟩
  go_wp2_with fail
  refine (optional_any st en P o _ (by omega) (by omega) O.out).mono ?_
  rintro e w' ⟨rfl, hb⟩
  go_wp2
  go_ret3
  exact ⟨rfl, chain (by go_grown) hb⟩

theorem take_star (P S : ByteArray) (st en fr : Nat) (w : World) (hF : Fits P st en fr S) (h : Pre S (P.extract fr (st - 2))) (h2 : Pre (S.extract (P.extract fr (st - 2)).size S.size) ⟨#[47]⟩)
    (hs : st - 1 < P.size) (h3 : ((P[st - 1].toNat : Int) == 42) = true) (h4 : 0 < (S.extract (P.extract fr (st - 2)).size S.size).size) :
    Calls Try.prog 18 #[.agg #[.int .u32 st, .int .u32 en], .string P, .int .u32 fr, .string S] w fun e w' =>
      e = .returned (.tuple #[.string ((S.extract (P.extract fr (st - 2)).size S.size).extract 1 (S.extract (P.extract fr (st - 2)).size S.size).size), .string ByteArray.empty, .bool true]) ∧ Below w.heap.size w w' := by
  obtain ⟨f1, f2, f3, f4, f5⟩ := hF
  have H := hide h
  have H2 := hide h2
  clear h h2
  have hz : (S.extract (P.extract fr (st - 2)).size S.size).size ≤ 1048576 := by rw [ByteArray.size_extract]; omega
  generalize hT : S.extract (P.extract fr (st - 2)).size S.size = T at *
  have HT := hide hT
  clear hT
  go_enter Try.func18, Try.ntmps18
  go_wp2_with fail
  refine (cut_yes S (P.extract fr (st - 2)) _ (by omega) H.out).mono ?_
  rintro e w' ⟨rfl, rfl⟩
  rw [HT.out]
  go_wp2_with fail
  refine (hasPrefix22_yes T ⟨#[47]⟩ _ hz H2.out).mono ?_
  rintro e w' ⟨rfl, rfl⟩
  go_wp2
  go_ret3
  exact ⟨rfl, by go_grown⟩

/-- What 'take' answers where there is a segment: with T what is left of the path behind the text. -/
def TakeAns (T : ByteArray) (o : Bool) (e : Ending) : Prop :=
  ∃ n, SegEnd T n ∧ e = .returned (.tuple #[.string (T.extract 1 n), .string (T.extract n T.size), .bool (decide (1 < n) || !o)])

theorem take_seg (P S : ByteArray) (st en fr : Nat) (o : Bool) (w : World) (hF : Fits P st en fr S) (ho : OptIs P en o) (h : Pre S (P.extract fr (st - 2))) (h2 : Pre (S.extract (P.extract fr (st - 2)).size S.size) ⟨#[47]⟩)
    (hs : st - 1 < P.size) (h3 : ((P[st - 1].toNat : Int) == 42) = false) (h4 : 0 < (S.extract (P.extract fr (st - 2)).size S.size).size) :
    Calls Try.prog 18 #[.agg #[.int .u32 st, .int .u32 en], .string P, .int .u32 fr, .string S] w fun e w' => TakeAns (S.extract (P.extract fr (st - 2)).size S.size) o e ∧ Below w.heap.size w w' := by
  obtain ⟨f1, f2, f3, f4, f5⟩ := hF
  have H := hide h
  have H2 := hide h2
  have O := hide ho
  clear h h2 ho
  have hz : (S.extract (P.extract fr (st - 2)).size S.size).size ≤ 1048576 := by rw [ByteArray.size_extract]; omega
  generalize hT : S.extract (P.extract fr (st - 2)).size S.size = T at *
  have HT := hide hT
  clear hT
  go_enter Try.func18, Try.ntmps18
  go_wp2_with fail
  refine (cut_yes S (P.extract fr (st - 2)) _ (by omega) H.out).mono ?_
  rintro e w' ⟨rfl, rfl⟩
  rw [HT.out]
  clear H HT
  go_wp2_with fail
  refine (hasPrefix22_yes T ⟨#[47]⟩ _ hz H2.out).mono ?_
  rintro e w' ⟨rfl, rfl⟩
  go_wp2_with fail
  refine (cutSegment_any T _ hz h4).mono ?_
  rintro e w' ⟨⟨n, sE, rfl⟩, nd, rfl⟩
  have E := hide sE
  by_cases hn : 1 < n
  · have hv : (T.extract 1 n).toList.isEmpty = false := ne_of_size (by rw [ByteArray.size_extract]; have := sE.hi; omega)
    clear sE
    generalize hV : T.extract 1 n = V at *
    have HV := hide hV
    clear hV
    generalize hR : T.extract n T.size = R at *
    have HR := hide hR
    clear hR
    go_wp2
    go_ret3
    exact ⟨⟨n, E.out, by rw [HV.out, HR.out, decide_eq_true hn]; rfl⟩, chain (by go_grown) (below_drewN _ _ _)⟩
  · have hn1 : n = 1 := by have := sE.lo; omega
    have hV : T.extract 1 n = ByteArray.empty := by rw [hn1]; simp
    rw [hV]
    have HV := hide hV
    clear sE hV
    generalize hR : T.extract n T.size = R at *
    have HR := hide hR
    clear hR hn1
    have bd := below_drewN w.heap.size (w.alloc (Obj.cells #[Value.int IntKind.u32 ↑st, Value.int IntKind.u32 ↑en] 42)) nd
    have B1 : Hid (Below w.heap.size w ((w.alloc (Obj.cells #[Value.int IntKind.u32 ↑st, Value.int IntKind.u32 ↑en] 42)).drewN nd)) := ((Below.refl _ w).alloc (Nat.le_refl _) _).trans bd
    clear bd
    go_wp2_with fail
    refine (optional_any st en P o _ (by omega) (by omega) O.out).mono ?_
    rintro e w' ⟨rfl, hb⟩
    go_wp2
    go_ret3
    exact ⟨⟨n, E.out, by rw [HV.out, HR.out, decide_eq_false hn]; rfl⟩, chain B1.out hb⟩
end Go.Proofs.Qxb6602171a
