import Derived.Test.Qxb6602171aW2
namespace Go.Proofs.Qxb6602171a
open Go.RowKit
set_option linter.unusedVariables false

/-- Two strings and a bool come back, of which K. -/
def Trip (K : ByteArray → ByteArray → Bool → Prop) (e : Ending) : Prop := ∃ V R ok, K V R ok ∧ e = .returned (.tuple #[.string V, .string R, .bool ok])

theorem zztake (K : ByteArray → ByteArray → Bool → Prop) (P S : ByteArray) (st en fr : Nat) (w : World)
    (hc : ∀ w, Calls Try.prog 18 #[.agg #[.int .u32 st, .int .u32 en], .string P, .int .u32 fr, .string S] w fun e w' => Trip K e ∧ Below w.heap.size w w') :
    Calls Try.prog 9 #[.int .u32 st, .int .u32 en, .string P, .int .u32 fr, .string S] w fun e w' => Trip K e ∧ Below w.heap.size w w' := by
  have H := hide hc
  clear hc
  go_enter Try.func9, Try.ntmps9
  go_wp2_with fail
  refine (H.out _).mono ?_
  rintro e w' ⟨⟨V, R, ok, hK, rfl⟩, hb⟩
  have HK := hide hK
  have HB := hide hb
  clear hK hb
  go_wp2
  go_ret3
  exact ⟨⟨V, R, ok, HK.out, rfl⟩, HB.out⟩

/-- The path begins with the text q and a slash. -/
def Hit (S q : ByteArray) : Prop := ∃ h : q.size < S.size, S.extract 0 q.size = q ∧ S[q.size].toNat = 47

theorem hit_slash {S q : ByteArray} (h : Hit S q) : Pre S q ∧ Pre (S.extract q.size S.size) ⟨#[47]⟩ ∧ 0 < (S.extract q.size S.size).size := by
  obtain ⟨h1, h2, h3⟩ := h
  have hz : 0 < (S.extract q.size S.size).size := by rw [ByteArray.size_extract]; omega
  refine ⟨⟨by omega, h2⟩, slash_yes hz ?_, hz⟩
  rw [ByteArray.getElem_extract]
  simpa using h3
theorem miss_slash {S q : ByteArray} (h : ¬ Hit S q) (h2 : Pre S q) : ¬ Pre (S.extract q.size S.size) ⟨#[47]⟩ := by
  apply slash_no
  by_cases hlt : q.size < S.size
  · have hz : 0 < (S.extract q.size S.size).size := by rw [ByteArray.size_extract]; omega
    refine .inr ⟨hz, ?_⟩
    rw [ByteArray.getElem_extract]
    exact fun e => h ⟨hlt, h2.2, by simpa using e⟩
  · refine .inl ?_
    rw [ByteArray.size_extract]; omega

theorem zz_miss (P S : ByteArray) (st en fr : Nat) (o : Bool) (w : World) (hF : Fits P st en fr S) (ho : OptIs P en o) (h : ¬ Hit S (P.extract fr (st - 2))) :
    Calls Try.prog 9 #[.int .u32 st, .int .u32 en, .string P, .int .u32 fr, .string S] w fun e w' => Trip (fun V R ok => V = ByteArray.empty ∧ R = ByteArray.empty ∧ ok = !o) e ∧ Below w.heap.size w w' := by
  refine zztake _ P S st en fr w fun w => ?_
  by_cases hp : Pre S (P.extract fr (st - 2))
  · exact (take_miss2 P S st en fr o w hF ho hp (miss_slash h hp)).mono fun e w' ⟨he, hb⟩ => ⟨⟨_, _, _, ⟨rfl, rfl, rfl⟩, he⟩, hb⟩
  · exact (take_miss P S st en fr o w hF ho hp).mono fun e w' ⟨he, hb⟩ => ⟨⟨_, _, _, ⟨rfl, rfl, rfl⟩, he⟩, hb⟩

theorem ext2 (S : ByteArray) (m : Nat) (h : m < S.size) : (S.extract m S.size).extract 1 (S.extract m S.size).size = S.extract (m + 1) S.size := by
  rw [ByteArray.extract_extract, ByteArray.size_extract]
  congr 1; omega
theorem ext3 (S : ByteArray) (m n : Nat) (h : m < S.size) (h1 : 1 ≤ n) (h2 : n ≤ S.size - m) : (S.extract m S.size).extract 1 n = S.extract (m + 1) (m + n) := by
  rw [ByteArray.extract_extract]
  congr 1; omega
theorem ext4 (S : ByteArray) (m n : Nat) (h : m < S.size) (h1 : 1 ≤ n) (h2 : n ≤ S.size - m) : (S.extract m S.size).extract n (S.extract m S.size).size = S.extract (m + n) S.size := by
  rw [ByteArray.extract_extract, ByteArray.size_extract]
  congr 1; omega

theorem zz_star (P S : ByteArray) (st en fr : Nat) (w : World) (hF : Fits P st en fr S) (h : Hit S (P.extract fr (st - 2))) (hs : st - 1 < P.size) (h3 : ((P[st - 1].toNat : Int) == 42) = true) :
    Calls Try.prog 9 #[.int .u32 st, .int .u32 en, .string P, .int .u32 fr, .string S] w fun e w' => Trip (fun V R ok => V = S.extract ((P.extract fr (st - 2)).size + 1) S.size ∧ R = ByteArray.empty ∧ ok = true) e ∧ Below w.heap.size w w' := by
  refine zztake _ P S st en fr w fun w => ?_
  obtain ⟨a, b, c⟩ := hit_slash h
  exact (take_star P S st en fr w hF a b hs h3 c).mono fun e w' ⟨he, hb⟩ => ⟨⟨_, _, _, ⟨ext2 _ _ h.1, rfl, rfl⟩, he⟩, hb⟩

/-- The segment that 'take' cut, seen from 'after', what stands in the path behind the slash. -/
structure Seg (A V R : ByteArray) (o ok : Bool) : Prop where
  size : V.size + R.size = A.size
  head : A.extract 0 V.size = V
  tail : A.extract V.size A.size = R
  no : ∀ k (hk : k < V.size), V[k].toNat ≠ 47
  at_end : ∀ h : 0 < R.size, R[0].toNat = 47
  ok : ok = (decide (0 < V.size) || !o)

theorem seg_of {S : ByteArray} {m n : Nat} {o : Bool} (h : m < S.size) (hE : SegEnd (S.extract m S.size) n) :
    Seg (S.extract (m + 1) S.size) ((S.extract m S.size).extract 1 n) ((S.extract m S.size).extract n (S.extract m S.size).size) o (decide (1 < n) || !o) := by
  obtain ⟨e1, e2, e3, e4⟩ := hE
  rw [ByteArray.size_extract] at e2
  have hn : n ≤ S.size - m := by omega
  have hV : (S.extract (m + 1) (m + n)).size = n - 1 := by rw [ByteArray.size_extract]; omega
  have hR : (S.extract (m + n) S.size).size = S.size - m - n := by rw [ByteArray.size_extract]; omega
  have hA : (S.extract (m + 1) S.size).size = S.size - m - 1 := by rw [ByteArray.size_extract]; omega
  rw [ext3 S m n h e1 hn, ext4 S m n h e1 hn]
  refine ⟨by omega, ?_, ?_, ?_, ?_, ?_⟩
  · rw [hV, ByteArray.extract_extract]; congr 1; omega
  · rw [hV, hA, ByteArray.extract_extract]; congr 1 <;> omega
  · intro k hk
    have := e3 (k + 1) (by rw [ByteArray.size_extract]; omega) (by omega) (by omega)
    rw [ByteArray.getElem_extract] at this
    rw [ByteArray.getElem_extract]
    simpa [Nat.add_assoc, Nat.add_comm 1 k] using this
  · intro h0
    have := e4 (by rw [ByteArray.size_extract]; omega)
    rw [ByteArray.getElem_extract] at this
    rw [ByteArray.getElem_extract]
    simpa using this
  · rw [hV]
    congr 1
    by_cases h1 : 1 < n
    · rw [decide_eq_true h1, decide_eq_true (by omega)]
    · rw [decide_eq_false h1, decide_eq_false (by omega)]

theorem zz_seg (P S : ByteArray) (st en fr : Nat) (o : Bool) (w : World) (hF : Fits P st en fr S) (ho : OptIs P en o) (h : Hit S (P.extract fr (st - 2))) (hs : st - 1 < P.size) (h3 : ((P[st - 1].toNat : Int) == 42) = false) :
    Calls Try.prog 9 #[.int .u32 st, .int .u32 en, .string P, .int .u32 fr, .string S] w fun e w' => Trip (fun V R ok => Seg (S.extract ((P.extract fr (st - 2)).size + 1) S.size) V R o ok) e ∧ Below w.heap.size w w' := by
  refine zztake _ P S st en fr w fun w => ?_
  obtain ⟨a, b, c⟩ := hit_slash h
  exact (take_seg P S st en fr o w hF ho a b hs h3 c).mono fun e w' ⟨⟨n, hE, he⟩, hb⟩ => ⟨⟨_, _, _, seg_of h.1 hE, he⟩, hb⟩
end Go.Proofs.Qxb6602171a
