import Derived.Test.Qxb6601894aW2
namespace Go.Proofs.Qxb6601894a
open Go.RowKit

theorem bcell {W w1 : World} (hb : Below W.heap.size W w1) : ∀ b o, b < W.heap.size → w1.cell? ⟨b, o, none⟩ = W.cell? ⟨b, o, none⟩ :=
  fun b o h => hb.cell (p := ⟨b, o, none⟩) h

/-- 'z' rises strictly on the first 'len'. -/
def Asc (len : Nat) (z : Nat → Int) : Prop := ∀ i j, i < j → j < len → z i < z j
theorem Asc.of {len : Nat} {z : Nat → Int} (h : ∀ j, j + 1 < len → z j < z (j + 1)) : Asc len z := by
  intro i j hij hj
  induction j with
  | zero => omega
  | succ j ih =>
    by_cases e : i = j
    · subst e; exact h i hj
    · have := ih (by omega) (by omega); have := h j hj; omega
theorem Asc.lo {len : Nat} {z : Nat → Int} (h : Asc len z) {i j : Nat} (hj : j < len) (hz : z j < z i) : j < i := by
  by_cases e : i < j
  · have := h i j e hj; omega
  · by_cases e2 : i = j
    · subst e2; omega
    · omega
theorem Asc.hi {len : Nat} {z : Nat → Int} (h : Asc len z) {i j : Nat} (hi : i < len) (hz : z i ≤ z j) : i ≤ j := by
  by_cases e : j < i
  · have := h j i e hi; omega
  · omega

set_option maxHeartbeats 400000 in
theorem bsearch_any (b len cap : Nat) (z : Nat → Int) (i0 : Nat) (x : Int) (w : World) (hb : b < w.heap.size) (hl : len ≤ 131072) (hi : i0 < len) (hx : z i0 = x) (hA : Asc len z) (hH : ∀ j, j < len → Half (z j))
    (hc : ∀ j, j < len → w.cell? ⟨b, j, none⟩ = some (.int .i64 (z j))) :
    Calls Try.prog 37 #[.slice (some ⟨b, 0, none⟩) len cap, .agg #[.int .i64 x], .func (.func 38) #[] #[]] w fun e w' => e = .returned (.tuple #[.int .i64 i0, .bool true]) ∧ Below w.heap.size w w' := by
  have X : Hid (z i0 = x) := hx
  have A : Hid (Asc len z) := hA
  have H : Hid (∀ j, j < len → Half (z j)) := hH
  have C : Hid (∀ j, j < len → w.cell? ⟨b, j, none⟩ = some (.int .i64 (z j))) := hc
  clear hx hA hH hc
  go_enter Try.func37, Try.ntmps37
  go_wp2
  go_loopw [9, 10] (fun s9 s10 wr => ∃ lo hi : Nat, s9 = .int .i64 lo ∧ s10 = .int .i64 hi ∧ lo ≤ i0 ∧ i0 ≤ hi ∧ hi ≤ len ∧ Below (w.heap.size + 1) (w.alloc (.cells #[.int .i64 x] 29)) wr) (fun s9 s10 _ => (intOf s10).toNat - (intOf s9).toNat)
  case atStart => exact ⟨0, len, rfl, rfl, by omega, by omega, by omega, Below.refl _ _⟩
  case round =>
    obtain ⟨lo, hi', rfl, rfl, h1, h2, h3, hB⟩ := hrel
    have hsz := hB.size
    simp at hsz
    have ct : wr.cell? ⟨w.heap.size, 0, none⟩ = some (.int .i64 x) := by rw [hB.cell (by simp)]; simp [go_sem]
    have hB' : Below w.heap.size w wr := ((Below.refl _ w).alloc (Nat.le_refl _) _).trans (hB.mono (by omega))
    have hbr : b < wr.heap.size := by omega
    by_cases hlt : lo < hi'
    · have ch : wr.cell? ⟨b, (lo + hi') / 2, none⟩ = some (.int .i64 (z ((lo + hi') / 2))) := by
        rw [bcell hB' _ _ hb]
        exact C.out _ (by omega)
      have hm := H.out ((lo + hi') / 2) (by omega)
      have h0 := H.out i0 hi
      rw [X.out] at h0
      generalize hm' : (lo + hi') / 2 = m at *
      have M : Hid ((lo + hi') / 2 = m) := hm'
      clear hm'
      have em : ((lo : Int) + (hi' : Int)) / 2 = (m : Int) := by have := M.out; omega
      have m1 : lo ≤ m := by have := M.out; omega
      have m2 : m < hi' := by have := M.out; omega
      have m3 : (m : Int) < (len : Int) := by omega
      obtain ⟨g1, g2⟩ := hm
      obtain ⟨g3, g4⟩ := h0
      by_cases hz : z m < x
      · go_wp2
        go_region_with (go_at_call 38; refine (cmp_any (z m) x _ (by omega) (by omega)).mono ?_; rintro e w' ⟨rfl, hb2⟩)
        all_goals
          go_wp2
          go_roundw
          case rel => exact ⟨m + 1, hi', by go_num, rfl, by have := A.out.lo (by omega) (show z m < z i0 by rw [X.out]; exact hz); omega, h2, h3, hB.drew.trans (hb2.mono (by simp; omega))⟩
          case measure => simp [intOf]; omega
      · go_wp2
        go_region_with (go_at_call 38; refine (cmp_any (z m) x _ (by omega) (by omega)).mono ?_; rintro e w' ⟨rfl, hb2⟩)
        all_goals
          go_wp2
          go_roundw
          case rel => exact ⟨lo, m, rfl, rfl, h1, A.out.hi hi (show z i0 ≤ z m by rw [X.out]; omega), by omega, hB.drew.trans (hb2.mono (by simp; omega))⟩
          case measure => simp [intOf]; omega
    · obtain rfl : lo = i0 := by omega
      have ch : wr.cell? ⟨b, lo, none⟩ = some (.int .i64 x) := by
        rw [bcell hB' _ _ hb, ← X.out]
        exact C.out _ (by omega)
      have h0 := H.out lo hi
      rw [X.out] at h0
      obtain ⟨g3, g4⟩ := h0
      have ez : x - x = 0 := by omega
      have b1 : (lo : Int) < (len : Int) := by omega
      have bd : decide ((lo : Int) < (len : Int)) = true := by simp; omega
      have hsr : w.heap.size < wr.heap.size := by omega
      clear C A X H
      go_wp2
      go_region_held3 (fun w' => w'.cell? ⟨b, lo, none⟩ = some (.int .i64 x) ∧ w'.cell? ⟨w.heap.size, 0, none⟩ = some (.int .i64 x)) (simp [*, go_sem])
        (first | (go_at_call 38; refine (cmp_any x x _ (by omega) (by omega)).mono ?_; rintro e w' ⟨rfl, hb2⟩; have hq := bcell hb2; simp at hq))
      go_wp2
      go_ret2
      exact ⟨rfl, (hB'.drew).trans (hb2.mono (by simp; omega))⟩

theorem search_any (c b len cap : Nat) (z : Nat → Int) (i0 : Nat) (x : Int) (w : World) (hcw : c < w.heap.size) (hb : b < w.heap.size) (hl : len ≤ 131072) (hi : i0 < len) (hx : z i0 = x) (hA : Asc len z) (hH : ∀ j, j < len → Half (z j))
    (k0 : w.cell? ⟨c, 0, none⟩ = some (.slice (some ⟨b, 0, none⟩) len cap)) (hc : ∀ j, j < len → w.cell? ⟨b, j, none⟩ = some (.int .i64 (z j))) :
    Calls Try.prog 33 #[.pointer (some ⟨c, 0, none⟩), .agg #[.int .i64 x]] w fun e w' => e = .returned (.tuple #[.int .i64 i0, .bool true]) ∧ Below w.heap.size w w' := by
  have X : Hid (z i0 = x) := hx
  have A : Hid (Asc len z) := hA
  have H : Hid (∀ j, j < len → Half (z j)) := hH
  have C : Hid (∀ j, j < len → w.cell? ⟨b, j, none⟩ = some (.int .i64 (z j))) := hc
  clear hx hA hH hc
  go_enter Try.func33, Try.ntmps33
  go_wp2
  go_region_with (go_at_call 37; refine (bsearch_any b len cap z i0 x _ (by simp; omega) hl hi X.out A.out H.out ?_).mono ?_; (intro j hj; simp [go_sem, hb]; exact C.out j hj); rintro e w' ⟨rfl, hb2⟩)
  all_goals
    go_wp2
    go_ret2
    exact ⟨rfl, chain (by go_grown) hb2⟩
end Go.Proofs.Qxb6601894a
