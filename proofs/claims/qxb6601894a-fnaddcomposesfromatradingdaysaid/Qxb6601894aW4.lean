import Derived.Test.Qxb6601894aW3
namespace Go.Proofs.Qxb6601894a
open Go.RowKit

theorem bfroz {W w1 : World} (hb : Below W.heap.size W w1) : ∀ b o, b < W.heap.size → w1.frozen? ⟨b, o, none⟩ = W.frozen? ⟨b, o, none⟩ :=
  fun b o h => hb.frozen (p := ⟨b, o, none⟩) h

/-- A calendar at block c, its days at block b. -/
structure Cal (w : World) (c b len cap : Nat) (z : Nat → Int) (f t : Int) : Prop where
  hc : c < w.heap.size
  hb : b < w.heap.size
  k0 : w.cell? ⟨c, 0, none⟩ = some (.slice (some ⟨b, 0, none⟩) len cap)
  k1 : w.cell? ⟨c, 1, none⟩ = some (.int .i64 f)
  k2 : w.cell? ⟨c, 2, none⟩ = some (.int .i64 t)
  cells : ∀ j, j < len → w.cell? ⟨b, j, none⟩ = some (.int .i64 (z j))
theorem Cal.below {w w1 : World} {c b len cap : Nat} {z : Nat → Int} {f t : Int} (h : Cal w c b len cap z f t) (hb : Below w.heap.size w w1) : Cal w1 c b len cap z f t :=
  ⟨Nat.lt_of_lt_of_le h.hc hb.size, Nat.lt_of_lt_of_le h.hb hb.size, by rw [bcell hb _ _ h.hc]; exact h.k0, by rw [bcell hb _ _ h.hc]; exact h.k1, by rw [bcell hb _ _ h.hc]; exact h.k2,
    fun j hj => by rw [bcell hb _ _ h.hb]; exact h.cells j hj⟩

set_option maxHeartbeats 400000 in
theorem add_in (c b len cap : Nat) (z : Nat → Int) (f t : Int) (i0 k : Nat) (x n : Int) (w : World) (hC : Cal w c b len cap z f t) (hl : len ≤ 131072) (hi : i0 < len) (hx : z i0 = x) (hA : Asc len z) (hH : ∀ j, j < len → Half (z j))
    (h1 : f ≤ x) (h2 : x ≤ t) (hk : k < len) (hn : (i0 : Int) + n = k) :
    Calls Try.prog 13 #[.pointer (some ⟨c, 0, none⟩), .agg #[.int .i64 x], .int .i64 n] w fun e w' => e = .returned (.tuple #[.agg #[.int .i64 (z k)], .bool true]) ∧ Below w.heap.size w w' := by
  have X : Hid (z i0 = x) := hx
  have A : Hid (Asc len z) := hA
  have H : Hid (∀ j, j < len → Half (z j)) := hH
  have C : Hid (Cal w c b len cap z f t) := hC
  have hc := hC.hc
  have hb := hC.hb
  clear hx hA hH hC
  go_enter Try.func13, Try.ntmps13
  go_wp2_with fail
  have C0 : Cal ((w.alloc (.cells #[.int .i64 x] 29)).alloc (.cells #[.int .i64 0] 29)) c b len cap z f t := C.out.below (by go_grown)
  refine (covers_any c f t x _ ?_ h1 h2 C0.k1 C0.k2).mono ?_
  · exact C0.hc
  rintro e w1 ⟨rfl, hb1⟩
  have C1 := C0.below hb1
  have x1 : w1.cell? ⟨w.heap.size, 0, none⟩ = some (.int .i64 x) := by rw [bcell hb1 _ _ (by simp; omega)]; simp [go_sem]
  have y1 : w1.cell? ⟨w.heap.size + 1, 0, none⟩ = some (.int .i64 0) := by rw [bcell hb1 _ _ (by simp)]; simp [go_sem]
  have f1 : w1.frozen? ⟨w.heap.size + 1, 0, none⟩ = false := by rw [bfroz hb1 _ _ (by simp)]; simp [go_sem]
  have s1 : w.heap.size + 2 ≤ w1.heap.size := by have := hb1.size; simp at this; omega
  have B1 : Hid (Below w.heap.size w w1) := chain (by go_grown) hb1
  clear hb1 C0
  have C1' : Hid (Cal w1 c b len cap z f t) := C1
  clear C1
  go_wp2_with fail
  refine (search_any c b len cap z i0 x _ C1'.out.hc C1'.out.hb hl hi X.out A.out H.out C1'.out.k0 C1'.out.cells).mono ?_
  rintro e w2 ⟨rfl, hb2⟩
  have C2 := C1'.out.below hb2
  have k0 := C2.k0
  have hck := C2.cells k hk
  have y2 : w2.cell? ⟨w.heap.size + 1, 0, none⟩ = some (.int .i64 0) := by rw [bcell hb2 _ _ (by omega)]; exact y1
  have f2 : w2.frozen? ⟨w.heap.size + 1, 0, none⟩ = false := by rw [bfroz hb2 _ _ (by omega)]; exact f1
  have s2 : w.heap.size + 2 ≤ w2.heap.size := by have := hb2.size; omega
  have B2 : Hid (Below w.heap.size w w2) := chain B1.out hb2
  clear hb2 C2 C1' B1 x1 y1 f1 s1 C
  by_cases hn0 : n = 0
  · have hck0 : w2.cell? ⟨b, i0, none⟩ = some (.int .i64 (z k)) := by rw [show i0 = k by omega]; exact hck
    clear hck hn
    subst hn0
    go_wp2
    refine bodyPost_ret (v := .tuple #[.agg #[.int .i64 (z k)], .bool true]) (by simp [results, Try.results13, go_sem, y2]) rfl ⟨rfl, B2.out.setCell (by simp) _⟩
  · by_cases hn1 : 0 < n
    all_goals
      go_wp2
      refine bodyPost_ret (v := .tuple #[.agg #[.int .i64 (z k)], .bool true]) (by simp [results, Try.results13, go_sem, y2]) rfl ⟨rfl, B2.out.setCell (by simp) _⟩

set_option maxHeartbeats 400000 in
theorem add_out (c b len cap : Nat) (z : Nat → Int) (f t : Int) (i0 : Nat) (x n : Int) (w : World) (hC : Cal w c b len cap z f t) (hl : len ≤ 131072) (hi : i0 < len) (hx : z i0 = x) (hA : Asc len z) (hH : ∀ j, j < len → Half (z j))
    (h1 : f ≤ x) (h2 : x ≤ t) (hn1 : -9223372036854775808 ≤ (i0 : Int) + n) (hn2 : (i0 : Int) + n ≤ 9223372036854775807) (hn : (i0 : Int) + n < 0 ∨ (len : Int) ≤ (i0 : Int) + n) :
    Calls Try.prog 13 #[.pointer (some ⟨c, 0, none⟩), .agg #[.int .i64 x], .int .i64 n] w fun e w' => e = .returned (.tuple #[.agg #[.int .i64 0], .bool false]) ∧ Below w.heap.size w w' := by
  have X : Hid (z i0 = x) := hx
  have A : Hid (Asc len z) := hA
  have H : Hid (∀ j, j < len → Half (z j)) := hH
  have C : Hid (Cal w c b len cap z f t) := hC
  have hc := hC.hc
  have hb := hC.hb
  clear hx hA hH hC
  go_enter Try.func13, Try.ntmps13
  go_wp2_with fail
  have C0 : Cal ((w.alloc (.cells #[.int .i64 x] 29)).alloc (.cells #[.int .i64 0] 29)) c b len cap z f t := C.out.below (by go_grown)
  refine (covers_any c f t x _ ?_ h1 h2 C0.k1 C0.k2).mono ?_
  · exact C0.hc
  rintro e w1 ⟨rfl, hb1⟩
  have C1 := C0.below hb1
  have x1 : w1.cell? ⟨w.heap.size, 0, none⟩ = some (.int .i64 x) := by rw [bcell hb1 _ _ (by simp; omega)]; simp [go_sem]
  have y1 : w1.cell? ⟨w.heap.size + 1, 0, none⟩ = some (.int .i64 0) := by rw [bcell hb1 _ _ (by simp)]; simp [go_sem]
  have f1 : w1.frozen? ⟨w.heap.size + 1, 0, none⟩ = false := by rw [bfroz hb1 _ _ (by simp)]; simp [go_sem]
  have s1 : w.heap.size + 2 ≤ w1.heap.size := by have := hb1.size; simp at this; omega
  have B1 : Hid (Below w.heap.size w w1) := chain (by go_grown) hb1
  clear hb1 C0
  have C1' : Hid (Cal w1 c b len cap z f t) := C1
  clear C1
  go_wp2_with fail
  refine (search_any c b len cap z i0 x _ C1'.out.hc C1'.out.hb hl hi X.out A.out H.out C1'.out.k0 C1'.out.cells).mono ?_
  rintro e w2 ⟨rfl, hb2⟩
  have C2 := C1'.out.below hb2
  have k0 := C2.k0
  have y2 : w2.cell? ⟨w.heap.size + 1, 0, none⟩ = some (.int .i64 0) := by rw [bcell hb2 _ _ (by omega)]; exact y1
  have f2 : w2.frozen? ⟨w.heap.size + 1, 0, none⟩ = false := by rw [bfroz hb2 _ _ (by omega)]; exact f1
  have s2 : w.heap.size + 2 ≤ w2.heap.size := by have := hb2.size; omega
  have B2 : Hid (Below w.heap.size w w2) := chain B1.out hb2
  clear hb2 C2 C1' B1 x1 y1 f1 s1 C
  have hn' := hn
  rcases hn with hn | hn
  · have hn0 : n < 0 := by omega
    go_wp2
    refine bodyPost_ret (v := .tuple #[.agg #[.int .i64 0], .bool false]) (by simp [results, Try.results13, go_sem, y2]) rfl ⟨rfl, B2.out.setCell (by simp) _⟩
  · have hn0 : 0 < n := by omega
    have hn3 : 0 ≤ (i0 : Int) + n := by omega
    go_wp2
    refine bodyPost_ret (v := .tuple #[.agg #[.int .i64 0], .bool false]) (by simp [results, Try.results13, go_sem, y2]) rfl ⟨rfl, B2.out.setCell (by simp) _⟩
end Go.Proofs.Qxb6601894a
