import Derived.Test.Qxb6602316aW1
import Derived.Deep.LoopGhost
namespace Go.Proofs.Qxb6602316a
open Go.RowKit
set_option linter.unusedVariables false

/-! ### What skipSpace computes, plainly: where it stops, and how many line breaks it passes -/
/-- Where a comment ends: the next line break, or the end. -/
def cend (y : Nat → Int) : Nat → Nat → Nat
  | 0, p => p
  | f + 1, p => if y p = 10 then p else cend y f (p + 1)
theorem cend_le (y : Nat → Int) : ∀ f p, p ≤ cend y f p ∧ cend y f p ≤ p + f
  | 0, p => ⟨Nat.le_refl _, Nat.le_refl _⟩
  | f + 1, p => by
    unfold cend
    split
    · omega
    · have := cend_le y f (p + 1); omega
theorem cend_step {y : Nat → Int} {len p : Nat} (hp : p < len) (hy : y p ≠ 10) : cend y (len - p) p = cend y (len - (p + 1)) (p + 1) := by
  rw [show len - p = (len - (p + 1)) + 1 by omega, cend, if_neg hy]
theorem cend_here {y : Nat → Int} {len p : Nat} (h : len ≤ p ∨ y p = 10) : cend y (len - p) p = p := by
  rcases h with h | h
  · rw [show len - p = 0 by omega]; rfl
  · cases hl : len - p with
    | zero => rfl
    | succ f => rw [cend, if_pos h]

def skip (y : Nat → Int) (len : Nat) : Nat → Nat → Nat × Nat
  | 0, p => (p, 0)
  | f + 1, p =>
    if len ≤ p then (p, 0)
    else if y p = 10 then ((skip y len f (p + 1)).1, (skip y len f (p + 1)).2 + 1)
    else if y p = 32 ∨ y p = 9 ∨ y p = 13 then skip y len f (p + 1)
    else if y p = 35 then skip y len f (cend y (len - p) p)
    else (p, 0)

/-- From p, with f rounds at most to come and k line breaks passed, the run comes to stop at S with N line breaks. -/
structure To (y : Nat → Int) (len S N f p k : Nat) : Prop where
  fuel : len - p ≤ f
  stop : (skip y len f p).1 = S
  count : k + (skip y len f p).2 = N

theorem To.start (y : Nat → Int) (len p : Nat) : To y len (skip y len (len - p) p).1 (skip y len (len - p) p).2 (len - p) p 0 := ⟨Nat.le_refl _, rfl, Nat.zero_add _⟩
variable {y : Nat → Int} {len S N f p k : Nat}
theorem To.done (h : To y len S N f p k) (hp : len ≤ p) : S = p ∧ N = k := by
  obtain ⟨h1, h2, h3⟩ := h
  cases f with
  | zero => exact ⟨h2.symm, h3.symm⟩
  | succ f =>
    rw [skip, if_pos hp] at h2 h3
    exact ⟨h2.symm, h3.symm⟩
theorem To.pos (h : To y len S N f p k) (hp : p < len) : ∃ f', f = f' + 1 := by
  cases f with
  | zero => have := h.fuel; omega
  | succ f => exact ⟨f, rfl⟩
theorem To.line (h : To y len S N (f + 1) p k) (hp : p < len) (hy : y p = 10) : To y len S N f (p + 1) (k + 1) := by
  obtain ⟨h1, h2, h3⟩ := h
  rw [skip, if_neg (by omega), if_pos hy] at h2 h3
  exact ⟨by omega, h2, by omega⟩
theorem To.blank (h : To y len S N (f + 1) p k) (hp : p < len) (hy : y p = 32 ∨ y p = 9 ∨ y p = 13) : To y len S N f (p + 1) k := by
  obtain ⟨h1, h2, h3⟩ := h
  rw [skip, if_neg (by omega), if_neg (by omega), if_pos hy] at h2 h3
  exact ⟨by omega, h2, h3⟩
theorem To.hash (h : To y len S N (f + 1) p k) (hp : p < len) (hy : y p = 35) : To y len S N f (cend y (len - p) p) k := by
  obtain ⟨h1, h2, h3⟩ := h
  rw [skip, if_neg (by omega), if_neg (by omega), if_neg (by omega), if_pos hy] at h2 h3
  have := cend_step (y := y) hp (by omega)
  have := cend_le y (len - (p + 1)) (p + 1)
  exact ⟨by omega, h2, h3⟩
theorem To.other (h : To y len S N f p k) (hp : p < len) (n1 : y p ≠ 10) (n2 : y p ≠ 32) (n3 : y p ≠ 9) (n4 : y p ≠ 13) (n5 : y p ≠ 35) : S = p ∧ N = k := by
  obtain ⟨f', rfl⟩ := h.pos hp
  obtain ⟨h1, h2, h3⟩ := h
  rw [skip, if_neg (by omega), if_neg n1, if_neg (by omega), if_neg n5] at h2 h3
  exact ⟨h2.symm, h3.symm⟩

/-! ### The scanner in memory -/
structure Scan (w wr : World) (c b len cap : Nat) (y : Nat → Int) (p : Nat) (x : Int) : Prop where
  k0 : wr.cell? ⟨c, 0, none⟩ = some (.slice (some ⟨b, 0, none⟩) len cap)
  k1 : wr.cell? ⟨c, 1, none⟩ = some (.int .i64 p)
  k2 : wr.cell? ⟨c, 2, none⟩ = some (.int .i64 x)
  f1 : wr.frozen? ⟨c, 1, none⟩ = false
  f2 : wr.frozen? ⟨c, 2, none⟩ = false
  ne : c ≠ b
  row : Row wr b len y
  g : w.grownBy wr (some c)

theorem ne_off {b i j : Nat} (h : i ≠ j) : (⟨b, i, none⟩ : Addr) ≠ ⟨b, j, none⟩ := fun e => h (by injection e)
theorem ne_block {b c i j : Nat} (h : b ≠ c) : (⟨b, i, none⟩ : Addr) ≠ ⟨c, j, none⟩ := fun e => h (by injection e)
theorem Row.other {w : World} {b len : Nat} {y : Nat → Int} (h : Row w b len y) {c : Nat} (hcb : c ≠ b) (o : Nat) (v : Value) : Row (w.setCell ⟨c, o, none⟩ v) b len y :=
  ⟨by simpa using h.lt, fun j hj => by rw [World.cell?_setCell_other (h := ne_block hcb)]; exact h.cell j hj, fun j hj => by simpa using h.froz j hj⟩

theorem grown_set {w wr : World} {c o : Nat} (h : w.grownBy wr (some c)) (v : Value) : w.grownBy (wr.setCell ⟨c, o, none⟩ v) (some c) :=
  ⟨h.os, h.tape, h.output, by rw [World.size_setCell]; exact h.size, fun k hk hkc => by rw [Below.heap_setCell _ _ _ _ (by intro e; exact hkc (by simp [e])), h.block k hk hkc]⟩

variable {w wr : World} {c b cap : Nat} {x : Int}
theorem Scan.drewN (h : Scan w wr c b len cap y p x) (n : Nat) : Scan w (wr.drewN n) c b len cap y p x :=
  ⟨h.k0, h.k1, h.k2, h.f1, h.f2, h.ne, h.row.below (below_drewN _ _ _), ⟨h.g.os, h.g.tape, h.g.output, h.g.size, h.g.block⟩⟩
theorem Scan.move (h : Scan w wr c b len cap y p x) (q : Nat) : Scan w (wr.setCell ⟨c, 1, none⟩ (.int .i64 q)) c b len cap y q x :=
  ⟨by rw [World.cell?_setCell_other (h := ne_off (by decide))]; exact h.k0, World.cell?_setCell_same _ _ _ h.k1, by rw [World.cell?_setCell_other (h := ne_off (by decide))]; exact h.k2,
    by simpa using h.f1, by simpa using h.f2, h.ne, h.row.other h.ne _ _, grown_set h.g _⟩
theorem Scan.count (h : Scan w wr c b len cap y p x) (v : Int) : Scan w (wr.setCell ⟨c, 2, none⟩ (.int .i64 v)) c b len cap y p v :=
  ⟨by rw [World.cell?_setCell_other (h := ne_off (by decide))]; exact h.k0, by rw [World.cell?_setCell_other (h := ne_off (by decide))]; exact h.k1, World.cell?_setCell_same _ _ _ h.k2,
    by simpa using h.f1, by simpa using h.f2, h.ne, h.row.other h.ne _ _, grown_set h.g _⟩

theorem wrap_succ (l k : Int) : wrap64 (wrap64 (l + k) + 1) = wrap64 (l + (k + 1)) := by
  unfold wrap64; omega
theorem wrap_shift (l n : Int) : wrap64 (l + wrap64 (0 + n)) = wrap64 (l + n) := by
  unfold wrap64; omega
end Go.Proofs.Qxb6602316a
