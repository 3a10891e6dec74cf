import Derived.Test.Qxb6602245aW1
import Derived.Deep.MidRow
import Derived.Laws.Cover3
namespace Go.Proofs.Qxb6602245a
open Go.RowKit
set_option linter.unusedVariables false
set_option maxRecDepth 100000

/-! ### What 'find' computes, plainly -/
/-- The row at r emptied for chk. -/
def blank (y : Nat → Int) (r : Nat) (chk : Int) : Nat → Int := fun j => if j = r then chk else if r < j ∧ j < r + 16 then 0 else y j
/-- The neighbour that is replaced. -/
def pick (y : Nat → Int) (r0 r1 r2 : Nat) : Nat := if y (r0 + 1) ≤ y (r1 + 1) ∧ y (r0 + 1) ≤ y (r2 + 1) then r0 else if y (r1 + 1) < y (r2 + 1) then r1 else r2
def fRow (y : Nat → Int) (r0 r1 r2 : Nat) (chk : Int) : Nat := if y r0 = chk then r0 else if y r1 = chk then r1 else if y r2 = chk then r2 else pick y r0 r1 r2
def fY (y : Nat → Int) (r0 r1 r2 : Nat) (chk : Int) : Nat → Int := if y r0 = chk then y else if y r1 = chk then y else if y r2 = chk then y else blank y (pick y r0 r1 r2) chk

/-! ### What it does to the world -/
structure FPost (w w' : World) (c b len : Nat) (y' : Nat → Int) (r : Nat) : Prop where
  os : w'.os = w.os
  tape : w'.tape = w.tape
  output : w'.output = w.output
  size : w.heap.size ≤ w'.heap.size
  block : ∀ k, k < w.heap.size → k ≠ b → k ≠ c → w'.heap[k]? = w.heap[k]?
  row : Row w' b len y'
  k0 : w'.cell? ⟨c, 0, none⟩ = w.cell? ⟨c, 0, none⟩
  k1 : w'.cell? ⟨c, 1, none⟩ = w.cell? ⟨c, 1, none⟩
  k2 : w'.cell? ⟨c, 2, none⟩ = some (.int .u32 r)
  k3 : w'.cell? ⟨c, 3, none⟩ = w.cell? ⟨c, 3, none⟩

theorem ne_off {b i j : Nat} (h : i ≠ j) : (⟨b, i, none⟩ : Addr) ≠ ⟨b, j, none⟩ := fun e => h (by injection e)
theorem ne_block {b c i j : Nat} (h : b ≠ c) : (⟨b, i, none⟩ : Addr) ≠ ⟨c, j, none⟩ := fun e => h (by injection e)

theorem Row.other {w : World} {b len : Nat} {y : Nat → Int} (h : Row w b len y) {c : Nat} (hcb : c ≠ b) (o : Nat) (v : Value) : Row (w.setCell ⟨c, o, none⟩ v) b len y :=
  ⟨by simpa using h.lt, fun j hj => by rw [World.cell?_setCell_other (h := ne_block hcb)]; exact h.cell j hj, fun j hj => by simpa using h.froz j hj⟩

theorem FPost.of_set {w : World} {c b len : Nat} {y : Nat → Int} (h : Row w b len y) (hcb : c ≠ b) {u : Value} (k2 : w.cell? ⟨c, 2, none⟩ = some u) (r : Nat) : FPost w (w.setCell ⟨c, 2, none⟩ (.int .u32 r)) c b len y r :=
  ⟨rfl, rfl, rfl, by simp [World.setCell], fun k hk hb hc => Below.heap_setCell _ _ _ _ hc, h.other hcb 2 _, by rw [World.cell?_setCell_other (h := ne_off (by decide))],
    by rw [World.cell?_setCell_other (h := ne_off (by decide))], World.cell?_setCell_same _ _ _ k2, by rw [World.cell?_setCell_other (h := ne_off (by decide))]⟩

theorem heap_setCells (b : Nat) : ∀ (vs : List Value) (o : Nat) (w : World) (k : Nat), k ≠ b → (w.setCells b o vs).heap[k]? = w.heap[k]?
  | [], _, _, _, _ => rfl
  | v :: r, o, w, k, h => by
    rw [World.setCells, heap_setCells b r _ _ k h, Below.heap_setCell _ _ _ _ h]
theorem setCells_fields (b : Nat) : ∀ (vs : List Value) (o : Nat) (w : World), (w.setCells b o vs).os = w.os ∧ (w.setCells b o vs).tape = w.tape ∧ (w.setCells b o vs).output = w.output ∧ (w.setCells b o vs).heap.size = w.heap.size
  | [], _, _ => ⟨rfl, rfl, rfl, rfl⟩
  | v :: r, o, w => by
    obtain ⟨a1, a2, a3, a4⟩ := setCells_fields b r (o + 1) (w.setCell ⟨b, o, none⟩ v)
    rw [World.setCells]
    exact ⟨a1, a2, a3, by rw [a4]; simp [World.setCell]⟩

/-- The sixteen cells of '[16]uint8{chk}'. -/
structure Sixteen (L : List Value) (chk : Int) : Prop where
  len : L.length = 16
  get : ∀ j (h : j < L.length), L[j] = .int .u8 (if j = 0 then chk else 0)

theorem Row.blank {w : World} {b len : Nat} {y : Nat → Int} (h : Row w b len y) {r : Nat} (hr : r + 16 ≤ len) {chk : Int} {L : List Value} (hL : Sixteen L chk) : Row (w.setCells b r L) b len (blank y r chk) := by
  obtain ⟨h16, hg⟩ := hL
  refine ⟨by rw [(setCells_fields b _ r w).2.2.2]; exact h.lt, fun j hj => ?_, fun j hj => by rw [World.frozen?_setCells]; exact h.froz j hj⟩
  unfold Qxb6602245a.blank
  by_cases hin : r ≤ j ∧ j < r + 16
  · have := World.cell?_setCells_in b L r w (fun i hi => by rw [h.cell (r + i) (by omega)]; rfl) (j - r) (by omega)
    rw [show r + (j - r) = j by omega] at this
    rw [this, hg]
    by_cases e : j = r
    · subst e; simp
    · rw [if_neg (by omega), if_neg e, if_pos (by omega)]
  · rw [World.cell?_setCells_out b _ r w _ (fun _ _ => by show j < r ∨ r + L.length ≤ j; omega), h.cell j hj, if_neg (by omega), if_neg (by omega)]

theorem Row.drewN {w : World} {b len : Nat} {y : Nat → Int} (h : Row w b len y) (n : Nat) : Row (w.drewN n) b len y := h.below (below_drewN _ _ _)

theorem FPost.of_blank {w : World} {c b len : Nat} {y : Nat → Int} (h : Row w b len y) (hcb : c ≠ b) {u : Value} (k2 : w.cell? ⟨c, 2, none⟩ = some u) {r : Nat} (hr : r + 16 ≤ len) {chk : Int} {L : List Value} (hL : Sixteen L chk) (n : Nat) :
    FPost w (((w.drewN n).setCells b r L).setCell ⟨c, 2, none⟩ (.int .u32 r)) c b len (Qxb6602245a.blank y r chk) r := by
  have hR := (h.drewN n).blank hr hL
  obtain ⟨a1, a2, a3, a4⟩ := setCells_fields b L r (w.drewN n)
  have hcell : ∀ o, ((w.drewN n).setCells b r L).cell? ⟨c, o, none⟩ = w.cell? ⟨c, o, none⟩ := fun o => by
    rw [World.cell?_setCells_out b _ r _ _ (fun e _ => absurd e hcb)]; rfl
  exact ⟨a1, a2, a3, by show _ ≤ (((w.drewN n).setCells b r L).setCell ⟨c, 2, none⟩ (.int .u32 r)).heap.size; rw [World.size_setCell, a4]; exact Nat.le_refl _, fun k hk hb hc => by rw [Below.heap_setCell _ _ _ _ hc, heap_setCells b _ _ _ _ hb]; rfl, hR.other hcb 2 _,
    by rw [World.cell?_setCell_other (h := ne_off (by decide))]; exact hcell 0, by rw [World.cell?_setCell_other (h := ne_off (by decide))]; exact hcell 1,
    World.cell?_setCell_same _ _ _ ((hcell 2).trans k2), by rw [World.cell?_setCell_other (h := ne_off (by decide))]; exact hcell 3⟩
end Go.Proofs.Qxb6602245a
