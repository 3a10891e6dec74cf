import Derived.Test.Qxb6602316aRows
import Derived.WalkKit
import Derived.WalkSpells
import Derived.ProofKit
import Derived.OpenShut
import Derived.Below
import Derived.Handy
import Derived.Outline
import Derived.Deep.RegionWith
import Derived.Deep.QuietTactic
import Derived.BigQuiet
import Derived.Deep.RegionHeld3
namespace Go.Proofs.Qxb6602316a
open Go.RowKit
set_option linter.unusedVariables false

theorem hide {p : Prop} (h : p) : Hid p := h
theorem chain {w X w1 : World} (h : Below w.heap.size w X) (hb : Below X.heap.size X w1) : Below w.heap.size w w1 := h.trans (hb.mono h.size)
theorem bcell {W w1 : World} (hb : Below W.heap.size W w1) : ∀ b o, b < W.heap.size → w1.cell? ⟨b, o, none⟩ = W.cell? ⟨b, o, none⟩ :=
  fun b o h => hb.cell (p := ⟨b, o, none⟩) h
theorem bfroz {W w1 : World} (hb : Below W.heap.size W w1) : ∀ b o, b < W.heap.size → w1.frozen? ⟨b, o, none⟩ = W.frozen? ⟨b, o, none⟩ :=
  fun b o h => hb.frozen (p := ⟨b, o, none⟩) h
theorem below_drewN (B : Nat) (w : World) (n : Nat) : Below B w (w.drewN n) := ⟨rfl, rfl, rfl, Nat.le_refl _, fun _ _ => rfl⟩

/-- Block b holds the bytes 'y 0', .., 'y (len - 1)', none of them frozen. -/
structure Row (w : World) (b len : Nat) (y : Nat → Int) : Prop where
  lt : b < w.heap.size
  cell : ∀ j, j < len → w.cell? ⟨b, j, none⟩ = some (.int .u8 (y j))
  froz : ∀ j, j < len → w.frozen? ⟨b, j, none⟩ = false

theorem Row.below {w w1 : World} {b len : Nat} {y : Nat → Int} (h : Row w b len y) (hb : Below w.heap.size w w1) : Row w1 b len y :=
  ⟨Nat.lt_of_lt_of_le h.lt hb.size, fun j hj => by rw [bcell hb _ _ h.lt]; exact h.cell j hj, fun j hj => by rw [bfroz hb _ _ h.lt]; exact h.froz j hj⟩
theorem Row.kept {w w1 : World} {b len : Nat} {y : Nat → Int} {r : Nat} (h : Row w b len y) (hg : w.grownBy w1 (some r)) (hr : b ≠ r) : Row w1 b len y := by
  have hk : w1.heap[b]? = w.heap[b]? := hg.block b h.lt (by simpa using hr)
  exact ⟨Nat.lt_of_lt_of_le h.lt hg.size, fun j hj => by rw [World.cell?_of_block (w := w) (a := ⟨b, j, none⟩) hk]; exact h.cell j hj, fun j hj => by rw [World.frozen?_of_block (w := w) (a := ⟨b, j, none⟩) hk]; exact h.froz j hj⟩
theorem Row.congr {w : World} {b len : Nat} {y y' : Nat → Int} (h : Row w b len y) (e : ∀ j, j < len → y j = y' j) : Row w b len y' :=
  ⟨h.lt, fun j hj => by rw [h.cell j hj, e j hj], h.froz⟩

/-- One byte turned. -/
def upd (y : Nat → Int) (k : Nat) (v : Int) : Nat → Int := fun j => if j = k then v else y j
theorem Row.set {w : World} {b len : Nat} {y : Nat → Int} (h : Row w b len y) (k : Nat) (hk : k < len) (v : Int) : Row (w.setCell ⟨b, k, none⟩ (.int .u8 v)) b len (upd y k v) := by
  refine ⟨by simpa using h.lt, fun j hj => ?_, fun j hj => by simpa using h.froz j hj⟩
  unfold upd
  by_cases e : j = k
  · subst e
    rw [World.cell?_setCell_same _ _ _ (h.cell j hj)]
    simp
  · have hne : (⟨b, k, none⟩ : Addr) ≠ ⟨b, j, none⟩ := fun h => e (by injection h with _ h2 _; exact h2.symm)
    rw [World.cell?_setCell_other (h := hne), h.cell j hj]
    simp [e]

/-- A new row of the call's own: block w.heap.size. -/
structure Own (w wr : World) (len : Nat) (y : Nat → Int) : Prop where
  bel : Below w.heap.size w wr
  row : Row wr w.heap.size len y
theorem Own.below {w wr w1 : World} {len : Nat} {y : Nat → Int} (h : Own w wr len y) (hb : Below wr.heap.size wr w1) : Own w w1 len y :=
  ⟨chain h.bel hb, h.row.below hb⟩
theorem Own.set {w wr : World} {len : Nat} {y : Nat → Int} (h : Own w wr len y) (k : Nat) (hk : k < len) (v : Int) : Own w (wr.setCell ⟨w.heap.size, k, none⟩ (.int .u8 v)) len (upd y k v) :=
  ⟨h.bel.setCell (Nat.le_refl _) _, h.row.set k hk v⟩

theorem info5 : (Try.prog.info? 5).map (fun i => (i.zero, i.size, i.bytes)) = some (some (.int .u8 0), 1, 1) := by kernel_rfl

theorem make_bytes (len : Nat) (hl : len ≤ 1048576) (w : World) : ∃ M : Array Value, (Instr.makeSlice 22 (.int .i64 (len : Int)) (.int .i64 (len : Int))).run Try.prog w = .ok (.slice (some ⟨w.heap.size, 0, none⟩) len len) (w.alloc (.cells M 5)) ∧
    Own w (w.alloc (.cells M 5)) len (fun _ => 0) := by
  obtain ⟨i0, hi, hz0, hz1, hz2⟩ := info_parts info5
  refine ⟨madeCells #[.int .u8 0] len, ?_, ?_⟩
  · have := run_make (P := Try.prog) w 22 5 i0 _ Try.underlying22 hi hz0 .i64 .i64 len len (by omega) (by omega) (by rw [hz2]; omega) (by omega)
    rw [this, hz1]
    simp [Value.cells]
  · refine ⟨by go_grown, by simp, fun j hj => ?_, fun j hj => ?_⟩
    · rw [World.cell?_alloc_new]
      simp [madeCells, hj, Nat.mod_one]
    · simp

set_option maxHeartbeats 400000 in
theorem clone_any (b off len cap : Nat) (z : Nat → Int) (w : World) (hb : b < w.heap.size) (hl : len ≤ 1048576) (hc : ∀ j, j < len → w.cell? ⟨b, off + j, none⟩ = some (.int .u8 (z j))) :
    Calls Try.prog 7 #[.slice (some ⟨b, off, none⟩) len cap] w fun e w' => e = .returned (.slice (some ⟨w.heap.size, 0, none⟩) len len) ∧ Own w w' len z := by
  have hnil := fun w => Lib.run_eql_slice_nil (P := Try.prog) w 22 5 (some ⟨b, off, none⟩) len cap 0 0 Try.underlying22
  obtain ⟨M, hmk, own⟩ := make_bytes len hl w
  have O := hide own
  have C := hide hc
  clear own hc
  go_enter Try.func7, Try.ntmps7
  go_wp2
  go_loopw [4] (fun s wr => ∃ (k : Nat) (y : Nat → Int), k ≤ len ∧ s = .int .i64 k ∧ Own w wr len y ∧ ∀ j, j < k → y j = z j) (fun s _ => len - (intOf s).toNat)
  case atStart => exact ⟨0, fun _ => 0, Nat.zero_le _, rfl, O.out, fun j hj => absurd hj (Nat.not_lt_zero _)⟩
  case round =>
    obtain ⟨k, y, hk, rfl, own, hy⟩ := hrel
    have O2 := hide own
    have Y := hide hy
    clear own hy O
    by_cases hlt : k < len
    · have ck : wr.cell? ⟨b, off + k, none⟩ = some (.int .u8 (z k)) := by rw [bcell O2.out.bel _ _ hb]; exact C.out k hlt
      have g1 := O2.out.row.cell k hlt
      have g2 := O2.out.row.froz k hlt
      go_wp2
      go_roundw
      case rel => exact ⟨k + 1, upd y k (z k), by omega, by go_num, O2.out.set k hlt _, fun j hj => by
        unfold upd
        by_cases e : j = k
        · subst e; simp
        · simp only [e, if_false]; exact Y.out j (by omega)⟩
      case measure => simp [intOf]; omega
    · go_wp2
      go_ret
      exact ⟨rfl, O2.out.bel, O2.out.row.congr fun j hj => Y.out j (by omega)⟩

/-- A nil slice stays nil. -/
theorem clone_nil (w : World) : Calls Try.prog 7 #[.slice none 0 0] w fun e w' => e = .returned (.slice none 0 0) ∧ w' = w := by
  have hnil := fun w => Lib.run_eql_slice_nil (P := Try.prog) w 22 5 none 0 0 0 0 Try.underlying22
  go_enter Try.func7, Try.ntmps7
  go_wp2
  go_ret
  exact ⟨rfl, rfl⟩
/-- An empty slice stays empty. -/
theorem clone_zero (x : Addr) (cap : Nat) (w : World) : Calls Try.prog 7 #[.slice (some x) 0 cap] w fun e w' => e = .returned (.slice (some ⟨w.heap.size, 0, none⟩) 0 0) ∧ Below w.heap.size w w' := by
  have hnil := fun w => Lib.run_eql_slice_nil (P := Try.prog) w 22 5 (some x) 0 cap 0 0 Try.underlying22
  obtain ⟨M, hmk, own⟩ := make_bytes 0 (by decide) w
  have hmk2 : (Instr.makeSlice 22 (.int .i64 0) (.int .i64 0)).run Try.prog w = _ := hmk
  have O := hide own
  clear own hmk
  go_enter Try.func7, Try.ntmps7
  go_wp2
  go_rounds 1
  go_ret
  exact ⟨rfl, O.out.bel⟩

theorem bytes_yes (a0 : Option Addr) (len cap : Nat) (a1 a2 : Int) (w : World) (h : len ≤ 1048576) :
    Calls Try.prog 12 #[.slice a0 len cap, .int .i64 a1, .int .i64 a2] w fun e w' => e = .returned (.bool true) ∧ w' = w := by
  go_enter Try.func12, Try.ntmps12
  go_wp2
  go_ret
  exact ⟨rfl, rfl⟩
theorem bytes_no (a0 : Option Addr) (len cap : Nat) (a1 a2 : Int) (w : World) (h : 1048576 < len) :
    Calls Try.prog 12 #[.slice a0 len cap, .int .i64 a1, .int .i64 a2] w fun e w' => e = .returned (.bool false) ∧ w' = w := by
  go_enter Try.func12, Try.ntmps12
  go_wp2
  go_ret
  exact ⟨rfl, rfl⟩
end Go.Proofs.Qxb6602316a
