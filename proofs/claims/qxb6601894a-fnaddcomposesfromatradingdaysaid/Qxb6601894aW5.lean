import Derived.Test.Qxb6601894aW4
namespace Go.Proofs.Qxb6601894a
open Go.RowKit

/-- A row of 'len' numbers of the call's own at block g = w.heap.size: below it 'wr' is as 'w' was. -/
structure Own (w wr : World) (len : Nat) (y : Nat → Int) : Prop where
  bel : Below w.heap.size w wr
  sz : w.heap.size < wr.heap.size
  cell : ∀ j, j < len → wr.cell? ⟨w.heap.size, j, none⟩ = some (.int .i64 (y j))
  froz : ∀ j, j < len → wr.frozen? ⟨w.heap.size, j, none⟩ = false

theorem Own.below {w wr w1 : World} {len : Nat} {y : Nat → Int} (h : Own w wr len y) (hb : Below wr.heap.size wr w1) : Own w w1 len y :=
  ⟨chain h.bel hb, Nat.lt_of_lt_of_le h.sz hb.size, fun j hj => by rw [bcell hb _ _ h.sz]; exact h.cell j hj, fun j hj => by rw [bfroz hb _ _ h.sz]; exact h.froz j hj⟩

theorem frozen_setCell (w : World) (a : Addr) (v : Value) (p : Addr) : (w.setCell a v).frozen? p = w.frozen? p := by
  simp

theorem Own.set {w wr : World} {len : Nat} {y : Nat → Int} (h : Own w wr len y) (k : Nat) (hk : k < len) (v : Int) : Own w (wr.setCell ⟨w.heap.size, k, none⟩ (.int .i64 v)) len (fun j => if j = k then v else y j) := by
  refine ⟨h.bel.setCell (Nat.le_refl _) _, by simpa using h.sz, fun j hj => ?_, fun j hj => by rw [frozen_setCell]; exact h.froz j hj⟩
  by_cases e : j = k
  · subst e
    rw [World.cell?_setCell_same _ _ _ (h.cell j hj)]
    simp
  · have hne : (⟨w.heap.size, k, none⟩ : Addr) ≠ ⟨w.heap.size, j, none⟩ := fun h => e (by injection h with _ h2 _; exact h2.symm)
    rw [World.cell?_setCell_other (h := hne), h.cell j hj]
    simp [e]

theorem info29 : (Try.prog.info? 29).map (fun i => (i.zero, i.size, i.bytes)) = some (some (.agg #[.int .i64 0]), 1, 8) := by kernel_rfl

theorem make_dates (len : Nat) (hl : len ≤ 131072) (w : World) : ∃ M : Array Value, (Instr.makeSlice 48 (.int .i64 (len : Int)) (.int .i64 (len : Int))).run Try.prog w = .ok (.slice (some ⟨w.heap.size, 0, none⟩) len len) (w.alloc (.cells M 29)) ∧
    Own w (w.alloc (.cells M 29)) len (fun _ => 0) := by
  obtain ⟨i0, hi, hz0, hz1, hz2⟩ := info_parts info29
  refine ⟨madeCells #[.int .i64 0] len, ?_, ?_⟩
  · have := run_make (P := Try.prog) w 48 29 i0 _ Try.underlying48 hi hz0 .i64 .i64 len len (by omega) (by omega) (by rw [hz2]; omega) (by omega)
    rw [this, hz1]
    simp [Value.cells]
  · refine ⟨by go_grown, by simp, fun j hj => ?_, fun j hj => ?_⟩
    · rw [World.cell?_alloc_new]
      simp [madeCells, hj, Nat.mod_one]
    · simp

set_option maxHeartbeats 400000 in
theorem dates_any (b off len cap : Nat) (z : Nat → Int) (w : World) (hb : b < w.heap.size) (hl : len ≤ 131072) (hc : ∀ j, j < len → w.cell? ⟨b, off + j, none⟩ = some (.int .i64 (z j))) :
    Calls Try.prog 31 #[.slice (some ⟨b, off, none⟩) len cap] w fun e w' => e = .returned (.slice (some ⟨w.heap.size, 0, none⟩) len len) ∧ Own w w' len z := by
  have hnil := fun w => Lib.run_eql_slice_nil (P := Try.prog) w 22 3 (some ⟨b, off, none⟩) len cap 0 0 Try.underlying22
  obtain ⟨M, hmk, own⟩ := make_dates len hl w
  have O : Hid (Own w (w.alloc (.cells M 29)) len (fun _ => 0)) := own
  have C : Hid (∀ j, j < len → w.cell? ⟨b, off + j, none⟩ = some (.int .i64 (z j))) := hc
  clear own hc
  go_enter Try.func31, Try.ntmps31
  go_wp2
  go_loopw [4] (fun s wr => ∃ (k : Nat) (y : Nat → Int), k ≤ len ∧ s = .int .i64 k ∧ Own w wr len y ∧ ∀ j, j < k → y j = z j) (fun s _ => len - (intOf s).toNat)
  case atStart => exact ⟨0, fun _ => 0, Nat.zero_le _, rfl, O.out, fun j hj => absurd hj (Nat.not_lt_zero _)⟩
  case round =>
    obtain ⟨k, y, hk, rfl, own, hy⟩ := hrel
    have O2 : Hid (Own w wr len y) := own
    have Y : Hid (∀ j, j < k → y j = z j) := hy
    clear own hy O
    by_cases hlt : k < len
    · have ck : wr.cell? ⟨b, off + k, none⟩ = some (.int .i64 (z k)) := by rw [bcell O2.out.bel _ _ hb]; exact C.out k hlt
      go_wp2_with fail
      refine (day_any (z k) _).mono ?_
      rintro e w1 ⟨rfl, hb1⟩
      have O3 : Hid (Own w w1 len y) := O2.out.below hb1
      have g1 := O3.out.cell k hlt
      have g2 := O3.out.froz k hlt
      clear hb1 ck O2
      go_wp2
      go_roundw
      case rel => exact ⟨k + 1, fun j => if j = k then z k else y j, by omega, by go_num, O3.out.set k hlt _, fun j hj => by
        by_cases e : j = k
        · subst e; simp
        · simp only [e, if_false]; exact Y.out j (by omega)⟩
      case measure => simp [intOf]; omega
    · go_wp2
      go_ret
      exact ⟨rfl, O2.out.bel, O2.out.sz, fun j hj => by rw [O2.out.cell j hj, Y.out j (by omega)], O2.out.froz⟩

theorem newcal_any (b len cap : Nat) (f t : Int) (w : World) :
    Calls Try.prog 30 #[.slice (some ⟨b, 0, none⟩) len cap, .agg #[.int .i64 f, .int .i64 t]] w fun e w' => ∃ c, e = .returned (.pointer (some ⟨c, 0, none⟩)) ∧ w.heap.size ≤ c ∧ c < w'.heap.size ∧
      w'.cell? ⟨c, 0, none⟩ = some (.slice (some ⟨b, 0, none⟩) len cap) ∧ w'.cell? ⟨c, 1, none⟩ = some (.int .i64 f) ∧ w'.cell? ⟨c, 2, none⟩ = some (.int .i64 t) ∧ Below w.heap.size w w' := by
  go_enter Try.func30, Try.ntmps30
  go_wp2
  go_ret
  exact ⟨w.heap.size + 1, rfl, by omega, by simp, by simp [go_sem], by simp [go_sem], by simp [go_sem], by go_grown⟩

/-- A calendar comes back, in new memory. -/
def CalAns (w : World) (len : Nat) (z : Nat → Int) (f t : Int) (e : Ending) (w' : World) : Prop :=
  ∃ c b', e = .returned (.pointer (some ⟨c, 0, none⟩)) ∧ Cal w' c b' len len z f t ∧ Below w.heap.size w w'

theorem calendar_any (b off len cap : Nat) (z : Nat → Int) (f t : Int) (w : World) (hb : b < w.heap.size) (hl : len ≤ 131072) (hc : ∀ j, j < len → w.cell? ⟨b, off + j, none⟩ = some (.int .i64 (z j))) :
    Calls Try.prog 12 #[.slice (some ⟨b, off, none⟩) len cap, .int .i64 f, .int .i64 t] w fun e w' => CalAns w len z f t e w' := by
  have C : Hid (∀ j, j < len → w.cell? ⟨b, off + j, none⟩ = some (.int .i64 (z j))) := hc
  clear hc
  go_enter Try.func12, Try.ntmps12
  go_wp2_with fail
  refine (dates_any b off len cap z w hb hl C.out).mono ?_
  rintro e w1 ⟨rfl, own⟩
  have O1 : Hid (Own w w1 len z) := own
  clear own C
  go_wp2_with fail
  refine (day_any f _).mono ?_
  rintro e w2 ⟨rfl, hb2⟩
  have O2 : Hid (Own w w2 len z) := O1.out.below hb2
  clear hb2 O1
  go_wp2_with fail
  refine (day_any t _).mono ?_
  rintro e w3 ⟨rfl, hb3⟩
  have O3 : Hid (Own w w3 len z) := O2.out.below hb3
  clear hb3 O2
  go_wp2_with fail
  refine (newcal_any w.heap.size len len f t _).mono ?_
  rintro e w4 ⟨c, rfl, q1, q2, k0, k1, k2, hb4⟩
  have O4 : Hid (Own w w4 len z) := O3.out.below hb4
  have K0 : Hid _ := k0
  have K1 : Hid _ := k1
  have K2 : Hid _ := k2
  clear hb4 O3 k0 k1 k2
  go_wp2
  go_ret
  exact ⟨c, w.heap.size, rfl, ⟨q2, O4.out.sz, K0.out, K1.out, K2.out, O4.out.cell⟩, O4.out.bel⟩
end Go.Proofs.Qxb6601894a
