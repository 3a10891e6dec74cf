import Derived.Test.Qxb6601894aW5
namespace Go.Proofs.Qxb6601894a
open Go.RowKit

theorem hide {p : Prop} (h : p) : Hid p := h

/-- No day: a calendar without days has no trading day. -/
theorem law_none (a0 : Option Addr) (cap : Nat) (f t d m n : Int) (w : World) :
    Calls Try.prog 4 #[.slice a0 0 cap, .int .i64 f, .int .i64 t, .int .i64 d, .int .i64 m, .int .i64 n] w fun e w' => e = .returned (.bool true) ∧ w' = w := by
  have b1 := bytes_yes a0 0 cap f t d m n w (by omega)
  have hm := half_any m w
  have hn := half_any n w
  generalize decide (-4611686018427387903 ≤ m ∧ m ≤ 4611686018427387903) = bm at hm
  generalize decide (-4611686018427387903 ≤ n ∧ n ≤ 4611686018427387903) = bn at hn
  have HM := hide hm
  have HN := hide hn
  have HB := hide b1
  clear hm hn b1
  cases bm <;> cases bn
  all_goals
    go_enter Try.func4, Try.ntmps4
    go_wp2_with (first
      | (go_at_call 17; refine HB.out.mono ?_; rintro e w' ⟨rfl, rfl⟩)
      | (go_at_call 10; refine (allHalf_nil _ _ _).mono ?_; rintro e w' ⟨rfl, rfl⟩)
      | (go_at_call_of 9 m; refine HM.out.mono ?_; rintro e w' ⟨rfl, rfl⟩)
      | (go_at_call_of 9 n; refine HN.out.mono ?_; rintro e w' ⟨rfl, rfl⟩)
      | (go_at_call 11; refine (asc_nil _ _ _).mono ?_; rintro e w' ⟨rfl, rfl⟩)
      | (go_at_call 18; refine (within_nil _ _ _ _ _).mono ?_; rintro e w' ⟨rfl, rfl⟩)
      | (go_at_call 19; refine (has_nil _ _ _ _).mono ?_; rintro e w' ⟨rfl, rfl⟩))
    go_ret
    exact ⟨rfl, rfl⟩

theorem keepB {w X w1 : World} {g h : Nat} {v : Value} (hS : X.cell? ⟨g, 0, none⟩ = some v ∧ X.cell? ⟨h, 0, none⟩ = some v ∧ Below w.heap.size w X ∧ g < X.heap.size ∧ h < X.heap.size) (hb : Below X.heap.size X w1) :
    w1.cell? ⟨g, 0, none⟩ = some v ∧ w1.cell? ⟨h, 0, none⟩ = some v ∧ Below w.heap.size w w1 ∧ g < w1.heap.size ∧ h < w1.heap.size :=
  ⟨by rw [bcell hb _ _ hS.2.2.2.1]; exact hS.1, by rw [bcell hb _ _ hS.2.2.2.2]; exact hS.2.1, chain hS.2.2.1 hb, Nat.lt_of_lt_of_le hS.2.2.2.1 hb.size, Nat.lt_of_lt_of_le hS.2.2.2.2 hb.size⟩
theorem keepD {w X : World} {g h : Nat} {v : Value} (hS : X.cell? ⟨g, 0, none⟩ = some v ∧ X.cell? ⟨h, 0, none⟩ = some v ∧ Below w.heap.size w X ∧ g < X.heap.size ∧ h < X.heap.size) :
    X.drew.cell? ⟨g, 0, none⟩ = some v ∧ X.drew.cell? ⟨h, 0, none⟩ = some v ∧ Below w.heap.size w X.drew ∧ g < X.drew.heap.size ∧ h < X.drew.heap.size :=
  ⟨hS.1, hS.2.1, hS.2.2.1.drew, hS.2.2.2.1, hS.2.2.2.2⟩

/-- Too many days: the law says nothing. -/
theorem law_many (a0 : Option Addr) (len cap : Nat) (f t d m n : Int) (w : World) (h : 131072 < len) (hx : len ≤ 9223372036854775807) :
    Calls Try.prog 4 #[.slice a0 len cap, .int .i64 f, .int .i64 t, .int .i64 d, .int .i64 m, .int .i64 n] w fun e w' => e = .returned (.bool true) ∧ w' = w := by
  by_cases h2 : 1048576 < len
  · go_enter Try.func4, Try.ntmps4
    go_wp2_with (go_at_call 17; refine (bytes_no _ len cap _ _ _ _ _ _ h2).mono ?_; rintro e w' ⟨rfl, rfl⟩)
    go_ret
    exact ⟨rfl, rfl⟩
  · go_enter Try.func4, Try.ntmps4
    go_wp2_with (go_at_call 17; refine (bytes_yes _ len cap _ _ _ _ _ _ (by omega)).mono ?_; rintro e w' ⟨rfl, rfl⟩)
    go_ret
    exact ⟨rfl, rfl⟩

set_option maxHeartbeats 1000000 in
theorem law_some (b off len cap : Nat) (z : Nat → Int) (f t d m n : Int) (w : World) (hb : b < w.heap.size) (hl : len ≤ 131072) (hc : ∀ j, j < len → w.cell? ⟨b, off + j, none⟩ = some (.int .i64 (z j))) :
    Calls Try.prog 4 #[.slice (some ⟨b, off, none⟩) len cap, .int .i64 f, .int .i64 t, .int .i64 d, .int .i64 m, .int .i64 n] w fun e w' => e = .returned (.bool true) ∧ Below w.heap.size w w' := by
  have C : Hid (∀ j, j < len → w.cell? ⟨b, off + j, none⟩ = some (.int .i64 (z j))) := hc
  clear hc
  go_enter Try.func4, Try.ntmps4
  go_wp2_with fail
  refine (bytes_yes _ len cap _ _ _ _ _ _ (by omega)).mono ?_
  rintro e w' ⟨rfl, hw⟩
  rw [hw]; clear hw w'
  go_wp2_with fail
  refine (allHalf_any b off len cap z w hl C.out).mono ?_
  rintro e w' ⟨⟨r1, rfl, hr1⟩, hw⟩
  rw [hw]; clear hw w'
  cases r1 with
  | false => go_wp2; go_ret; exact ⟨rfl, Below.refl _ _⟩
  | true =>
  have H := hide (hr1 rfl)
  clear hr1
  go_wp2_with fail
  by_cases hm : -4611686018427387903 ≤ m ∧ m ≤ 4611686018427387903
  case neg =>
    have := half_any m w
    rw [decide_eq_false hm] at this
    refine this.mono ?_
    rintro e w' ⟨rfl, hw⟩
    rw [hw]; clear hw w' this
    go_wp2; go_ret; exact ⟨rfl, Below.refl _ _⟩
  have hm1 := half_any m w
  rw [decide_eq_true hm] at hm1
  refine hm1.mono ?_
  rintro e w' ⟨rfl, hw⟩
  rw [hw]; clear hw w' hm1
  go_wp2_with fail
  by_cases hn : -4611686018427387903 ≤ n ∧ n ≤ 4611686018427387903
  case neg =>
    have := half_any n w
    rw [decide_eq_false hn] at this
    refine this.mono ?_
    rintro e w' ⟨rfl, hw⟩
    rw [hw]; clear hw w' this
    go_wp2; go_ret; exact ⟨rfl, Below.refl _ _⟩
  have hn1 := half_any n w
  rw [decide_eq_true hn] at hn1
  refine hn1.mono ?_
  rintro e w' ⟨rfl, hw⟩
  rw [hw]; clear hw w' hn1
  obtain ⟨hm1, hm2⟩ := hm
  obtain ⟨hn1, hn2⟩ := hn
  go_wp2_with fail
  refine (asc_any b off len cap z w hl C.out).mono ?_
  rintro e w' ⟨⟨r1, rfl, hr1⟩, nd, hw⟩
  rw [hw]; clear hw w'
  cases r1 with
  | false => go_wp2; go_ret; exact ⟨rfl, below_drewN _ _ _⟩
  | true =>
  have A := hide (Asc.of (hr1 rfl))
  clear hr1
  have B1 : Hid (Below w.heap.size w (w.drewN nd)) := below_drewN _ _ _
  have C1 : Hid (∀ j, j < len → (w.drewN nd).cell? ⟨b, off + j, none⟩ = some (.int .i64 (z j))) := fun j hj => by rw [bcell B1.out _ _ hb]; exact C.out j hj
  have hb1 : b < (w.drewN nd).heap.size := hb
  clear C
  generalize w.drewN nd = w1 at *
  go_wp2_with fail
  refine (within_any b off len cap z f t w1 hl C1.out).mono ?_
  rintro e w' ⟨⟨r1, rfl, hr1⟩, hw⟩
  rw [hw]; clear hw w'
  cases r1 with
  | false => go_wp2; go_ret; exact ⟨rfl, B1.out⟩
  | true =>
  have I := hide (hr1 rfl)
  clear hr1
  go_wp2_with fail
  refine (has_any b off len cap z d w1 hl C1.out).mono ?_
  rintro e w' ⟨⟨r1, rfl, hr1⟩, hw⟩
  rw [hw]; clear hw w'
  cases r1 with
  | false => go_wp2; go_ret; exact ⟨rfl, B1.out⟩
  | true =>
  obtain ⟨i0, hi, hx⟩ := hr1 rfl
  have X := hide hx
  have hdI := I.out i0 hi
  rw [hx] at hdI
  obtain ⟨hd1, hd2⟩ := hdI
  clear hr1 hx
  go_wp2_with fail
  refine (calendar_any b off len cap z f t w1 hb1 hl C1.out).mono ?_
  rintro e w2 ⟨c, b', rfl, hcal, hbel⟩
  have B2 := hide (chain B1.out hbel)
  have K2 := hide hcal
  clear hbel hcal B1 C1 hb1
  go_wp2_with fail
  refine (day_any d _).mono ?_
  rintro e w3 ⟨rfl, hbel⟩
  have B3 := hide (chain B2.out hbel)
  have K3 := hide (K2.out.below hbel)
  clear hbel B2 K2
  go_wp2_with fail
  by_cases hin : 0 ≤ (i0 : Int) + m ∧ (i0 : Int) + m < len
  case neg =>
    refine (add_out c b' len len z f t i0 d m w3 K3.out hl hi X.out A.out H.out hd1 hd2 (by omega) (by omega) (by omega)).mono ?_
    rintro e w4 ⟨rfl, hbel⟩
    have B4 := hide (chain B3.out hbel)
    clear hbel B3 K3
    go_wp2; go_ret; exact ⟨rfl, chain B4.out (by go_grown)⟩
  obtain ⟨k, hk⟩ : ∃ k : Nat, (i0 : Int) + m = k := ⟨((i0 : Int) + m).toNat, by omega⟩
  have hkl : k < len := by omega
  refine (add_in c b' len len z f t i0 k d m w3 K3.out hl hi X.out A.out H.out hd1 hd2 hkl hk).mono ?_
  rintro e w4 ⟨rfl, hbel⟩
  have B4 := hide (chain B3.out hbel)
  have K4 := hide (K3.out.below hbel)
  have hm3 : -131072 ≤ m := by omega
  have hm4 : m ≤ 131072 := by omega
  have HK := hide hk
  clear hbel B3 K3 hin hk hm1 hm2
  have hek := I.out k hkl
  obtain ⟨hk1, hk2⟩ := hek
  go_wp2_with fail
  have B5 : Hid (Below w.heap.size w (w4.alloc (.cells #[.int .i64 (z k)] 29))) := B4.out.alloc B4.out.size _
  have K5 : Hid (Cal (w4.alloc (.cells #[.int .i64 (z k)] 29)) c b' len len z f t) := K4.out.below (by go_grown)
  clear B4 K4
  generalize w4.alloc (.cells #[.int .i64 (z k)] 29) = w5 at *
  by_cases hin : 0 ≤ (k : Int) + n ∧ (k : Int) + n < len
  · obtain ⟨k2, hkn⟩ : ∃ k2 : Nat, (k : Int) + n = k2 := ⟨((k : Int) + n).toNat, by omega⟩
    have hk2l : k2 < len := by omega
    refine (add_in c b' len len z f t k k2 (z k) n w5 K5.out hl hkl rfl A.out H.out hk1 hk2 hk2l hkn).mono ?_
    rintro e w6 ⟨rfl, hbel⟩
    have B6 := hide (chain B5.out hbel)
    have K6 := hide (K5.out.below hbel)
    have HN := hide hkn
    clear hbel B5 K5 hkn hin
    go_wp2_with fail
    have B7 : Hid (Below w.heap.size w (w6.alloc (.cells #[.int .i64 (z k2)] 29))) := B6.out.alloc B6.out.size _
    have K7 : Hid (Cal (w6.alloc (.cells #[.int .i64 (z k2)] 29)) c b' len len z f t) := K6.out.below (by go_grown)
    have x7 : (w6.alloc (.cells #[.int .i64 (z k2)] 29)).cell? ⟨w6.heap.size, 0, none⟩ = some (.int .i64 (z k2)) := by simp [go_sem]
    have s7 : w6.heap.size < (w6.alloc (.cells #[.int .i64 (z k2)] 29)).heap.size := by simp
    clear B6 K6
    generalize w6.heap.size = g at *
    generalize w6.alloc (.cells #[.int .i64 (z k2)] 29) = w7 at *
    refine (day_any d _).mono ?_
    rintro e w8 ⟨rfl, hbel⟩
    have B8 := hide (chain B7.out hbel)
    have K8 := hide (K7.out.below hbel)
    have x8 : w8.cell? ⟨g, 0, none⟩ = some (.int .i64 (z k2)) := by rw [bcell hbel _ _ s7]; exact x7
    have s8 : g < w8.heap.size := Nat.lt_of_lt_of_le s7 hbel.size
    clear hbel B7 K7 x7 s7
    go_wp2_with fail
    refine (add_in c b' len len z f t i0 k2 d (m + n) w8 K8.out hl hi X.out A.out H.out hd1 hd2 hk2l (by have := HK.out; have := HN.out; omega)).mono ?_
    rintro e w9 ⟨rfl, hbel⟩
    have B9 := hide (chain B8.out hbel)
    have x9 : w9.cell? ⟨g, 0, none⟩ = some (.int .i64 (z k2)) := by rw [bcell hbel _ _ s8]; exact x8
    have s9 : g < w9.heap.size := Nat.lt_of_lt_of_le s8 hbel.size
    clear hbel B8 K8 x8 s8 A H X I HK HN
    go_wp2
    have S0 : (w9.alloc (.cells #[.int .i64 (z k2)] 29)).cell? ⟨g, 0, none⟩ = some (.int .i64 (z k2)) ∧ (w9.alloc (.cells #[.int .i64 (z k2)] 29)).cell? ⟨w9.heap.size, 0, none⟩ = some (.int .i64 (z k2)) ∧ Below w.heap.size w (w9.alloc (.cells #[.int .i64 (z k2)] 29)) ∧ g < (w9.alloc (.cells #[.int .i64 (z k2)] 29)).heap.size ∧ w9.heap.size < (w9.alloc (.cells #[.int .i64 (z k2)] 29)).heap.size :=
      ⟨by rw [World.cell?_alloc_past _ _ _ s9]; exact x9, by simp [go_sem], B9.out.alloc B9.out.size _, by simp; omega, by simp⟩
    clear x9 s9 B9
    generalize w9.heap.size = h at *
    generalize w9.alloc (.cells #[.int .i64 (z k2)] 29) = w10 at *
    go_region_held3 (fun w' => w'.cell? ⟨g, 0, none⟩ = some (.int .i64 (z k2)) ∧ w'.cell? ⟨h, 0, none⟩ = some (.int .i64 (z k2)) ∧ Below w.heap.size w w' ∧ g < w'.heap.size ∧ h < w'.heap.size)
      (first | exact keepD S0 | exact keepB (by assumption) (by assumption))
      (first | (go_at_call 16; refine (num_any (z k2) _).mono ?_; rintro e w' ⟨rfl, hb2⟩))
    go_wp2
    go_ret
    rename_i hH
    exact ⟨rfl, hH.2.2.1⟩
  · refine (add_out c b' len len z f t k (z k) n w5 K5.out hl hkl rfl A.out H.out hk1 hk2 (by omega) (by omega) (by omega)).mono ?_
    rintro e w6 ⟨rfl, hbel⟩
    have B6 := hide (chain B5.out hbel)
    have K6 := hide (K5.out.below hbel)
    clear hbel B5 K5
    go_wp2_with fail
    have B7 : Hid (Below w.heap.size w (w6.alloc (.cells #[.int .i64 0] 29))) := B6.out.alloc B6.out.size _
    have K7 : Hid (Cal (w6.alloc (.cells #[.int .i64 0] 29)) c b' len len z f t) := K6.out.below (by go_grown)
    have x7 : (w6.alloc (.cells #[.int .i64 0] 29)).cell? ⟨w6.heap.size, 0, none⟩ = some (.int .i64 0) := by simp [go_sem]
    have s7 : w6.heap.size < (w6.alloc (.cells #[.int .i64 0] 29)).heap.size := by simp
    clear B6 K6
    generalize w6.heap.size = g at *
    generalize w6.alloc (.cells #[.int .i64 0] 29) = w7 at *
    refine (day_any d _).mono ?_
    rintro e w8 ⟨rfl, hbel⟩
    have B8 := hide (chain B7.out hbel)
    have K8 := hide (K7.out.below hbel)
    have x8 : w8.cell? ⟨g, 0, none⟩ = some (.int .i64 0) := by rw [bcell hbel _ _ s7]; exact x7
    have s8 : g < w8.heap.size := Nat.lt_of_lt_of_le s7 hbel.size
    clear hbel B7 K7 x7 s7
    go_wp2_with fail
    refine (add_out c b' len len z f t i0 d (m + n) w8 K8.out hl hi X.out A.out H.out hd1 hd2 (by have := HK.out; omega) (by have := HK.out; omega) (by have := HK.out; omega)).mono ?_
    rintro e w9 ⟨rfl, hbel⟩
    have B9 := hide (chain B8.out hbel)
    have x9 : w9.cell? ⟨g, 0, none⟩ = some (.int .i64 0) := by rw [bcell hbel _ _ s8]; exact x8
    have s9 : g < w9.heap.size := Nat.lt_of_lt_of_le s8 hbel.size
    clear hbel B8 K8 x8 s8 A H X I HK
    go_wp2
    have S0 : (w9.alloc (.cells #[.int .i64 0] 29)).cell? ⟨g, 0, none⟩ = some (.int .i64 0) ∧ (w9.alloc (.cells #[.int .i64 0] 29)).cell? ⟨w9.heap.size, 0, none⟩ = some (.int .i64 0) ∧ Below w.heap.size w (w9.alloc (.cells #[.int .i64 0] 29)) ∧ g < (w9.alloc (.cells #[.int .i64 0] 29)).heap.size ∧ w9.heap.size < (w9.alloc (.cells #[.int .i64 0] 29)).heap.size :=
      ⟨by rw [World.cell?_alloc_past _ _ _ s9]; exact x9, by simp [go_sem], B9.out.alloc B9.out.size _, by simp; omega, by simp⟩
    clear x9 s9 B9
    generalize w9.heap.size = h at *
    generalize w9.alloc (.cells #[.int .i64 0] 29) = w10 at *
    go_region_held3 (fun w' => w'.cell? ⟨g, 0, none⟩ = some (.int .i64 0) ∧ w'.cell? ⟨h, 0, none⟩ = some (.int .i64 0) ∧ Below w.heap.size w w' ∧ g < w'.heap.size ∧ h < w'.heap.size)
      (first | exact keepD S0 | exact keepB (by assumption) (by assumption))
      (first | (go_at_call 16; refine (num_any 0 _).mono ?_; rintro e w' ⟨rfl, hb2⟩))
    go_wp2
    go_ret
    rename_i hH
    exact ⟨rfl, hH.2.2.1⟩
end Go.Proofs.Qxb6601894a
