import Derived.Test.Qxb6616692aA3
namespace Go.Proofs.Qxb6616692a
open Go.RowKit

/-- The inputs of which the law speaks. -/
def Ok6 (least slow sif lat inf : Int) : Prop :=
  0 ≤ least ∧ 0 ≤ lat ∧ 1 ≤ inf ∧ inf ≤ 4294967296 ∧ ((slow = 0 ∧ sif = 0) ∨ (slow ≠ 0 ∧ least ≠ 0 ∧ least < slow ∧ 1 ≤ sif ∧ sif ≤ 4294967296))

set_option maxRecDepth 100000 in
set_option maxHeartbeats 4000000 in
theorem law6_out (o : Nat) (least : Int) (lim : Nat) (slow sif lat inf : Int) (w : World) (h : ¬ Ok6 least slow sif lat inf) :
    Calls Try.prog 6 #[.float .f64 o, .int .i64 least, .float .f64 lim, .int .i64 slow, .int .i64 sif, .int .i64 lat, .int .i64 inf] w fun e w' => e = .returned (.bool true) ∧ Below w.heap.size w w' := by
  have HN : Hid (¬ Ok6 least slow sif lat inf) := h
  clear h
  by_cases h1 : least < 0
  · go_enter Try.func6, Try.ntmps6
    go_wp2_with fail
    go_ret
    exact ⟨rfl, Below.refl _ _⟩
  by_cases h2 : lat < 0
  · go_enter Try.func6, Try.ntmps6
    go_wp2_with fail
    go_ret
    exact ⟨rfl, Below.refl _ _⟩
  by_cases h3 : inf < 1
  · go_enter Try.func6, Try.ntmps6
    go_wp2_with fail
    go_ret
    exact ⟨rfl, Below.refl _ _⟩
  by_cases h4 : 4294967296 < inf
  · go_enter Try.func6, Try.ntmps6
    go_wp2_with fail
    go_ret
    exact ⟨rfl, Below.refl _ _⟩
  by_cases h5 : slow = 0
  · have b5 : (slow == 0) = true := beq_iff_eq.2 h5
    have b6 : (sif != 0) = true := by
      rw [bne_iff_ne]
      intro h6
      exact HN.out ⟨by omega, by omega, by omega, by omega, .inl ⟨h5, h6⟩⟩
    clear h5
    go_enter Try.func6, Try.ntmps6
    go_wp2_with fail
    go_ret
    exact ⟨rfl, Below.refl _ _⟩
  have b5 : (slow == 0) = false := beq_eq_false_iff_ne.2 h5
  by_cases h6 : least = 0
  · have b6 : (least == 0) = true := beq_iff_eq.2 h6
    clear h6
    go_enter Try.func6, Try.ntmps6
    go_wp2_with fail
    go_ret
    exact ⟨rfl, Below.refl _ _⟩
  have b6 : (least == 0) = false := beq_eq_false_iff_ne.2 h6
  by_cases h7 : slow ≤ least
  · go_enter Try.func6, Try.ntmps6
    go_wp2_with fail
    go_ret
    exact ⟨rfl, Below.refl _ _⟩
  by_cases h8 : sif < 1
  · go_enter Try.func6, Try.ntmps6
    go_wp2_with fail
    go_ret
    exact ⟨rfl, Below.refl _ _⟩
  by_cases h9 : 4294967296 < sif
  · go_enter Try.func6, Try.ntmps6
    go_wp2_with fail
    go_ret
    exact ⟨rfl, Below.refl _ _⟩
  exact absurd (⟨by omega, by omega, by omega, by omega, .inr ⟨h5, h6, by omega, by omega, by omega⟩⟩ : Ok6 least slow sif lat inf) HN.out

theorem state_any2 (R E o : Nat) (least : Int) (lim : Nat) (slow sif : Int) (w : World) (h : LL w R E o least lim slow sif) :
    Calls Try.prog 19 #[.pointer (some ⟨E, 0, none⟩)] w fun e w' => e = .returned (.tuple #[.int .i64 least, .float .f64 lim, .int .i64 slow, .int .i64 sif]) ∧ Hid (LL w' R E o least lim slow sif ∧ Below E w w') := by
  refine (state_any R E o least lim slow sif w h).mono ?_
  rintro e w' ⟨he, n, rfl⟩
  exact ⟨he, h.drewN n, ⟨rfl, rfl, rfl, Nat.le_refl _, fun _ _ => rfl⟩⟩

/-- What the two observations give. -/
def OB (o : Nat) (least : Int) (lim : Nat) (slow sif lat inf a s f : Int) : Prop :=
  (∀ R E w, LL w R E o least lim slow sif → Calls Try.prog 18 #[.pointer (some ⟨E, 0, none⟩), .int .i64 lat, .int .i64 inf] w (LP E w R o a o s f)) ∧
  (∀ R E w, LL w R E o a o s f → Calls Try.prog 18 #[.pointer (some ⟨E, 0, none⟩), .int .i64 lat, .int .i64 inf] w (LP E w R o a o s f))

set_option maxRecDepth 100000 in
set_option maxHeartbeats 4000000 in
theorem law6_1z_true_true (o : Nat) (least : Int) (lim : Nat) (slow sif lat inf : Int) (w : World) (h0 : 0 ≤ least) (h1 : 0 ≤ lat) (h2 : 1 ≤ inf) (h3 : inf ≤ 4294967296) (b1 : (slow == 0) = true) (b2 : (sif != 0) = false) (c0 : (least == 0) = true) (c1 : (lat != least) = false) (HO : Hid (OB o least lim slow sif lat inf lat 0 0)) :
    Calls Try.prog 6 #[.float .f64 o, .int .i64 least, .float .f64 lim, .int .i64 slow, .int .i64 sif, .int .i64 lat, .int .i64 inf] w fun e w' => e = .returned (.bool true) ∧ Below w.heap.size w w' := by
  go_enter Try.func6, Try.ntmps6
  go_wp2_with fail
  refine (new_any o least lim slow sif w).mono ?_
  rintro e w1 ⟨R, E, rfl, HN⟩
  go_wp2_with fail
  refine (HO.out.1 R E w1 HN.out.1).mono ?_
  rintro e w2 ⟨rfl, HL2, HK2, HB2⟩
  go_wp2_with fail
  refine (state_any2 R E o lat o 0 0 w2 HL2.out).mono ?_
  rintro e w3 ⟨rfl, HL3⟩
  go_wp2_with fail
  refine (HO.out.2 R E w3 HL3.out.1).mono ?_
  rintro e w4 ⟨rfl, HL4, HK4, HB4⟩
  go_wp2_with fail
  refine (state_any2 R E o lat o 0 0 w4 HL4.out).mono ?_
  rintro e w5 ⟨rfl, HL5⟩
  have HB : Hid (Below w.heap.size w w5) := HN.out.2.2.2.trans ((HB2.out.trans (HL3.out.2.trans (HB4.out.trans HL5.out.2))).mono HN.out.2.2.1)
  clear HN HL2 HK2 HB2 HL3 HL4 HK4 HB4 HL5 HO
  go_wp2_with fail
  refine (same_any o _).mono ?_
  rintro e w6 ⟨rfl, rfl⟩
  go_wp2_with fail
  refine (same_any o _).mono ?_
  rintro e w6 ⟨rfl, rfl⟩
  go_wp2_with fail
  go_ret
  exact ⟨rfl, HB.out⟩

set_option maxRecDepth 100000 in
set_option maxHeartbeats 4000000 in
theorem law6_1z_true_false (o : Nat) (least : Int) (lim : Nat) (slow sif lat inf : Int) (w : World) (h0 : 0 ≤ least) (h1 : 0 ≤ lat) (h2 : 1 ≤ inf) (h3 : inf ≤ 4294967296) (b1 : (slow == 0) = true) (b2 : (sif != 0) = false) (c0 : (least == 0) = true) (c1 : (lat != least) = true) (HO : Hid (OB o least lim slow sif lat inf lat 0 0)) :
    Calls Try.prog 6 #[.float .f64 o, .int .i64 least, .float .f64 lim, .int .i64 slow, .int .i64 sif, .int .i64 lat, .int .i64 inf] w fun e w' => e = .returned (.bool true) ∧ Below w.heap.size w w' := by
  go_enter Try.func6, Try.ntmps6
  go_wp2_with fail
  refine (new_any o least lim slow sif w).mono ?_
  rintro e w1 ⟨R, E, rfl, HN⟩
  go_wp2_with fail
  refine (HO.out.1 R E w1 HN.out.1).mono ?_
  rintro e w2 ⟨rfl, HL2, HK2, HB2⟩
  go_wp2_with fail
  refine (state_any2 R E o lat o 0 0 w2 HL2.out).mono ?_
  rintro e w3 ⟨rfl, HL3⟩
  go_wp2_with fail
  refine (HO.out.2 R E w3 HL3.out.1).mono ?_
  rintro e w4 ⟨rfl, HL4, HK4, HB4⟩
  go_wp2_with fail
  refine (state_any2 R E o lat o 0 0 w4 HL4.out).mono ?_
  rintro e w5 ⟨rfl, HL5⟩
  have HB : Hid (Below w.heap.size w w5) := HN.out.2.2.2.trans ((HB2.out.trans (HL3.out.2.trans (HB4.out.trans HL5.out.2))).mono HN.out.2.2.1)
  clear HN HL2 HK2 HB2 HL3 HL4 HK4 HB4 HL5 HO
  go_wp2_with fail
  refine (same_any o _).mono ?_
  rintro e w6 ⟨rfl, rfl⟩
  go_wp2_with fail
  refine (same_any o _).mono ?_
  rintro e w6 ⟨rfl, rfl⟩
  go_wp2_with fail
  go_ret
  exact ⟨rfl, HB.out⟩

set_option maxRecDepth 100000 in
set_option maxHeartbeats 4000000 in
theorem law6_1z_false_true (o : Nat) (least : Int) (lim : Nat) (slow sif lat inf : Int) (w : World) (h0 : 0 ≤ least) (h1 : 0 ≤ lat) (h2 : 1 ≤ inf) (h3 : inf ≤ 4294967296) (b1 : (slow == 0) = true) (b2 : (sif != 0) = false) (c0 : (least == 0) = false) (c4 : lat ≤ least) (c1 : (lat != least) = false) (HO : Hid (OB o least lim slow sif lat inf lat 0 0)) :
    Calls Try.prog 6 #[.float .f64 o, .int .i64 least, .float .f64 lim, .int .i64 slow, .int .i64 sif, .int .i64 lat, .int .i64 inf] w fun e w' => e = .returned (.bool true) ∧ Below w.heap.size w w' := by
  go_enter Try.func6, Try.ntmps6
  go_wp2_with fail
  refine (new_any o least lim slow sif w).mono ?_
  rintro e w1 ⟨R, E, rfl, HN⟩
  go_wp2_with fail
  refine (HO.out.1 R E w1 HN.out.1).mono ?_
  rintro e w2 ⟨rfl, HL2, HK2, HB2⟩
  go_wp2_with fail
  refine (state_any2 R E o lat o 0 0 w2 HL2.out).mono ?_
  rintro e w3 ⟨rfl, HL3⟩
  go_wp2_with fail
  refine (HO.out.2 R E w3 HL3.out.1).mono ?_
  rintro e w4 ⟨rfl, HL4, HK4, HB4⟩
  go_wp2_with fail
  refine (state_any2 R E o lat o 0 0 w4 HL4.out).mono ?_
  rintro e w5 ⟨rfl, HL5⟩
  have HB : Hid (Below w.heap.size w w5) := HN.out.2.2.2.trans ((HB2.out.trans (HL3.out.2.trans (HB4.out.trans HL5.out.2))).mono HN.out.2.2.1)
  clear HN HL2 HK2 HB2 HL3 HL4 HK4 HB4 HL5 HO
  go_wp2_with fail
  refine (same_any o _).mono ?_
  rintro e w6 ⟨rfl, rfl⟩
  go_wp2_with fail
  refine (same_any o _).mono ?_
  rintro e w6 ⟨rfl, rfl⟩
  go_wp2_with fail
  go_ret
  exact ⟨rfl, HB.out⟩

set_option maxRecDepth 100000 in
set_option maxHeartbeats 4000000 in
theorem law6_1z_false_false (o : Nat) (least : Int) (lim : Nat) (slow sif lat inf : Int) (w : World) (h0 : 0 ≤ least) (h1 : 0 ≤ lat) (h2 : 1 ≤ inf) (h3 : inf ≤ 4294967296) (b1 : (slow == 0) = true) (b2 : (sif != 0) = false) (c0 : (least == 0) = false) (c4 : lat ≤ least) (c1 : (lat != least) = true) (HO : Hid (OB o least lim slow sif lat inf lat 0 0)) :
    Calls Try.prog 6 #[.float .f64 o, .int .i64 least, .float .f64 lim, .int .i64 slow, .int .i64 sif, .int .i64 lat, .int .i64 inf] w fun e w' => e = .returned (.bool true) ∧ Below w.heap.size w w' := by
  go_enter Try.func6, Try.ntmps6
  go_wp2_with fail
  refine (new_any o least lim slow sif w).mono ?_
  rintro e w1 ⟨R, E, rfl, HN⟩
  go_wp2_with fail
  refine (HO.out.1 R E w1 HN.out.1).mono ?_
  rintro e w2 ⟨rfl, HL2, HK2, HB2⟩
  go_wp2_with fail
  refine (state_any2 R E o lat o 0 0 w2 HL2.out).mono ?_
  rintro e w3 ⟨rfl, HL3⟩
  go_wp2_with fail
  refine (HO.out.2 R E w3 HL3.out.1).mono ?_
  rintro e w4 ⟨rfl, HL4, HK4, HB4⟩
  go_wp2_with fail
  refine (state_any2 R E o lat o 0 0 w4 HL4.out).mono ?_
  rintro e w5 ⟨rfl, HL5⟩
  have HB : Hid (Below w.heap.size w w5) := HN.out.2.2.2.trans ((HB2.out.trans (HL3.out.2.trans (HB4.out.trans HL5.out.2))).mono HN.out.2.2.1)
  clear HN HL2 HK2 HB2 HL3 HL4 HK4 HB4 HL5 HO
  go_wp2_with fail
  refine (same_any o _).mono ?_
  rintro e w6 ⟨rfl, rfl⟩
  go_wp2_with fail
  refine (same_any o _).mono ?_
  rintro e w6 ⟨rfl, rfl⟩
  go_wp2_with fail
  go_ret
  exact ⟨rfl, HB.out⟩

set_option maxRecDepth 100000 in
set_option maxHeartbeats 4000000 in
theorem law6_2z_true (o : Nat) (least : Int) (lim : Nat) (slow sif lat inf : Int) (w : World) (h0 : 0 ≤ least) (h1 : 0 ≤ lat) (h2 : 1 ≤ inf) (h3 : inf ≤ 4294967296) (b1 : (slow == 0) = true) (b2 : (sif != 0) = false) (c0 : (least == 0) = false) (c2 : least < lat) (c3 : (lat == 0) = false) (c4 : (least == lat) = false) (c5 : (FloatKind.f64.format.order o lim == some .gt) = true) (HO : Hid (OB o least lim slow sif lat inf least lat inf)) :
    Calls Try.prog 6 #[.float .f64 o, .int .i64 least, .float .f64 lim, .int .i64 slow, .int .i64 sif, .int .i64 lat, .int .i64 inf] w fun e w' => e = .returned (.bool true) ∧ Below w.heap.size w w' := by
  go_enter Try.func6, Try.ntmps6
  go_wp2_with fail
  refine (new_any o least lim slow sif w).mono ?_
  rintro e w1 ⟨R, E, rfl, HN⟩
  go_wp2_with fail
  refine (HO.out.1 R E w1 HN.out.1).mono ?_
  rintro e w2 ⟨rfl, HL2, HK2, HB2⟩
  go_wp2_with fail
  refine (state_any2 R E o least o lat inf w2 HL2.out).mono ?_
  rintro e w3 ⟨rfl, HL3⟩
  go_wp2_with fail
  refine (HO.out.2 R E w3 HL3.out.1).mono ?_
  rintro e w4 ⟨rfl, HL4, HK4, HB4⟩
  go_wp2_with fail
  refine (state_any2 R E o least o lat inf w4 HL4.out).mono ?_
  rintro e w5 ⟨rfl, HL5⟩
  have HB : Hid (Below w.heap.size w w5) := HN.out.2.2.2.trans ((HB2.out.trans (HL3.out.2.trans (HB4.out.trans HL5.out.2))).mono HN.out.2.2.1)
  clear HN HL2 HK2 HB2 HL3 HL4 HK4 HB4 HL5 HO
  go_wp2_with fail
  refine (same_any o _).mono ?_
  rintro e w6 ⟨rfl, rfl⟩
  go_wp2_with fail
  refine (same_any o _).mono ?_
  rintro e w6 ⟨rfl, rfl⟩
  go_wp2_with fail
  go_ret
  exact ⟨rfl, HB.out⟩

set_option maxRecDepth 100000 in
set_option maxHeartbeats 4000000 in
theorem law6_2z_false (o : Nat) (least : Int) (lim : Nat) (slow sif lat inf : Int) (w : World) (h0 : 0 ≤ least) (h1 : 0 ≤ lat) (h2 : 1 ≤ inf) (h3 : inf ≤ 4294967296) (b1 : (slow == 0) = true) (b2 : (sif != 0) = false) (c0 : (least == 0) = false) (c2 : least < lat) (c3 : (lat == 0) = false) (c4 : (least == lat) = false) (c5 : (FloatKind.f64.format.order o lim == some .gt) = false) (HO : Hid (OB o least lim slow sif lat inf least lat inf)) :
    Calls Try.prog 6 #[.float .f64 o, .int .i64 least, .float .f64 lim, .int .i64 slow, .int .i64 sif, .int .i64 lat, .int .i64 inf] w fun e w' => e = .returned (.bool true) ∧ Below w.heap.size w w' := by
  go_enter Try.func6, Try.ntmps6
  go_wp2_with fail
  refine (new_any o least lim slow sif w).mono ?_
  rintro e w1 ⟨R, E, rfl, HN⟩
  go_wp2_with fail
  refine (HO.out.1 R E w1 HN.out.1).mono ?_
  rintro e w2 ⟨rfl, HL2, HK2, HB2⟩
  go_wp2_with fail
  refine (state_any2 R E o least o lat inf w2 HL2.out).mono ?_
  rintro e w3 ⟨rfl, HL3⟩
  go_wp2_with fail
  refine (HO.out.2 R E w3 HL3.out.1).mono ?_
  rintro e w4 ⟨rfl, HL4, HK4, HB4⟩
  go_wp2_with fail
  refine (state_any2 R E o least o lat inf w4 HL4.out).mono ?_
  rintro e w5 ⟨rfl, HL5⟩
  have HB : Hid (Below w.heap.size w w5) := HN.out.2.2.2.trans ((HB2.out.trans (HL3.out.2.trans (HB4.out.trans HL5.out.2))).mono HN.out.2.2.1)
  clear HN HL2 HK2 HB2 HL3 HL4 HK4 HB4 HL5 HO
  go_wp2_with fail
  refine (same_any o _).mono ?_
  rintro e w6 ⟨rfl, rfl⟩
  go_wp2_with fail
  refine (same_any o _).mono ?_
  rintro e w6 ⟨rfl, rfl⟩
  go_wp2_with fail
  go_ret
  exact ⟨rfl, HB.out⟩

set_option maxRecDepth 100000 in
set_option maxHeartbeats 4000000 in
theorem law6_1n_false_true (o : Nat) (least : Int) (lim : Nat) (slow sif lat inf : Int) (w : World) (h0 : 0 ≤ least) (h1 : 0 ≤ lat) (h2 : 1 ≤ inf) (h3 : inf ≤ 4294967296) (b1 : (slow == 0) = false) (b2 : (least == 0) = false) (b3 : least < slow) (b4 : 1 ≤ sif) (b5 : sif ≤ 4294967296) (c4 : lat ≤ least) (c1 : (lat != least) = false) (HO : Hid (OB o least lim slow sif lat inf lat 0 0)) :
    Calls Try.prog 6 #[.float .f64 o, .int .i64 least, .float .f64 lim, .int .i64 slow, .int .i64 sif, .int .i64 lat, .int .i64 inf] w fun e w' => e = .returned (.bool true) ∧ Below w.heap.size w w' := by
  go_enter Try.func6, Try.ntmps6
  go_wp2_with fail
  refine (new_any o least lim slow sif w).mono ?_
  rintro e w1 ⟨R, E, rfl, HN⟩
  go_wp2_with fail
  refine (HO.out.1 R E w1 HN.out.1).mono ?_
  rintro e w2 ⟨rfl, HL2, HK2, HB2⟩
  go_wp2_with fail
  refine (state_any2 R E o lat o 0 0 w2 HL2.out).mono ?_
  rintro e w3 ⟨rfl, HL3⟩
  go_wp2_with fail
  refine (HO.out.2 R E w3 HL3.out.1).mono ?_
  rintro e w4 ⟨rfl, HL4, HK4, HB4⟩
  go_wp2_with fail
  refine (state_any2 R E o lat o 0 0 w4 HL4.out).mono ?_
  rintro e w5 ⟨rfl, HL5⟩
  have HB : Hid (Below w.heap.size w w5) := HN.out.2.2.2.trans ((HB2.out.trans (HL3.out.2.trans (HB4.out.trans HL5.out.2))).mono HN.out.2.2.1)
  clear HN HL2 HK2 HB2 HL3 HL4 HK4 HB4 HL5 HO
  go_wp2_with fail
  refine (same_any o _).mono ?_
  rintro e w6 ⟨rfl, rfl⟩
  go_wp2_with fail
  refine (same_any o _).mono ?_
  rintro e w6 ⟨rfl, rfl⟩
  go_wp2_with fail
  go_ret
  exact ⟨rfl, HB.out⟩

set_option maxRecDepth 100000 in
set_option maxHeartbeats 4000000 in
theorem law6_1n_false_false (o : Nat) (least : Int) (lim : Nat) (slow sif lat inf : Int) (w : World) (h0 : 0 ≤ least) (h1 : 0 ≤ lat) (h2 : 1 ≤ inf) (h3 : inf ≤ 4294967296) (b1 : (slow == 0) = false) (b2 : (least == 0) = false) (b3 : least < slow) (b4 : 1 ≤ sif) (b5 : sif ≤ 4294967296) (c4 : lat ≤ least) (c1 : (lat != least) = true) (HO : Hid (OB o least lim slow sif lat inf lat 0 0)) :
    Calls Try.prog 6 #[.float .f64 o, .int .i64 least, .float .f64 lim, .int .i64 slow, .int .i64 sif, .int .i64 lat, .int .i64 inf] w fun e w' => e = .returned (.bool true) ∧ Below w.heap.size w w' := by
  go_enter Try.func6, Try.ntmps6
  go_wp2_with fail
  refine (new_any o least lim slow sif w).mono ?_
  rintro e w1 ⟨R, E, rfl, HN⟩
  go_wp2_with fail
  refine (HO.out.1 R E w1 HN.out.1).mono ?_
  rintro e w2 ⟨rfl, HL2, HK2, HB2⟩
  go_wp2_with fail
  refine (state_any2 R E o lat o 0 0 w2 HL2.out).mono ?_
  rintro e w3 ⟨rfl, HL3⟩
  go_wp2_with fail
  refine (HO.out.2 R E w3 HL3.out.1).mono ?_
  rintro e w4 ⟨rfl, HL4, HK4, HB4⟩
  go_wp2_with fail
  refine (state_any2 R E o lat o 0 0 w4 HL4.out).mono ?_
  rintro e w5 ⟨rfl, HL5⟩
  have HB : Hid (Below w.heap.size w w5) := HN.out.2.2.2.trans ((HB2.out.trans (HL3.out.2.trans (HB4.out.trans HL5.out.2))).mono HN.out.2.2.1)
  clear HN HL2 HK2 HB2 HL3 HL4 HK4 HB4 HL5 HO
  go_wp2_with fail
  refine (same_any o _).mono ?_
  rintro e w6 ⟨rfl, rfl⟩
  go_wp2_with fail
  refine (same_any o _).mono ?_
  rintro e w6 ⟨rfl, rfl⟩
  go_wp2_with fail
  go_ret
  exact ⟨rfl, HB.out⟩

set_option maxRecDepth 100000 in
set_option maxHeartbeats 4000000 in
theorem law6_2n_true (o : Nat) (least : Int) (lim : Nat) (slow sif lat inf : Int) (w : World) (h0 : 0 ≤ least) (h1 : 0 ≤ lat) (h2 : 1 ≤ inf) (h3 : inf ≤ 4294967296) (b1 : (slow == 0) = false) (b2 : (least == 0) = false) (b3 : least < slow) (b4 : 1 ≤ sif) (b5 : sif ≤ 4294967296) (c2 : least < lat) (c3 : (lat == 0) = false) (c4 : (least == lat) = false) (c5 : (FloatKind.f64.format.order o lim == some .gt) = true) (HO : Hid (OB o least lim slow sif lat inf least lat inf)) :
    Calls Try.prog 6 #[.float .f64 o, .int .i64 least, .float .f64 lim, .int .i64 slow, .int .i64 sif, .int .i64 lat, .int .i64 inf] w fun e w' => e = .returned (.bool true) ∧ Below w.heap.size w w' := by
  go_enter Try.func6, Try.ntmps6
  go_wp2_with fail
  refine (new_any o least lim slow sif w).mono ?_
  rintro e w1 ⟨R, E, rfl, HN⟩
  go_wp2_with fail
  refine (HO.out.1 R E w1 HN.out.1).mono ?_
  rintro e w2 ⟨rfl, HL2, HK2, HB2⟩
  go_wp2_with fail
  refine (state_any2 R E o least o lat inf w2 HL2.out).mono ?_
  rintro e w3 ⟨rfl, HL3⟩
  go_wp2_with fail
  refine (HO.out.2 R E w3 HL3.out.1).mono ?_
  rintro e w4 ⟨rfl, HL4, HK4, HB4⟩
  go_wp2_with fail
  refine (state_any2 R E o least o lat inf w4 HL4.out).mono ?_
  rintro e w5 ⟨rfl, HL5⟩
  have HB : Hid (Below w.heap.size w w5) := HN.out.2.2.2.trans ((HB2.out.trans (HL3.out.2.trans (HB4.out.trans HL5.out.2))).mono HN.out.2.2.1)
  clear HN HL2 HK2 HB2 HL3 HL4 HK4 HB4 HL5 HO
  go_wp2_with fail
  refine (same_any o _).mono ?_
  rintro e w6 ⟨rfl, rfl⟩
  go_wp2_with fail
  refine (same_any o _).mono ?_
  rintro e w6 ⟨rfl, rfl⟩
  go_wp2_with fail
  go_ret
  exact ⟨rfl, HB.out⟩

set_option maxRecDepth 100000 in
set_option maxHeartbeats 4000000 in
theorem law6_2n_false (o : Nat) (least : Int) (lim : Nat) (slow sif lat inf : Int) (w : World) (h0 : 0 ≤ least) (h1 : 0 ≤ lat) (h2 : 1 ≤ inf) (h3 : inf ≤ 4294967296) (b1 : (slow == 0) = false) (b2 : (least == 0) = false) (b3 : least < slow) (b4 : 1 ≤ sif) (b5 : sif ≤ 4294967296) (c2 : least < lat) (c3 : (lat == 0) = false) (c4 : (least == lat) = false) (c5 : (FloatKind.f64.format.order o lim == some .gt) = false) (HO : Hid (OB o least lim slow sif lat inf least lat inf)) :
    Calls Try.prog 6 #[.float .f64 o, .int .i64 least, .float .f64 lim, .int .i64 slow, .int .i64 sif, .int .i64 lat, .int .i64 inf] w fun e w' => e = .returned (.bool true) ∧ Below w.heap.size w w' := by
  go_enter Try.func6, Try.ntmps6
  go_wp2_with fail
  refine (new_any o least lim slow sif w).mono ?_
  rintro e w1 ⟨R, E, rfl, HN⟩
  go_wp2_with fail
  refine (HO.out.1 R E w1 HN.out.1).mono ?_
  rintro e w2 ⟨rfl, HL2, HK2, HB2⟩
  go_wp2_with fail
  refine (state_any2 R E o least o lat inf w2 HL2.out).mono ?_
  rintro e w3 ⟨rfl, HL3⟩
  go_wp2_with fail
  refine (HO.out.2 R E w3 HL3.out.1).mono ?_
  rintro e w4 ⟨rfl, HL4, HK4, HB4⟩
  go_wp2_with fail
  refine (state_any2 R E o least o lat inf w4 HL4.out).mono ?_
  rintro e w5 ⟨rfl, HL5⟩
  have HB : Hid (Below w.heap.size w w5) := HN.out.2.2.2.trans ((HB2.out.trans (HL3.out.2.trans (HB4.out.trans HL5.out.2))).mono HN.out.2.2.1)
  clear HN HL2 HK2 HB2 HL3 HL4 HK4 HB4 HL5 HO
  go_wp2_with fail
  refine (same_any o _).mono ?_
  rintro e w6 ⟨rfl, rfl⟩
  go_wp2_with fail
  refine (same_any o _).mono ?_
  rintro e w6 ⟨rfl, rfl⟩
  go_wp2_with fail
  go_ret
  exact ⟨rfl, HB.out⟩

set_option maxRecDepth 100000 in
set_option maxHeartbeats 4000000 in
theorem law6_3n (o : Nat) (least : Int) (lim : Nat) (slow sif lat inf : Int) (w : World) (h0 : 0 ≤ least) (h1 : 0 ≤ lat) (h2 : 1 ≤ inf) (h3 : inf ≤ 4294967296) (b1 : (slow == 0) = false) (b2 : (least == 0) = false) (b3 : least < slow) (b4 : 1 ≤ sif) (b5 : sif ≤ 4294967296) (c2 : least < lat) (c3 : (lat != least) = true) (c5 : (FloatKind.f64.format.order o lim == some .gt) = false) (c6 : lat ≤ slow) (HO : Hid (OB o least lim slow sif lat inf lat 0 0)) :
    Calls Try.prog 6 #[.float .f64 o, .int .i64 least, .float .f64 lim, .int .i64 slow, .int .i64 sif, .int .i64 lat, .int .i64 inf] w fun e w' => e = .returned (.bool true) ∧ Below w.heap.size w w' := by
  go_enter Try.func6, Try.ntmps6
  go_wp2_with fail
  refine (new_any o least lim slow sif w).mono ?_
  rintro e w1 ⟨R, E, rfl, HN⟩
  go_wp2_with fail
  refine (HO.out.1 R E w1 HN.out.1).mono ?_
  rintro e w2 ⟨rfl, HL2, HK2, HB2⟩
  go_wp2_with fail
  refine (state_any2 R E o lat o 0 0 w2 HL2.out).mono ?_
  rintro e w3 ⟨rfl, HL3⟩
  go_wp2_with fail
  refine (HO.out.2 R E w3 HL3.out.1).mono ?_
  rintro e w4 ⟨rfl, HL4, HK4, HB4⟩
  go_wp2_with fail
  refine (state_any2 R E o lat o 0 0 w4 HL4.out).mono ?_
  rintro e w5 ⟨rfl, HL5⟩
  have HB : Hid (Below w.heap.size w w5) := HN.out.2.2.2.trans ((HB2.out.trans (HL3.out.2.trans (HB4.out.trans HL5.out.2))).mono HN.out.2.2.1)
  clear HN HL2 HK2 HB2 HL3 HL4 HK4 HB4 HL5 HO
  go_wp2_with fail
  refine (same_any o _).mono ?_
  rintro e w6 ⟨rfl, rfl⟩
  go_wp2_with fail
  refine (same_any o _).mono ?_
  rintro e w6 ⟨rfl, rfl⟩
  go_wp2_with fail
  go_ret
  exact ⟨rfl, HB.out⟩

set_option maxRecDepth 100000 in
set_option maxHeartbeats 4000000 in
theorem law6_4n_tt (o : Nat) (least : Int) (lim : Nat) (slow sif lat inf : Int) (w : World) (h0 : 0 ≤ least) (h1 : 0 ≤ lat) (h2 : 1 ≤ inf) (h3 : inf ≤ 4294967296) (b1 : (slow == 0) = false) (b2 : (least == 0) = false) (b3 : least < slow) (b4 : 1 ≤ sif) (b5 : sif ≤ 4294967296) (c2 : least < lat) (c4 : (least == lat) = false) (c5 : (FloatKind.f64.format.order o lim == some .gt) = false) (c6 : lat ≤ slow) (c7 : (slow == lat) = true) (c8 : (sif == inf) = true) (HO : Hid (OB o least lim slow sif lat inf least slow sif)) :
    Calls Try.prog 6 #[.float .f64 o, .int .i64 least, .float .f64 lim, .int .i64 slow, .int .i64 sif, .int .i64 lat, .int .i64 inf] w fun e w' => e = .returned (.bool true) ∧ Below w.heap.size w w' := by
  go_enter Try.func6, Try.ntmps6
  go_wp2_with fail
  refine (new_any o least lim slow sif w).mono ?_
  rintro e w1 ⟨R, E, rfl, HN⟩
  go_wp2_with fail
  refine (HO.out.1 R E w1 HN.out.1).mono ?_
  rintro e w2 ⟨rfl, HL2, HK2, HB2⟩
  go_wp2_with fail
  refine (state_any2 R E o least o slow sif w2 HL2.out).mono ?_
  rintro e w3 ⟨rfl, HL3⟩
  go_wp2_with fail
  refine (HO.out.2 R E w3 HL3.out.1).mono ?_
  rintro e w4 ⟨rfl, HL4, HK4, HB4⟩
  go_wp2_with fail
  refine (state_any2 R E o least o slow sif w4 HL4.out).mono ?_
  rintro e w5 ⟨rfl, HL5⟩
  have HB : Hid (Below w.heap.size w w5) := HN.out.2.2.2.trans ((HB2.out.trans (HL3.out.2.trans (HB4.out.trans HL5.out.2))).mono HN.out.2.2.1)
  clear HN HL2 HK2 HB2 HL3 HL4 HK4 HB4 HL5 HO
  go_wp2_with fail
  refine (same_any o _).mono ?_
  rintro e w6 ⟨rfl, rfl⟩
  go_wp2_with fail
  refine (same_any o _).mono ?_
  rintro e w6 ⟨rfl, rfl⟩
  go_wp2_with fail
  go_ret
  exact ⟨rfl, HB.out⟩

set_option maxRecDepth 100000 in
set_option maxHeartbeats 4000000 in
theorem law6_4n_tf (o : Nat) (least : Int) (lim : Nat) (slow sif lat inf : Int) (w : World) (h0 : 0 ≤ least) (h1 : 0 ≤ lat) (h2 : 1 ≤ inf) (h3 : inf ≤ 4294967296) (b1 : (slow == 0) = false) (b2 : (least == 0) = false) (b3 : least < slow) (b4 : 1 ≤ sif) (b5 : sif ≤ 4294967296) (c2 : least < lat) (c4 : (least == lat) = false) (c5 : (FloatKind.f64.format.order o lim == some .gt) = false) (c6 : lat ≤ slow) (c7 : (slow == lat) = true) (c8 : (sif == inf) = false) (HO : Hid (OB o least lim slow sif lat inf least slow sif)) :
    Calls Try.prog 6 #[.float .f64 o, .int .i64 least, .float .f64 lim, .int .i64 slow, .int .i64 sif, .int .i64 lat, .int .i64 inf] w fun e w' => e = .returned (.bool true) ∧ Below w.heap.size w w' := by
  go_enter Try.func6, Try.ntmps6
  go_wp2_with fail
  refine (new_any o least lim slow sif w).mono ?_
  rintro e w1 ⟨R, E, rfl, HN⟩
  go_wp2_with fail
  refine (HO.out.1 R E w1 HN.out.1).mono ?_
  rintro e w2 ⟨rfl, HL2, HK2, HB2⟩
  go_wp2_with fail
  refine (state_any2 R E o least o slow sif w2 HL2.out).mono ?_
  rintro e w3 ⟨rfl, HL3⟩
  go_wp2_with fail
  refine (HO.out.2 R E w3 HL3.out.1).mono ?_
  rintro e w4 ⟨rfl, HL4, HK4, HB4⟩
  go_wp2_with fail
  refine (state_any2 R E o least o slow sif w4 HL4.out).mono ?_
  rintro e w5 ⟨rfl, HL5⟩
  have HB : Hid (Below w.heap.size w w5) := HN.out.2.2.2.trans ((HB2.out.trans (HL3.out.2.trans (HB4.out.trans HL5.out.2))).mono HN.out.2.2.1)
  clear HN HL2 HK2 HB2 HL3 HL4 HK4 HB4 HL5 HO
  go_wp2_with fail
  refine (same_any o _).mono ?_
  rintro e w6 ⟨rfl, rfl⟩
  go_wp2_with fail
  refine (same_any o _).mono ?_
  rintro e w6 ⟨rfl, rfl⟩
  go_wp2_with fail
  go_ret
  exact ⟨rfl, HB.out⟩

set_option maxRecDepth 100000 in
set_option maxHeartbeats 4000000 in
theorem law6_4n_f (o : Nat) (least : Int) (lim : Nat) (slow sif lat inf : Int) (w : World) (h0 : 0 ≤ least) (h1 : 0 ≤ lat) (h2 : 1 ≤ inf) (h3 : inf ≤ 4294967296) (b1 : (slow == 0) = false) (b2 : (least == 0) = false) (b3 : least < slow) (b4 : 1 ≤ sif) (b5 : sif ≤ 4294967296) (c2 : least < lat) (c4 : (least == lat) = false) (c5 : (FloatKind.f64.format.order o lim == some .gt) = false) (c6 : lat ≤ slow) (c7 : (slow == lat) = false) (HO : Hid (OB o least lim slow sif lat inf least slow sif)) :
    Calls Try.prog 6 #[.float .f64 o, .int .i64 least, .float .f64 lim, .int .i64 slow, .int .i64 sif, .int .i64 lat, .int .i64 inf] w fun e w' => e = .returned (.bool true) ∧ Below w.heap.size w w' := by
  go_enter Try.func6, Try.ntmps6
  go_wp2_with fail
  refine (new_any o least lim slow sif w).mono ?_
  rintro e w1 ⟨R, E, rfl, HN⟩
  go_wp2_with fail
  refine (HO.out.1 R E w1 HN.out.1).mono ?_
  rintro e w2 ⟨rfl, HL2, HK2, HB2⟩
  go_wp2_with fail
  refine (state_any2 R E o least o slow sif w2 HL2.out).mono ?_
  rintro e w3 ⟨rfl, HL3⟩
  go_wp2_with fail
  refine (HO.out.2 R E w3 HL3.out.1).mono ?_
  rintro e w4 ⟨rfl, HL4, HK4, HB4⟩
  go_wp2_with fail
  refine (state_any2 R E o least o slow sif w4 HL4.out).mono ?_
  rintro e w5 ⟨rfl, HL5⟩
  have HB : Hid (Below w.heap.size w w5) := HN.out.2.2.2.trans ((HB2.out.trans (HL3.out.2.trans (HB4.out.trans HL5.out.2))).mono HN.out.2.2.1)
  clear HN HL2 HK2 HB2 HL3 HL4 HK4 HB4 HL5 HO
  go_wp2_with fail
  refine (same_any o _).mono ?_
  rintro e w6 ⟨rfl, rfl⟩
  go_wp2_with fail
  refine (same_any o _).mono ?_
  rintro e w6 ⟨rfl, rfl⟩
  go_wp2_with fail
  go_ret
  exact ⟨rfl, HB.out⟩
end Go.Proofs.Qxb6616692a
