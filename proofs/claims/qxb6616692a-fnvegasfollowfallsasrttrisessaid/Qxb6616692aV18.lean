import Derived.Test.Qxb6616692aV17
namespace Go.Proofs.Qxb6616692a
open Ieee Go.RowKit

theorem fi_eq (n : Int) : fi n = floatOfInt .f64 n := rfl
theorem fa_mul {P : Program} {x y r : Nat} (h : double.mul x y = some r) (w : World) : (binOp .mul 23 (.float .f64 x) (.float .f64 y)).run P w = .ok (.float .f64 r) w := run_float_arith w .mul 23 .f64 x y r h
theorem fa_add {P : Program} {x y r : Nat} (h : double.add x y = some r) (w : World) : (binOp .add 23 (.float .f64 x) (.float .f64 y)).run P w = .ok (.float .f64 r) w := run_float_arith w .add 23 .f64 x y r h
theorem fa_sub {P : Program} {x y r : Nat} (h : double.sub x y = some r) (w : World) : (binOp .sub 23 (.float .f64 x) (.float .f64 y)).run P w = .ok (.float .f64 r) w := run_float_arith w .sub 23 .f64 x y r h
theorem le_t {x y : Nat} {a b : Rat} (hx : Is x a) (hy : Is y b) (h : a ≤ b) : (FloatKind.f64.format.order x y == some .lt || FloatKind.f64.format.order x y == some .eq) = true := (le_b hx hy).trans (decide_eq_true h)
theorem ge_t {x y : Nat} {a b : Rat} (hx : Is x a) (hy : Is y b) (h : b ≤ a) : (FloatKind.f64.format.order x y == some .gt || FloatKind.f64.format.order x y == some .eq) = true := (ge_b hx hy).trans (decide_eq_true h)
theorem ge_f {x y : Nat} {a b : Rat} (hx : Is x a) (hy : Is y b) (h : ¬ b ≤ a) : (FloatKind.f64.format.order x y == some .gt || FloatKind.f64.format.order x y == some .eq) = false := (ge_b hx hy).trans (decide_eq_false h)
theorem lt_f {x y : Nat} {a b : Rat} (hx : Is x a) (hy : Is y b) (h : b ≤ a) : (FloatKind.f64.format.order x y == some .lt) = false := (lt_b hx hy).trans (decide_eq_false (by grind))
theorem lt_t {x y : Nat} {a b : Rat} (hx : Is x a) (hy : Is y b) (h : a < b) : (FloatKind.f64.format.order x y == some .lt) = true := (lt_b hx hy).trans (decide_eq_true h)
theorem gt_f {x y : Nat} {a b : Rat} (hx : Is x a) (hy : Is y b) (h : a ≤ b) : (FloatKind.f64.format.order x y == some .gt) = false := (gt_b hx hy).trans (decide_eq_false (by grind))
theorem gt_t {x y : Nat} {a b : Rat} (hx : Is x a) (hy : Is y b) (h : b < a) : (FloatKind.f64.format.order x y == some .gt) = true := (gt_b hx hy).trans (decide_eq_true h)
theorem eq_t {x : Nat} {a : Rat} (hx : Is x a) : (FloatKind.f64.format.order x x == some .eq) = true := (eq_b hx hx).trans (decide_eq_true rfl)
theorem ne_f {x : Nat} {a : Rat} (hx : Is x a) : (FloatKind.f64.format.order x x != some .eq) = false := by
  unfold bne
  rw [eq_t hx]
  rfl

set_option maxRecDepth 100000 in
set_option maxHeartbeats 8000000 in
theorem law8_main (n r s : Int) (lw : Nat) (w : World) (n0 : 0 ≤ n) (n1 : n ≤ 70368744177664) (r0 : -70368744177664 ≤ r) (r1 : r ≤ 70368744177664) (s0 : 0 ≤ s) (s1 : s ≤ 16) (hw : lw < 18446744073709551616)
    (h1 : (FloatKind.f64.format.order lw 4607182418800017408 == some .gt || FloatKind.f64.format.order lw 4607182418800017408 == some .eq) = true)
    (h2 : (FloatKind.f64.format.order lw 4786511204640096256 == some .lt || FloatKind.f64.format.order lw 4786511204640096256 == some .eq) = true) :
    Calls Try.prog 8 #[.int .i64 n, .float .f64 lw, .int .i64 r, .int .i64 s] w (LwP w) := by
  obtain ⟨L, il, L1, L2, hx1, hx2⟩ := lim hw h1 h2
  obtain ⟨sw, t, hs⟩ := step_any lw hx1 hx2 L il L2
  have t13 : t ≤ 13 := by
    have c := hs.hi 12 (by omega) (by
      have e : ((10^12 : Nat):Rat) = 1000000000000 := by decide +kernel
      rw [e]; exact L2)
    have e12 : ((12:Nat):Rat) = 12 := rfl
    rw [e12] at c
    grind
  obtain ⟨a3w, a20w, b6w, b10w, u6w, u1w, d1w, al, be, U6, U1, D1, b6, g⟩ := fo_any hs L1 L2 t13
  obtain ⟨qw, Q, hq, iq, Q0⟩ := qu_any n r n0 (by omega) lw L il L1 L2
  obtain ⟨sn, hsn⟩ : ∃ sn : Nat, s = (sn:Int) := ⟨s.toNat, by omega⟩
  have hq2 := qu_shift (lw := lw) (qw := qw) sn n0 n1 r1 (by omega) hq
  obtain ⟨n2, hn2⟩ : ∃ n2 : Int, n2 = n * 2^sn := ⟨_, rfl⟩
  obtain ⟨r2, hr2⟩ : ∃ r2 : Int, r2 = r * 2^sn := ⟨_, rfl⟩
  have hsm : (2:Int)^sn ≤ 65536 := by
    have : (2:Int)^sn ≤ 2^16 := by exact_mod_cast Nat.pow_le_pow_right (show 0 < 2 by omega) (show sn ≤ 16 by omega)
    simpa using this
  have hsp : (0:Int) < 2^sn := by exact_mod_cast Nat.two_pow_pos sn
  have bn2 : 0 ≤ n2 ∧ n2 ≤ 4611686018427387904 := by
    rw [hn2]
    refine ⟨Int.mul_nonneg n0 (by omega), ?_⟩
    exact Int.le_trans (Int.mul_le_mul n1 hsm (by omega) (by omega)) (by decide)
  have br2 : -4611686018427387904 ≤ r2 ∧ r2 ≤ 4611686018427387904 := by
    rw [hr2]
    rcases Int.lt_or_le r 0 with h | h
    · have h3 : (-r) * 2^sn ≤ 70368744177664 * 65536 := Int.mul_le_mul (by omega) hsm (by omega) (by omega)
      have h4 : 0 ≤ (-r) * 2^sn := Int.mul_nonneg (by omega) (by omega)
      have h5 : (-r) * 2^sn = -(r * 2^sn) := Int.neg_mul _ _
      rw [h5] at h3 h4
      constructor <;> omega
    · have h3 : r * 2^sn ≤ 70368744177664 * 65536 := Int.mul_le_mul r1 hsm (by omega) (by omega)
      have h4 : 0 ≤ r * 2^sn := Int.mul_nonneg h (by omega)
      constructor <;> omega
  have hwn : wrap64 (n * 2^sn) = n2 := by rw [← hn2]; unfold wrap64; omega
  have hwr : wrap64 (r * 2^sn) = r2 := by rw [← hr2]; unfold wrap64; omega
  rw [← hn2, ← hr2] at hq2
  clear hn2 hr2 hsm hsp
  have HQ : Hid (Qu n r lw qw ∧ Qu n2 r2 lw qw ∧ Is qw Q) := ⟨hq, hq2, iq⟩
  have HG : Hid (Step lw L sw t ∧ Fo lw sw L t a3w a20w b6w b10w u6w u1w d1w al be U6 U1 D1 b6 ∧ 1 ≤ L ∧ L ≤ 1000000000000) := ⟨hs, g, L1, L2⟩
  have HI : Hid (Is lw L) := il
  clear hq hq2 iq hs g L1 L2 il t13 hx1 hx2 Q0 hw
  go_enter Try.func8, Try.ntmps8
  go_wp2_with fail
  refine (newVegas_any n w).mono ?_
  rintro e w1 ⟨rfl, HN1⟩
  have hc1 := HN1.out.1
  go_wp2_with fail
  refine (zzFollow_any w.heap.size n r HG.out.1 HG.out.2.1 HG.out.2.2.1 HG.out.2.2.2 n0 (by omega) HQ.out.1 HQ.out.2.2 w1 hc1).mono ?_
  rintro e w' ⟨rfl, rfl⟩
  go_wp2_with fail
  refine (newVegas_any n2 w1).mono ?_
  rintro e w2 ⟨rfl, HN2⟩
  have hc2 := HN2.out.1
  have hc3 : w2.cell? ⟨w.heap.size, 147, none⟩ = some (.int .i64 n) := (HN2.out.2.1.cell (p := ⟨w.heap.size, 147, none⟩) HN1.out.2.2).trans hc1
  have HB2 : Hid (Below w.heap.size w w2) := HN1.out.2.1.trans (HN2.out.2.1.mono HN1.out.2.1.size)
  clear HN1 HN2 hc1
  go_wp2_with fail
  refine (zzFollow_any w1.heap.size n2 r2 HG.out.1 HG.out.2.1 HG.out.2.2.1 HG.out.2.2.2 bn2.1 (by omega) HQ.out.2.1 HQ.out.2.2 w2 hc2).mono ?_
  rintro e w' ⟨rfl, rfl⟩
  go_wp2_with fail
  refine (zzFollow_any w.heap.size n n (Q := 0) HG.out.1 HG.out.2.1 HG.out.2.2.1 HG.out.2.2.2 n0 (by omega) (.inl ⟨Int.le_refl _, rfl⟩) is_zero w2 hc3).mono ?_
  rintro e w' ⟨he, rfl⟩
  have hpk0 : pkW 0 t al be u6w u1w d1w lw = u6w := by unfold pkW; rw [if_pos HG.out.1.nn]
  rw [hpk0] at he
  subst he
  clear hpk0 hc2 hc3
  go_wp2_with fail
  refine (digits_any lw L HI.out HG.out.2.2.1 HG.out.2.2.2 w2).mono ?_
  rintro e w' ⟨k, rfl, rfl, hk, HK⟩
  have hd := dig_step HG.out.1 HG.out.2.2.2 hk HK.out.1 HK.out.2
  obtain ⟨m12, tw, x1, y1, z1, x2, y2, z2, y3, z3, Z1, Z2, Z3, bo⟩ := bo_any HG.out.1 HG.out.2.2.1 HG.out.2.2.2 HG.out.2.1 k hk hd.1 hd.2.1
  clear hd
  have p3 := bo.p3
  have p6 := bo.p6
  have p9 := bo.p9
  rw [fi_eq] at p3 p6 p9
  have v1 := fa_mul (P := Try.prog) bo.p1
  have v2 := fa_add (P := Try.prog) bo.p2
  have v3 := fa_mul (P := Try.prog) p3
  have v4 := fa_add (P := Try.prog) bo.p4
  have v5 := fa_sub (P := Try.prog) bo.p5
  have v6 := fa_mul (P := Try.prog) p6
  have v7 := fa_add (P := Try.prog) bo.p7
  have v8 := fa_add (P := Try.prog) bo.p8
  have v9 := fa_sub (P := Try.prog) p9
  have va := fa_sub (P := Try.prog) bo.pa
  clear p3 p6 p9
  obtain ⟨R, hR⟩ : ∃ R, R = pkV Q t al be U6 U1 D1 L := ⟨_, rfl⟩
  have iR : Is (pkW Q t al be u6w u1w d1w lw) R := by rw [hR]; exact pk_is HG.out.2.1.i6 HG.out.2.1.i1 HG.out.2.1.id HI.out
  have hRhi : R ≤ U6 := by rw [hR]; exact pk_hi HG.out.2.1.m1 HG.out.2.1.m2 HG.out.2.1.m3
  have hRlo : D1 ≤ R := by rw [hR]; exact pk_lo HG.out.2.1.m1 HG.out.2.1.m2 HG.out.2.1.m3
  have hRu : r ≤ n → pkW Q t al be u6w u1w d1w lw = u6w := by
    intro h
    have hQ0 : Q = 0 := by
      rcases HQ.out.1 with ⟨_, hq⟩ | ⟨h', _⟩
      · have := HQ.out.2.2
        rw [hq] at this
        exact this.uniq is_zero
      · omega
    unfold pkW
    rw [hQ0, if_pos HG.out.1.nn]
  clear hR
  generalize hrw : pkW Q t al be u6w u1w d1w lw = rwd at *
  have i6 := HG.out.2.1.i6
  have ipa : Is 4607186922399644778 L_pa := isL_pa
  have c1 := ne_f iR
  have c2 := lt_f i6 bo.i1 bo.h1
  have c3 := gt_f i6 bo.i2 bo.h2
  have c5 := le_t iR i6 hRhi
  have c6 := ge_t iR bo.i3 (Rat.le_trans bo.h3 hRlo)
  have HC4 : Hid _ := And.intro (fun h => ge_t HI.out ipa h) (fun h => ge_f HI.out ipa h)
  have HC7 : Hid _ := fun h => gt_t i6 HI.out h
  have HGR : Hid (L_pa ≤ L → L < U6) := fun h => grows HG.out.1 HG.out.2.2.1 HG.out.2.2.2 HG.out.2.1 (dig_step HG.out.1 HG.out.2.2.2 hk HK.out.1 HK.out.2).2.2 h
  have HRU : Hid _ := hRu
  clear bo iR i6 ipa hRhi hRlo hRu hrw HK HQ HG HI
  by_cases hrn : r ≤ n
  · have := HRU.out hrn
    subst this
    by_cases hpa : L_pa ≤ L
    · have c4 := HC4.out.1 hpa
      have c7 := HC7.out (HGR.out hpa)
      clear HGR HRU hpa HC4 HC7
      go_wp2_with fail
      go_ret
      exact ⟨rfl, HB2⟩
    · have c4 := HC4.out.2 hpa
      clear HGR HRU hpa HC4 HC7
      go_wp2_with fail
      go_ret
      exact ⟨rfl, HB2⟩
  · by_cases hpa : L_pa ≤ L
    · have c4 := HC4.out.1 hpa
      have c7 := HC7.out (HGR.out hpa)
      clear HGR HRU hpa HC4 HC7
      go_wp2_with fail
      go_ret
      exact ⟨rfl, HB2⟩
    · have c4 := HC4.out.2 hpa
      clear HGR HRU hpa HC4 HC7
      go_wp2_with fail
      go_ret
      exact ⟨rfl, HB2⟩
end Go.Proofs.Qxb6616692a
