import Derived.Test.Qxb6616692aV18
namespace Go.Proofs.Qxb6616692a
open Ieee Go.RowKit

theorem half_int {n h : Int} (h1 : 0 < n) (h2 : n ≤ h.tdiv 2) : 2 * n ≤ h := by
  rcases Int.lt_or_le h 0 with hh | hh
  · exfalso
    have h3 : h.tdiv 2 ≤ 0 := by
      have e : h = -(-h) := by omega
      rw [e, Int.neg_tdiv, Int.tdiv_eq_ediv_of_nonneg (by omega)]
      omega
    omega
  · rw [Int.tdiv_eq_ediv_of_nonneg hh] at h2
    omega

theorem tdiv_wrap {h : Int} (h0 : -9223372036854775808 ≤ h) (h1 : h < 9223372036854775808) : wrap64 (h.tdiv 2) = h.tdiv 2 := by
  have b : -9223372036854775808 ≤ h.tdiv 2 ∧ h.tdiv 2 < 9223372036854775808 := by
    rcases Int.lt_or_le h 0 with hh | hh
    · have e : h = -(-h) := by omega
      rw [e, Int.neg_tdiv, Int.tdiv_eq_ediv_of_nonneg (by omega)]
      omega
    · rw [Int.tdiv_eq_ediv_of_nonneg hh]
      omega
  unfold wrap64
  omega

set_option maxRecDepth 100000 in
set_option maxHeartbeats 16000000 in
theorem law9_main (n ra rb : Int) (lw : Nat) (w : World) (n0 : 0 ≤ n) (n1 : n < 9223372036854775808) (ra1 : ra < 9223372036854775808) (rb1 : rb < 9223372036854775808) (ra0 : -9223372036854775808 ≤ ra) (rb0 : -9223372036854775808 ≤ rb) (hw : lw < 18446744073709551616)
    (h1 : (FloatKind.f64.format.order lw 4607182418800017408 == some .gt || FloatKind.f64.format.order lw 4607182418800017408 == some .eq) = true)
    (h2 : (FloatKind.f64.format.order lw 4786511204640096256 == some .lt || FloatKind.f64.format.order lw 4786511204640096256 == some .eq) = true) :
    Calls Try.prog 9 #[.int .i64 n, .float .f64 lw, .int .i64 ra, .int .i64 rb] w (LwP w) := by
  obtain ⟨L, il, L1, L2, hx1, hx2⟩ := lim hw h1 h2
  obtain ⟨sw, t, hs⟩ := step_any lw hx1 hx2 L il L2
  have t13 : t ≤ 13 := by
    have c := hs.hi 12 (by omega) (by
      have e : ((10^12 : Nat):Rat) = 1000000000000 := by decide +kernel
      rw [e]; exact L2)
    have e12 : ((12:Nat):Rat) = 12 := rfl
    rw [e12] at c
    grind
  obtain ⟨a3w, a20w, b6w, b10w, u6w, u1w, d1w, al, be, U6, U1, D1, b6, g⟩ := fo_any hs L1 L2 t13
  have HG : Hid (Step lw L sw t ∧ Fo lw sw L t a3w a20w b6w b10w u6w u1w d1w al be U6 U1 D1 b6 ∧ 1 ≤ L ∧ L ≤ 1000000000000) := ⟨hs, g, L1, L2⟩
  have HI : Hid (Is lw L) := il
  clear hs g L1 L2 il t13 hx1 hx2 hw
  by_cases hsw : rb < ra
  · obtain ⟨q1, Q1, hq1, iq1, Q10⟩ := qu_any n rb n0 (by omega) lw L HI.out HG.out.2.2.1 HG.out.2.2.2
    obtain ⟨q2, Q2, hq2, iq2, Q20⟩ := qu_any n ra n0 (by omega) lw L HI.out HG.out.2.2.1 HG.out.2.2.2
    have HM : Hid (Q1 ≤ Q2) := qu_mono n0 (by omega) (by omega) HI.out HG.out.2.2.1 HG.out.2.2.2 hq1 hq2 iq1 iq2 Q20
    have HQ : Hid (Qu n rb lw q1 ∧ Is q1 Q1 ∧ Qu n ra lw q2 ∧ Is q2 Q2) := ⟨hq1, iq1, hq2, iq2⟩
    clear hq1 hq2 iq1 iq2 Q10 Q20
    go_enter Try.func9, Try.ntmps9
    go_wp2_with fail
    refine (newVegas_any n w).mono ?_
    rintro e w1 ⟨rfl, HN1⟩
    have hc1 := HN1.out.1
    have HB1 : Hid (Below w.heap.size w w1) := HN1.out.2.1
    clear HN1
    go_wp2_with fail
    refine (zzFollow_any w.heap.size n rb HG.out.1 HG.out.2.1 HG.out.2.2.1 HG.out.2.2.2 n0 (by omega) HQ.out.1 HQ.out.2.1 w1 hc1).mono ?_
    rintro e w' ⟨rfl, rfl⟩
    go_wp2_with fail
    refine (zzFollow_any w.heap.size n ra HG.out.1 HG.out.2.1 HG.out.2.2.1 HG.out.2.2.2 n0 (by omega) HQ.out.2.2.1 HQ.out.2.2.2 w1 hc1).mono ?_
    rintro e w' ⟨rfl, rfl⟩
    clear hc1
    go_wp2_with fail
    refine (digits_any lw L HI.out HG.out.2.2.1 HG.out.2.2.2 w1).mono ?_
    rintro e w' ⟨k, rfl, rfl, hk, HK⟩
    have hd := dig_step HG.out.1 HG.out.2.2.2 hk HK.out.1 HK.out.2
    obtain ⟨m12, tw, x1, y1, z1, x2, y2, z2, y3, z3, Z1, Z2, Z3, bo⟩ := bo_any HG.out.1 HG.out.2.2.1 HG.out.2.2.2 HG.out.2.1 k hk hd.1 hd.2.1
    have HD : Hid (t ≤ 13) := hd.2.2
    clear hd
    have p6 := bo.p6
    have p9 := bo.p9
    rw [fi_eq] at p6 p9
    have v1 := fa_mul (P := Try.prog) bo.p1
    have v2 := fa_add (P := Try.prog) bo.p2
    have v6 := fa_mul (P := Try.prog) p6
    have v7 := fa_add (P := Try.prog) bo.p7
    have v8 := fa_add (P := Try.prog) bo.p8
    have v9 := fa_sub (P := Try.prog) p9
    have va := fa_sub (P := Try.prog) bo.pa
    clear p6 p9
    obtain ⟨R1, hR1⟩ : ∃ R, R = pkV Q1 t al be U6 U1 D1 L := ⟨_, rfl⟩
    have iR1 : Is (pkW Q1 t al be u6w u1w d1w lw) R1 := by rw [hR1]; exact pk_is HG.out.2.1.i6 HG.out.2.1.i1 HG.out.2.1.id HI.out
    have hi1 : R1 ≤ U6 := by rw [hR1]; exact pk_hi HG.out.2.1.m1 HG.out.2.1.m2 HG.out.2.1.m3
    have lo1 : D1 ≤ R1 := by rw [hR1]; exact pk_lo HG.out.2.1.m1 HG.out.2.1.m2 HG.out.2.1.m3
    obtain ⟨R2, hR2⟩ : ∃ R, R = pkV Q2 t al be U6 U1 D1 L := ⟨_, rfl⟩
    have iR2 : Is (pkW Q2 t al be u6w u1w d1w lw) R2 := by rw [hR2]; exact pk_is HG.out.2.1.i6 HG.out.2.1.i1 HG.out.2.1.id HI.out
    have hi2 : R2 ≤ U6 := by rw [hR2]; exact pk_hi HG.out.2.1.m1 HG.out.2.1.m2 HG.out.2.1.m3
    have lo2 : D1 ≤ R2 := by rw [hR2]; exact pk_lo HG.out.2.1.m1 HG.out.2.1.m2 HG.out.2.1.m3
    have h21 : R2 ≤ R1 := by rw [hR1, hR2]; exact pk_mono HM.out HG.out.2.1.m1 HG.out.2.1.m2 HG.out.2.1.m3
    have HU : Hid (rb ≤ n → L_pa ≤ L → L < R1) := by
      intro h hpa
      have hQ0 : Q1 = 0 := by
        rcases HQ.out.1 with ⟨_, hq⟩ | ⟨h', _⟩
        · have := HQ.out.2.1
          rw [hq] at this
          exact this.uniq is_zero
        · omega
      have hr : R1 = U6 := by rw [hR1, hQ0]; unfold pkV; rw [if_pos HG.out.1.nn]
      rw [hr]
      exact grows HG.out.1 HG.out.2.2.1 HG.out.2.2.2 HG.out.2.1 HD.out hpa
    have HDN : Hid (0 < n → n ≤ Int.tdiv ra 2 → 2 ≤ L → R2 < L) := by
      intro h3 h4 h5
      have hQ := qu_half h3 (half_int h3 h4) (by omega) HI.out HG.out.2.2.1 HG.out.2.2.2 HQ.out.2.2.1 HQ.out.2.2.2
      rw [hR2, half_cut HG.out.1 HG.out.2.2.2 HG.out.2.1 h5 hQ]
      exact falls HG.out.1 HG.out.2.2.2 HG.out.2.1 HD.out h5
    clear hR1 hR2
    generalize pkW Q1 t al be u6w u1w d1w lw = rw1 at *
    generalize pkW Q2 t al be u6w u1w d1w lw = rw2 at *
    have c1 := lt_f iR1 iR2 h21
    have c2 := lt_f iR1 bo.i3 (Rat.le_trans bo.h3 lo1)
    have c3 := lt_f iR2 bo.i3 (Rat.le_trans bo.h3 lo2)
    have c4 := gt_f iR1 bo.i2 (Rat.le_trans hi1 bo.h2)
    have c5 := gt_f iR2 bo.i2 (Rat.le_trans hi2 bo.h2)
    have HC : Hid ((L_pa ≤ L → (FloatKind.f64.format.order lw 4607186922399644778 == some .gt || FloatKind.f64.format.order lw 4607186922399644778 == some .eq) = true) ∧ (¬ L_pa ≤ L → (FloatKind.f64.format.order lw 4607186922399644778 == some .gt || FloatKind.f64.format.order lw 4607186922399644778 == some .eq) = false)) := ⟨fun h => ge_t HI.out isL_pa h, fun h => ge_f HI.out isL_pa h⟩
    have HC2 : Hid ((2 ≤ L → (FloatKind.f64.format.order lw 4611686018427387904 == some .gt || FloatKind.f64.format.order lw 4611686018427387904 == some .eq) = true) ∧ (¬ 2 ≤ L → (FloatKind.f64.format.order lw 4611686018427387904 == some .gt || FloatKind.f64.format.order lw 4611686018427387904 == some .eq) = false)) := by
      have i2 : Is 4611686018427387904 2 := by have := is_cTwo; rw [v_two] at this; exact this
      exact ⟨fun h => ge_t HI.out i2 h, fun h => ge_f HI.out i2 h⟩
    have HC3 : Hid (L < R1 → (FloatKind.f64.format.order rw1 lw == some .gt) = true) := fun h => gt_t iR1 HI.out h
    have HC4 : Hid (R2 < L → (FloatKind.f64.format.order rw2 lw == some .lt) = true) := fun h => lt_t iR2 HI.out h
    clear bo iR1 iR2 hi1 hi2 lo1 lo2 h21 HK HQ HG HI HM HD
    by_cases d1 : rb ≤ n
    · by_cases d2 : L_pa ≤ L
      · have e1 := HC.out.1 d2
        have e2 := HC3.out (HU.out d1 d2)
        clear d2
        by_cases d3 : 0 < n
        · by_cases d4 : n ≤ Int.tdiv ra 2
          · have da : n ≤ wrap64 (Int.tdiv ra 2) := by rw [tdiv_wrap ra0 ra1]; exact d4
            have db : n ≤ ra / 2 := by have := half_int d3 d4; omega
            by_cases d5 : 2 ≤ L
            · have f1 := HC2.out.1 d5
              have f2 := HC4.out (HDN.out d3 d4 d5)
              clear d4 d5
              go_wp2_with fail
              go_ret
              exact ⟨rfl, HB1⟩
            · have f1 := HC2.out.2 d5
              clear d4 d5
              go_wp2_with fail
              go_ret
              exact ⟨rfl, HB1⟩
          · have da : wrap64 (Int.tdiv ra 2) < n := by rw [tdiv_wrap ra0 ra1]; omega
            have dc : Int.tdiv ra 2 < n := by omega
            by_cases d6 : 0 ≤ ra
            · have db : ra / 2 < n := by rw [← Int.tdiv_eq_ediv_of_nonneg d6]; omega
              clear d4
              go_wp2_with fail
              go_ret
              exact ⟨rfl, HB1⟩
            · clear d4
              go_wp2_with fail
              go_ret
              exact ⟨rfl, HB1⟩
        · go_wp2_with fail
          go_ret
          exact ⟨rfl, HB1⟩
      · have e1 := HC.out.2 d2
        clear d2
        by_cases d3 : 0 < n
        · by_cases d4 : n ≤ Int.tdiv ra 2
          · have da : n ≤ wrap64 (Int.tdiv ra 2) := by rw [tdiv_wrap ra0 ra1]; exact d4
            have db : n ≤ ra / 2 := by have := half_int d3 d4; omega
            by_cases d5 : 2 ≤ L
            · have f1 := HC2.out.1 d5
              have f2 := HC4.out (HDN.out d3 d4 d5)
              clear d4 d5
              go_wp2_with fail
              go_ret
              exact ⟨rfl, HB1⟩
            · have f1 := HC2.out.2 d5
              clear d4 d5
              go_wp2_with fail
              go_ret
              exact ⟨rfl, HB1⟩
          · have da : wrap64 (Int.tdiv ra 2) < n := by rw [tdiv_wrap ra0 ra1]; omega
            have dc : Int.tdiv ra 2 < n := by omega
            by_cases d6 : 0 ≤ ra
            · have db : ra / 2 < n := by rw [← Int.tdiv_eq_ediv_of_nonneg d6]; omega
              clear d4
              go_wp2_with fail
              go_ret
              exact ⟨rfl, HB1⟩
            · clear d4
              go_wp2_with fail
              go_ret
              exact ⟨rfl, HB1⟩
        · go_wp2_with fail
          go_ret
          exact ⟨rfl, HB1⟩
    · by_cases d3 : 0 < n
      · by_cases d4 : n ≤ Int.tdiv ra 2
        · have da : n ≤ wrap64 (Int.tdiv ra 2) := by rw [tdiv_wrap ra0 ra1]; exact d4
          have db : n ≤ ra / 2 := by have := half_int d3 d4; omega
          by_cases d5 : 2 ≤ L
          · have f1 := HC2.out.1 d5
            have f2 := HC4.out (HDN.out d3 d4 d5)
            clear d4 d5
            go_wp2_with fail
            go_ret
            exact ⟨rfl, HB1⟩
          · have f1 := HC2.out.2 d5
            clear d4 d5
            go_wp2_with fail
            go_ret
            exact ⟨rfl, HB1⟩
        · have da : wrap64 (Int.tdiv ra 2) < n := by rw [tdiv_wrap ra0 ra1]; omega
          have dc : Int.tdiv ra 2 < n := by omega
          have d6 : 0 ≤ ra := by omega
          have db : ra / 2 < n := by rw [← Int.tdiv_eq_ediv_of_nonneg d6]; omega
          clear d4
          go_wp2_with fail
          go_ret
          exact ⟨rfl, HB1⟩
      · go_wp2_with fail
        go_ret
        exact ⟨rfl, HB1⟩
  · obtain ⟨q1, Q1, hq1, iq1, Q10⟩ := qu_any n ra n0 (by omega) lw L HI.out HG.out.2.2.1 HG.out.2.2.2
    obtain ⟨q2, Q2, hq2, iq2, Q20⟩ := qu_any n rb n0 (by omega) lw L HI.out HG.out.2.2.1 HG.out.2.2.2
    have HM : Hid (Q1 ≤ Q2) := qu_mono n0 (by omega) (by omega) HI.out HG.out.2.2.1 HG.out.2.2.2 hq1 hq2 iq1 iq2 Q20
    have HQ : Hid (Qu n ra lw q1 ∧ Is q1 Q1 ∧ Qu n rb lw q2 ∧ Is q2 Q2) := ⟨hq1, iq1, hq2, iq2⟩
    clear hq1 hq2 iq1 iq2 Q10 Q20
    go_enter Try.func9, Try.ntmps9
    go_wp2_with fail
    refine (newVegas_any n w).mono ?_
    rintro e w1 ⟨rfl, HN1⟩
    have hc1 := HN1.out.1
    have HB1 : Hid (Below w.heap.size w w1) := HN1.out.2.1
    clear HN1
    go_wp2_with fail
    refine (zzFollow_any w.heap.size n ra HG.out.1 HG.out.2.1 HG.out.2.2.1 HG.out.2.2.2 n0 (by omega) HQ.out.1 HQ.out.2.1 w1 hc1).mono ?_
    rintro e w' ⟨rfl, rfl⟩
    go_wp2_with fail
    refine (zzFollow_any w.heap.size n rb HG.out.1 HG.out.2.1 HG.out.2.2.1 HG.out.2.2.2 n0 (by omega) HQ.out.2.2.1 HQ.out.2.2.2 w1 hc1).mono ?_
    rintro e w' ⟨rfl, rfl⟩
    clear hc1
    go_wp2_with fail
    refine (digits_any lw L HI.out HG.out.2.2.1 HG.out.2.2.2 w1).mono ?_
    rintro e w' ⟨k, rfl, rfl, hk, HK⟩
    have hd := dig_step HG.out.1 HG.out.2.2.2 hk HK.out.1 HK.out.2
    obtain ⟨m12, tw, x1, y1, z1, x2, y2, z2, y3, z3, Z1, Z2, Z3, bo⟩ := bo_any HG.out.1 HG.out.2.2.1 HG.out.2.2.2 HG.out.2.1 k hk hd.1 hd.2.1
    have HD : Hid (t ≤ 13) := hd.2.2
    clear hd
    have p6 := bo.p6
    have p9 := bo.p9
    rw [fi_eq] at p6 p9
    have v1 := fa_mul (P := Try.prog) bo.p1
    have v2 := fa_add (P := Try.prog) bo.p2
    have v6 := fa_mul (P := Try.prog) p6
    have v7 := fa_add (P := Try.prog) bo.p7
    have v8 := fa_add (P := Try.prog) bo.p8
    have v9 := fa_sub (P := Try.prog) p9
    have va := fa_sub (P := Try.prog) bo.pa
    clear p6 p9
    obtain ⟨R1, hR1⟩ : ∃ R, R = pkV Q1 t al be U6 U1 D1 L := ⟨_, rfl⟩
    have iR1 : Is (pkW Q1 t al be u6w u1w d1w lw) R1 := by rw [hR1]; exact pk_is HG.out.2.1.i6 HG.out.2.1.i1 HG.out.2.1.id HI.out
    have hi1 : R1 ≤ U6 := by rw [hR1]; exact pk_hi HG.out.2.1.m1 HG.out.2.1.m2 HG.out.2.1.m3
    have lo1 : D1 ≤ R1 := by rw [hR1]; exact pk_lo HG.out.2.1.m1 HG.out.2.1.m2 HG.out.2.1.m3
    obtain ⟨R2, hR2⟩ : ∃ R, R = pkV Q2 t al be U6 U1 D1 L := ⟨_, rfl⟩
    have iR2 : Is (pkW Q2 t al be u6w u1w d1w lw) R2 := by rw [hR2]; exact pk_is HG.out.2.1.i6 HG.out.2.1.i1 HG.out.2.1.id HI.out
    have hi2 : R2 ≤ U6 := by rw [hR2]; exact pk_hi HG.out.2.1.m1 HG.out.2.1.m2 HG.out.2.1.m3
    have lo2 : D1 ≤ R2 := by rw [hR2]; exact pk_lo HG.out.2.1.m1 HG.out.2.1.m2 HG.out.2.1.m3
    have h21 : R2 ≤ R1 := by rw [hR1, hR2]; exact pk_mono HM.out HG.out.2.1.m1 HG.out.2.1.m2 HG.out.2.1.m3
    have HU : Hid (ra ≤ n → L_pa ≤ L → L < R1) := by
      intro h hpa
      have hQ0 : Q1 = 0 := by
        rcases HQ.out.1 with ⟨_, hq⟩ | ⟨h', _⟩
        · have := HQ.out.2.1
          rw [hq] at this
          exact this.uniq is_zero
        · omega
      have hr : R1 = U6 := by rw [hR1, hQ0]; unfold pkV; rw [if_pos HG.out.1.nn]
      rw [hr]
      exact grows HG.out.1 HG.out.2.2.1 HG.out.2.2.2 HG.out.2.1 HD.out hpa
    have HDN : Hid (0 < n → n ≤ Int.tdiv rb 2 → 2 ≤ L → R2 < L) := by
      intro h3 h4 h5
      have hQ := qu_half h3 (half_int h3 h4) (by omega) HI.out HG.out.2.2.1 HG.out.2.2.2 HQ.out.2.2.1 HQ.out.2.2.2
      rw [hR2, half_cut HG.out.1 HG.out.2.2.2 HG.out.2.1 h5 hQ]
      exact falls HG.out.1 HG.out.2.2.2 HG.out.2.1 HD.out h5
    clear hR1 hR2
    generalize pkW Q1 t al be u6w u1w d1w lw = rw1 at *
    generalize pkW Q2 t al be u6w u1w d1w lw = rw2 at *
    have c1 := lt_f iR1 iR2 h21
    have c2 := lt_f iR1 bo.i3 (Rat.le_trans bo.h3 lo1)
    have c3 := lt_f iR2 bo.i3 (Rat.le_trans bo.h3 lo2)
    have c4 := gt_f iR1 bo.i2 (Rat.le_trans hi1 bo.h2)
    have c5 := gt_f iR2 bo.i2 (Rat.le_trans hi2 bo.h2)
    have HC : Hid ((L_pa ≤ L → (FloatKind.f64.format.order lw 4607186922399644778 == some .gt || FloatKind.f64.format.order lw 4607186922399644778 == some .eq) = true) ∧ (¬ L_pa ≤ L → (FloatKind.f64.format.order lw 4607186922399644778 == some .gt || FloatKind.f64.format.order lw 4607186922399644778 == some .eq) = false)) := ⟨fun h => ge_t HI.out isL_pa h, fun h => ge_f HI.out isL_pa h⟩
    have HC2 : Hid ((2 ≤ L → (FloatKind.f64.format.order lw 4611686018427387904 == some .gt || FloatKind.f64.format.order lw 4611686018427387904 == some .eq) = true) ∧ (¬ 2 ≤ L → (FloatKind.f64.format.order lw 4611686018427387904 == some .gt || FloatKind.f64.format.order lw 4611686018427387904 == some .eq) = false)) := by
      have i2 : Is 4611686018427387904 2 := by have := is_cTwo; rw [v_two] at this; exact this
      exact ⟨fun h => ge_t HI.out i2 h, fun h => ge_f HI.out i2 h⟩
    have HC3 : Hid (L < R1 → (FloatKind.f64.format.order rw1 lw == some .gt) = true) := fun h => gt_t iR1 HI.out h
    have HC4 : Hid (R2 < L → (FloatKind.f64.format.order rw2 lw == some .lt) = true) := fun h => lt_t iR2 HI.out h
    clear bo iR1 iR2 hi1 hi2 lo1 lo2 h21 HK HQ HG HI HM HD
    by_cases d1 : ra ≤ n
    · by_cases d2 : L_pa ≤ L
      · have e1 := HC.out.1 d2
        have e2 := HC3.out (HU.out d1 d2)
        clear d2
        by_cases d3 : 0 < n
        · by_cases d4 : n ≤ Int.tdiv rb 2
          · have da : n ≤ wrap64 (Int.tdiv rb 2) := by rw [tdiv_wrap rb0 rb1]; exact d4
            have db : n ≤ rb / 2 := by have := half_int d3 d4; omega
            by_cases d5 : 2 ≤ L
            · have f1 := HC2.out.1 d5
              have f2 := HC4.out (HDN.out d3 d4 d5)
              clear d4 d5
              go_wp2_with fail
              go_ret
              exact ⟨rfl, HB1⟩
            · have f1 := HC2.out.2 d5
              clear d4 d5
              go_wp2_with fail
              go_ret
              exact ⟨rfl, HB1⟩
          · have da : wrap64 (Int.tdiv rb 2) < n := by rw [tdiv_wrap rb0 rb1]; omega
            have dc : Int.tdiv rb 2 < n := by omega
            by_cases d6 : 0 ≤ rb
            · have db : rb / 2 < n := by rw [← Int.tdiv_eq_ediv_of_nonneg d6]; omega
              clear d4
              go_wp2_with fail
              go_ret
              exact ⟨rfl, HB1⟩
            · clear d4
              go_wp2_with fail
              go_ret
              exact ⟨rfl, HB1⟩
        · go_wp2_with fail
          go_ret
          exact ⟨rfl, HB1⟩
      · have e1 := HC.out.2 d2
        clear d2
        by_cases d3 : 0 < n
        · by_cases d4 : n ≤ Int.tdiv rb 2
          · have da : n ≤ wrap64 (Int.tdiv rb 2) := by rw [tdiv_wrap rb0 rb1]; exact d4
            have db : n ≤ rb / 2 := by have := half_int d3 d4; omega
            by_cases d5 : 2 ≤ L
            · have f1 := HC2.out.1 d5
              have f2 := HC4.out (HDN.out d3 d4 d5)
              clear d4 d5
              go_wp2_with fail
              go_ret
              exact ⟨rfl, HB1⟩
            · have f1 := HC2.out.2 d5
              clear d4 d5
              go_wp2_with fail
              go_ret
              exact ⟨rfl, HB1⟩
          · have da : wrap64 (Int.tdiv rb 2) < n := by rw [tdiv_wrap rb0 rb1]; omega
            have dc : Int.tdiv rb 2 < n := by omega
            by_cases d6 : 0 ≤ rb
            · have db : rb / 2 < n := by rw [← Int.tdiv_eq_ediv_of_nonneg d6]; omega
              clear d4
              go_wp2_with fail
              go_ret
              exact ⟨rfl, HB1⟩
            · clear d4
              go_wp2_with fail
              go_ret
              exact ⟨rfl, HB1⟩
        · go_wp2_with fail
          go_ret
          exact ⟨rfl, HB1⟩
    · by_cases d3 : 0 < n
      · by_cases d4 : n ≤ Int.tdiv rb 2
        · have da : n ≤ wrap64 (Int.tdiv rb 2) := by rw [tdiv_wrap rb0 rb1]; exact d4
          have db : n ≤ rb / 2 := by have := half_int d3 d4; omega
          by_cases d5 : 2 ≤ L
          · have f1 := HC2.out.1 d5
            have f2 := HC4.out (HDN.out d3 d4 d5)
            clear d4 d5
            go_wp2_with fail
            go_ret
            exact ⟨rfl, HB1⟩
          · have f1 := HC2.out.2 d5
            clear d4 d5
            go_wp2_with fail
            go_ret
            exact ⟨rfl, HB1⟩
        · have da : wrap64 (Int.tdiv rb 2) < n := by rw [tdiv_wrap rb0 rb1]; omega
          have dc : Int.tdiv rb 2 < n := by omega
          have d6 : 0 ≤ rb := by omega
          have db : rb / 2 < n := by rw [← Int.tdiv_eq_ediv_of_nonneg d6]; omega
          clear d4
          go_wp2_with fail
          go_ret
          exact ⟨rfl, HB1⟩
      · go_wp2_with fail
        go_ret
        exact ⟨rfl, HB1⟩

set_option maxRecDepth 100000 in
set_option maxHeartbeats 8000000 in
theorem law9_any (n ra rb : Int) (lw : Nat) (w : World) (n1 : n < 9223372036854775808) (ra1 : ra < 9223372036854775808) (rb1 : rb < 9223372036854775808) (ra0 : -9223372036854775808 ≤ ra) (rb0 : -9223372036854775808 ≤ rb) (hw : lw < 18446744073709551616) : Calls Try.prog 9 #[.int .i64 n, .float .f64 lw, .int .i64 ra, .int .i64 rb] w (LwP w) := by
  by_cases a1 : n < 0
  · go_enter Try.func9, Try.ntmps9
    go_wp2_with fail
    go_ret
    exact ⟨rfl, Below.refl _ _⟩
  cases b1 : (FloatKind.f64.format.order lw 4607182418800017408 == some .gt || FloatKind.f64.format.order lw 4607182418800017408 == some .eq)
  · go_enter Try.func9, Try.ntmps9
    go_wp2_with fail
    go_ret
    exact ⟨rfl, Below.refl _ _⟩
  cases b2 : (FloatKind.f64.format.order lw 4786511204640096256 == some .lt || FloatKind.f64.format.order lw 4786511204640096256 == some .eq)
  · go_enter Try.func9, Try.ntmps9
    go_wp2_with fail
    go_ret
    exact ⟨rfl, Below.refl _ _⟩
  exact law9_main n ra rb lw w (by omega) n1 ra1 rb1 ra0 rb0 hw b1 b2

end Go.Proofs.Qxb6616692a
