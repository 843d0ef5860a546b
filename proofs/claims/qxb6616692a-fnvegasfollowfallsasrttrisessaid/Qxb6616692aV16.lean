import Derived.Test.Qxb6616692aV15
namespace Go.Proofs.Qxb6616692a
open Ieee Go.RowKit

theorem le_b {x y : Nat} {a b : Rat} (hx : Is x a) (hy : Is y b) : (FloatKind.f64.format.order x y == some .lt || FloatKind.f64.format.order x y == some .eq) = decide (a ≤ b) := by
  rw [show FloatKind.f64.format.order x y = _ from ord_spec hx hy]
  by_cases h : a < b
  · rw [if_pos h, decide_eq_true (Rat.le_of_lt h)]; rfl
  · rw [if_neg h]
    by_cases h2 : a = b
    · rw [if_pos h2, decide_eq_true (by grind)]; rfl
    · rw [if_neg h2, decide_eq_false (by grind)]; rfl
theorem ge_b {x y : Nat} {a b : Rat} (hx : Is x a) (hy : Is y b) : (FloatKind.f64.format.order x y == some .gt || FloatKind.f64.format.order x y == some .eq) = decide (b ≤ a) := by
  rw [show FloatKind.f64.format.order x y = _ from ord_spec hx hy]
  by_cases h : a < b
  · rw [if_pos h, decide_eq_false (by grind)]; rfl
  · rw [if_neg h]
    by_cases h2 : a = b
    · rw [if_pos h2, decide_eq_true (by grind)]; rfl
    · rw [if_neg h2, decide_eq_true (by grind)]; rfl
theorem lt_b {x y : Nat} {a b : Rat} (hx : Is x a) (hy : Is y b) : (FloatKind.f64.format.order x y == some .lt) = decide (a < b) := by
  rw [show FloatKind.f64.format.order x y = _ from ord_spec hx hy]
  by_cases h : a < b
  · rw [if_pos h, decide_eq_true h]; rfl
  · rw [if_neg h]
    by_cases h2 : a = b
    · rw [if_pos h2, decide_eq_false h]; rfl
    · rw [if_neg h2, decide_eq_false h]; rfl
theorem gt_b {x y : Nat} {a b : Rat} (hx : Is x a) (hy : Is y b) : (FloatKind.f64.format.order x y == some .gt) = decide (b < a) := by
  rw [show FloatKind.f64.format.order x y = _ from ord_spec hx hy]
  by_cases h : a < b
  · rw [if_pos h, decide_eq_false (by grind)]; rfl
  · rw [if_neg h]
    by_cases h2 : a = b
    · rw [if_pos h2, decide_eq_false (by grind)]; rfl
    · rw [if_neg h2, decide_eq_true (by grind)]; rfl
theorem eq_b {x y : Nat} {a b : Rat} (hx : Is x a) (hy : Is y b) : (FloatKind.f64.format.order x y == some .eq) = decide (a = b) := by
  rw [show FloatKind.f64.format.order x y = _ from ord_spec hx hy]
  by_cases h : a < b
  · rw [if_pos h, decide_eq_false (by grind)]; rfl
  · rw [if_neg h]
    by_cases h2 : a = b
    · rw [if_pos h2, decide_eq_true h2]; rfl
    · rw [if_neg h2, decide_eq_false h2]; rfl

theorem min_run {P : Program} {x y : Nat} {a b : Rat} (hx : Is x a) (hy : Is y b) (w : World) : (Builtin.min_ #[23, 23] 23 #[.float .f64 x, .float .f64 y]).run P w = .ok (.float .f64 (minW x y)) w := by
  have h := ord_spec hx hy
  have h' : FloatKind.f64.format.order x y = _ := h
  unfold minW
  rw [h]
  by_cases h1 : a < b
  · rw [if_pos h1] at h' ⊢
    simp [Builtin.min_, Builtin.min2, h']
  · rw [if_neg h1] at h' ⊢
    by_cases h2 : a = b
    · rw [if_pos h2] at h' ⊢
      simp [Builtin.min_, Builtin.min2, h']
      rfl
    · rw [if_neg h2] at h' ⊢
      simp [Builtin.min_, Builtin.min2, h']

set_option maxRecDepth 100000 in
set_option maxHeartbeats 8000000 in
theorem follow_any (V : Nat) (n r : Int) {lw sw qw : Nat} {L t Q : Rat} {a3w a20w b6w b10w u6w u1w d1w : Nat} {al be U6 U1 D1 b6 : Rat} (hs : Step lw L sw t) (g : Fo lw sw L t a3w a20w b6w b10w u6w u1w d1w al be U6 U1 D1 b6) (L1 : 1 ≤ L) (L2 : L ≤ 1000000000000)
    (hn : 0 ≤ n) (hr : r < 9223372036854775808) (hq : Qu n r lw qw) (iq : Is qw Q) (w : World) (hc : w.cell? ⟨V, 147, none⟩ = some (.int .i64 n)) : Calls Try.prog 30 #[.pointer (some ⟨V, 0, none⟩), .float .f64 lw, .int .i64 r] w (FlP (pkW Q t al be u6w u1w d1w lw) w) := by
  have k1 := fun w => run_float_arith (P := Try.prog) w .mul 23 .f64 4613937818241073152 sw a3w g.e1
  have k2 := fun w => run_float_arith (P := Try.prog) w .quo 23 .f64 lw 4626322717216342016 a20w g.e2
  have k3 := fun w => run_float_arith (P := Try.prog) w .mul 23 .f64 4618441417868443648 sw b6w g.e3
  have k4 := fun w => run_float_arith (P := Try.prog) w .quo 23 .f64 lw 4621819117588971520 b10w g.e4
  have k5 := fun w => run_float_arith (P := Try.prog) w .add 23 .f64 lw b6w u6w g.e5
  have k6 := fun w => run_float_arith (P := Try.prog) w .add 23 .f64 lw sw u1w g.e6
  have k7 := fun w => run_float_arith (P := Try.prog) w .sub 23 .f64 lw sw d1w g.e7
  obtain ⟨x3, j3⟩ := g.j3
  obtain ⟨x20, j20⟩ := g.j20
  obtain ⟨x6, j6⟩ := g.j6
  obtain ⟨x10, j10⟩ := g.j10
  have k8 := fun w => min_run (P := Try.prog) j3 j20 w
  have k9 := fun w => min_run (P := Try.prog) j6 j10 w
  have b1 := le_b iq g.is
  have b2 := lt_b iq g.ial
  have b3 := gt_b iq g.ibe
  have HS : Hid _ := hs
  rcases hq with ⟨h, rfl⟩ | ⟨h, dw, ew, mw, e1, e2, e3, rfl⟩
  · clear hs g j3 j20 j6 j10 iq L1 L2
    by_cases c1 : Q ≤ t
    · rw [decide_eq_true c1] at b1
      have C1 : Hid _ := c1
      clear c1 b2 b3
      go_enter Try.func30, Try.ntmps30
      go_wp2_with fail
      refine (log10_any HS.out w).mono ?_
      rintro e w' ⟨rfl, rfl⟩
      go_wp2_with fail
      go_ret
      exact ⟨by unfold pkW; rw [if_pos C1.out]; rfl, rfl⟩
    rw [decide_eq_false c1] at b1
    by_cases c2 : Q < al
    · rw [decide_eq_true c2] at b2
      have C1 : Hid _ := c1
      have C2 : Hid _ := c2
      clear c1 c2 b3
      go_enter Try.func30, Try.ntmps30
      go_wp2_with fail
      refine (log10_any HS.out w).mono ?_
      rintro e w' ⟨rfl, rfl⟩
      go_wp2_with fail
      go_ret
      exact ⟨by unfold pkW; rw [if_neg C1.out, if_pos C2.out]; rfl, rfl⟩
    rw [decide_eq_false c2] at b2
    by_cases c3 : be < Q
    · rw [decide_eq_true c3] at b3
      have C1 : Hid _ := c1
      have C2 : Hid _ := c2
      have C3 : Hid _ := c3
      clear c1 c2 c3
      go_enter Try.func30, Try.ntmps30
      go_wp2_with fail
      refine (log10_any HS.out w).mono ?_
      rintro e w' ⟨rfl, rfl⟩
      go_wp2_with fail
      go_ret
      exact ⟨by unfold pkW; rw [if_neg C1.out, if_neg C2.out, if_pos C3.out]; rfl, rfl⟩
    · rw [decide_eq_false c3] at b3
      have C1 : Hid _ := c1
      have C2 : Hid _ := c2
      have C3 : Hid _ := c3
      clear c1 c2 c3
      go_enter Try.func30, Try.ntmps30
      go_wp2_with fail
      refine (log10_any HS.out w).mono ?_
      rintro e w' ⟨rfl, rfl⟩
      go_wp2_with fail
      go_ret
      exact ⟨by unfold pkW; rw [if_neg C1.out, if_neg C2.out, if_neg C3.out]; rfl, rfl⟩
  · have ka := fun w => run_float_arith (P := Try.prog) w .quo 23 .f64 (floatOfInt .f64 n) (floatOfInt .f64 r) dw e1
    have kb := fun w => run_float_arith (P := Try.prog) w .sub 23 .f64 4607182418800017408 dw ew e2
    have kc := fun w => run_float_arith (P := Try.prog) w .mul 23 .f64 lw ew mw e3
    obtain ⟨A, B, q, d, e, m, dw', ew', mw', N, gd⟩ := qd_any n r hn h hr lw L g.il L1 L2
    obtain rfl : mw' = mw := by
      have h1 := gd.e1
      rw [e1] at h1
      cases h1
      have h2 := gd.e2
      rw [e2] at h2
      cases h2
      have h3 := gd.e3
      rw [e3] at h3
      cases h3
      rfl
    have HM : Hid (Is mw' m) := gd.im
    clear gd e1 e2 e3 hs g j3 j20 j6 j10 iq L1 L2
    by_cases c1 : Q ≤ t
    · rw [decide_eq_true c1] at b1
      have C1 : Hid _ := c1
      clear c1 b2 b3
      go_enter Try.func30, Try.ntmps30
      go_wp2_with fail
      refine (ceil_any mw' m HM.out w).mono ?_
      rintro e w' ⟨rfl, rfl⟩
      go_wp2_with fail
      refine (log10_any HS.out w).mono ?_
      rintro e w' ⟨rfl, rfl⟩
      go_wp2_with fail
      go_ret
      exact ⟨by unfold pkW; rw [if_pos C1.out]; rfl, rfl⟩
    rw [decide_eq_false c1] at b1
    by_cases c2 : Q < al
    · rw [decide_eq_true c2] at b2
      have C1 : Hid _ := c1
      have C2 : Hid _ := c2
      clear c1 c2 b3
      go_enter Try.func30, Try.ntmps30
      go_wp2_with fail
      refine (ceil_any mw' m HM.out w).mono ?_
      rintro e w' ⟨rfl, rfl⟩
      go_wp2_with fail
      refine (log10_any HS.out w).mono ?_
      rintro e w' ⟨rfl, rfl⟩
      go_wp2_with fail
      go_ret
      exact ⟨by unfold pkW; rw [if_neg C1.out, if_pos C2.out]; rfl, rfl⟩
    rw [decide_eq_false c2] at b2
    by_cases c3 : be < Q
    · rw [decide_eq_true c3] at b3
      have C1 : Hid _ := c1
      have C2 : Hid _ := c2
      have C3 : Hid _ := c3
      clear c1 c2 c3
      go_enter Try.func30, Try.ntmps30
      go_wp2_with fail
      refine (ceil_any mw' m HM.out w).mono ?_
      rintro e w' ⟨rfl, rfl⟩
      go_wp2_with fail
      refine (log10_any HS.out w).mono ?_
      rintro e w' ⟨rfl, rfl⟩
      go_wp2_with fail
      go_ret
      exact ⟨by unfold pkW; rw [if_neg C1.out, if_neg C2.out, if_pos C3.out]; rfl, rfl⟩
    · rw [decide_eq_false c3] at b3
      have C1 : Hid _ := c1
      have C2 : Hid _ := c2
      have C3 : Hid _ := c3
      clear c1 c2 c3
      go_enter Try.func30, Try.ntmps30
      go_wp2_with fail
      refine (ceil_any mw' m HM.out w).mono ?_
      rintro e w' ⟨rfl, rfl⟩
      go_wp2_with fail
      refine (log10_any HS.out w).mono ?_
      rintro e w' ⟨rfl, rfl⟩
      go_wp2_with fail
      go_ret
      exact ⟨by unfold pkW; rw [if_neg C1.out, if_neg C2.out, if_neg C3.out]; rfl, rfl⟩


set_option maxHeartbeats 1000000 in
theorem zzFollow_any (V : Nat) (n r : Int) {lw sw qw : Nat} {L t Q : Rat} {a3w a20w b6w b10w u6w u1w d1w : Nat} {al be U6 U1 D1 b6 : Rat} (hs : Step lw L sw t) (g : Fo lw sw L t a3w a20w b6w b10w u6w u1w d1w al be U6 U1 D1 b6) (L1 : 1 ≤ L) (L2 : L ≤ 1000000000000)
    (hn : 0 ≤ n) (hr : r < 9223372036854775808) (hq : Qu n r lw qw) (iq : Is qw Q) (w : World) (hc : w.cell? ⟨V, 147, none⟩ = some (.int .i64 n)) : Calls Try.prog 22 #[.pointer (some ⟨V, 0, none⟩), .float .f64 lw, .int .i64 r] w (FlP (pkW Q t al be u6w u1w d1w lw) w) := by
  have HF : Hid (Calls Try.prog 30 #[.pointer (some ⟨V, 0, none⟩), .float .f64 lw, .int .i64 r] w (FlP (pkW Q t al be u6w u1w d1w lw) w)) := follow_any V n r hs g L1 L2 hn hr hq iq w hc
  clear hs g L1 L2 hq iq hc
  go_enter Try.func22, Try.ntmps22
  go_wp2_with fail
  refine HF.out.mono ?_
  rintro e w' ⟨rfl, rfl⟩
  go_wp2_with fail
  go_ret
  exact ⟨rfl, rfl⟩

/-- What newVegas leaves. -/
def NvP (n : Int) (w : World) (e : Ending) (w' : World) : Prop := e = .returned (.pointer (some ⟨w.heap.size, 0, none⟩)) ∧ Hid (w'.cell? ⟨w.heap.size, 147, none⟩ = some (.int .i64 n) ∧ Below w.heap.size w w' ∧ w.heap.size < w'.heap.size)

set_option maxRecDepth 100000 in
set_option maxHeartbeats 4000000 in
theorem newVegas_any (n : Int) (w : World) : Calls Try.prog 21 #[.int .i64 n] w (NvP n w) := by
  go_enter Try.func21, Try.ntmps21
  go_wp2_with fail
  go_ret
  have hz : Try.zeroCells97.size = 151 := by kernel_rfl
  refine ⟨rfl, ?_, (Below.refl _ _).alloc (Nat.le_refl _) _, by simp⟩
  unfold World.cell?
  rw [heap_alloc_new]
  simp [hz]

/-- The word of 10^(k+1). -/
def pw : Nat → Nat
  | 0 => 4621819117588971520
  | 1 => 4636737291354636288
  | 2 => 4652007308841189376
  | 3 => 4666723172467343360
  | 4 => 4681608360884174848
  | 5 => 4696837146684686336
  | 6 => 4711630319722168320
  | 7 => 4726483295884279808
  | 8 => 4741671816366391296
  | 9 => 4756540486875873280
  | 10 => 4771362005757984768
  | 11 => 4786511204640096256
  | 12 => 4801453603149578240
  | _ => 4816244402031689728
theorem pw_is (k : Nat) (h : k ≤ 12) : Is (pw k) ((10^(k+1) : Nat):Rat) := by
  rcases (show k = 0 ∨ k = 1 ∨ k = 2 ∨ k = 3 ∨ k = 4 ∨ k = 5 ∨ k = 6 ∨ k = 7 ∨ k = 8 ∨ k = 9 ∨ k = 10 ∨ k = 11 ∨ k = 12 by omega) with rfl | rfl | rfl | rfl | rfl | rfl | rfl | rfl | rfl | rfl | rfl | rfl | rfl
  · exact ⟨false, 5629499534213120, -49, by decide, by decide, by decide, by decide +kernel⟩
  · exact ⟨false, 7036874417766400, -46, by decide, by decide, by decide, by decide +kernel⟩
  · exact ⟨false, 8796093022208000, -43, by decide, by decide, by decide, by decide +kernel⟩
  · exact ⟨false, 5497558138880000, -39, by decide, by decide, by decide, by decide +kernel⟩
  · exact ⟨false, 6871947673600000, -36, by decide, by decide, by decide, by decide +kernel⟩
  · exact ⟨false, 8589934592000000, -33, by decide, by decide, by decide, by decide +kernel⟩
  · exact ⟨false, 5368709120000000, -29, by decide, by decide, by decide, by decide +kernel⟩
  · exact ⟨false, 6710886400000000, -26, by decide, by decide, by decide, by decide +kernel⟩
  · exact ⟨false, 8388608000000000, -23, by decide, by decide, by decide, by decide +kernel⟩
  · exact ⟨false, 5242880000000000, -19, by decide, by decide, by decide, by decide +kernel⟩
  · exact ⟨false, 6553600000000000, -16, by decide, by decide, by decide, by decide +kernel⟩
  · exact ⟨false, 8192000000000000, -13, by decide, by decide, by decide, by decide +kernel⟩
  · exact ⟨false, 5120000000000000, -9, by decide, by decide, by decide, by decide +kernel⟩
theorem pw_mul (k : Nat) (h : k < 12) : double.mul (pw k) 4621819117588971520 = some (pw (k+1)) := by
  rcases (show k = 0 ∨ k = 1 ∨ k = 2 ∨ k = 3 ∨ k = 4 ∨ k = 5 ∨ k = 6 ∨ k = 7 ∨ k = 8 ∨ k = 9 ∨ k = 10 ∨ k = 11 by omega) with rfl | rfl | rfl | rfl | rfl | rfl | rfl | rfl | rfl | rfl | rfl | rfl <;> decide +kernel

/-- What zzDigits answers. -/
def DgP (L : Rat) (w : World) (e : Ending) (w' : World) : Prop := ∃ k : Nat, e = .returned (.int .i64 (k:Int)) ∧ w = w' ∧ k ≤ 12 ∧ Hid (((10^k : Nat):Rat) ≤ L ∧ L < ((10^(k+1) : Nat):Rat))

set_option maxRecDepth 100000 in
set_option maxHeartbeats 4000000 in
theorem digits_any (lw : Nat) (L : Rat) (hl : Is lw L) (L1 : 1 ≤ L) (L2 : L ≤ 1000000000000) (w : World) : Calls Try.prog 23 #[.float .f64 lw] w (DgP L w) := by
  have HL : Hid (Is lw L ∧ L ≤ 1000000000000) := ⟨hl, L2⟩
  have H0 : Hid (((10^0 : Nat):Rat) ≤ L) := by
    show ((1:Nat):Rat) ≤ L
    exact L1
  clear hl L1 L2
  go_enter Try.func23, Try.ntmps23
  go_wp2_with fail
  go_loop [3, 4] (fun i p => ∃ k : Nat, k ≤ 12 ∧ i = .int .i64 k ∧ p = .float .f64 (pw k) ∧ Hid (((10^k : Nat):Rat) ≤ L)) (fun i _ => 13 - (intOf i).toNat)
  case atStart => exact ⟨0, by omega, rfl, rfl, H0⟩
  case round =>
  obtain ⟨k, hk, rfl, rfl, HK⟩ := hrel
  have b := le_b (pw_is k hk) HL.out.1
  by_cases h : ((10^(k+1) : Nat):Rat) ≤ L
  · rw [decide_eq_true h] at b
    have hk12 : k < 12 := by
      rcases Nat.lt_or_ge k 12 with h' | h'
      · exact h'
      · exfalso
        obtain rfl : k = 12 := by omega
        have h1 := HL.out.2
        have e : ((10^(12+1) : Nat):Rat) = 10000000000000 := by decide +kernel
        rw [e] at h
        grind
    have hm := fun w => run_float_arith (P := Try.prog) w .mul 23 .f64 (pw k) 4621819117588971520 (pw (k+1)) (pw_mul k hk12)
    have HH : Hid _ := h
    clear h
    go_wp2_with fail
    exact ⟨⟨k + 1, by omega, by go_num, rfl, HH⟩, by simp [intOf]; omega⟩
  · rw [decide_eq_false h] at b
    have HH : Hid _ := h
    clear h
    go_wp2_with fail
    go_ret
    refine ⟨k, rfl, rfl, hk, HK.out, ?_⟩
    have := HH.out
    grind

end Go.Proofs.Qxb6616692a
