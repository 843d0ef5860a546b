import Derived.Test.Qxb6616692aV9
namespace Go.Proofs.Qxb6616692a
open Ieee

def c10 : Rat := ((7823553867474190:Rat) * 2^(-54:Int))
theorem is_c10 : Is 4601495173785380110 c10 := ⟨false, 7823553867474190, -54, by decide, by decide, by decide, by unfold c10 sg; simp⟩
theorem b_c10 : (43429/100000:Rat) ≤ c10 ∧ c10 ≤ 4343/10000 := by constructor <;> decide +kernel

/-- What is known at one point: the logarithm's word there is 'lit'. -/
theorem pt {y lit : Nat} {Ly l : Rat} (hy1 : 4607182418800017408 ≤ y) (hy2 : y ≤ 4786511204640096256) (hL : Is y Ly) (hl : Is lit l)
    (h : ∀ (P : Program) (w : World), (Extern.MathLog.archLog #[.float .f64 y]).run P w = .ok (.float .f64 lit) w) : ∃ k F f S, Lg y Ly lit l k F f S := by
  obtain ⟨L, res, l', k, F, f, S, g⟩ := log_any y hy1 hy2
  have h1 := g.run default default
  rw [h default default] at h1
  have h2 : lit = res := by
    injection h1 with h1
    injection h1
  subst h2
  obtain rfl := hL.uniq g.isx
  obtain rfl := hl.uniq g.isr
  exact ⟨k, F, f, S, g⟩

def L_p0 : Rat := ((4503599627370496:Rat) * 2^(-52:Int))
def l_p0 : Rat := ((0:Rat) * 2^(-1074:Int))
theorem isL_p0 : Is 4607182418800017408 L_p0 := ⟨false, 4503599627370496, -52, by decide, by decide, by decide, by unfold L_p0 sg; simp⟩
set_option exponentiation.threshold 2000 in
theorem isl_p0 : Is 0 l_p0 := ⟨false, 0, -1074, by decide, by decide, by decide, by unfold l_p0 sg; simp⟩
theorem run_p0 (P : Program) (w : World) : (Extern.MathLog.archLog #[.float .f64 4607182418800017408]).run P w = .ok (.float .f64 0) w := by kernel_rfl
theorem pt_p0 : ∃ k F f S, Lg 4607182418800017408 L_p0 0 l_p0 k F f S := pt (by decide) (by decide) isL_p0 isl_p0 run_p0
def L_p1 : Rat := ((5629499534213120:Rat) * 2^(-49:Int))
def l_p1 : Rat := ((5184960683398422:Rat) * 2^(-51:Int))
theorem isL_p1 : Is 4621819117588971520 L_p1 := ⟨false, 5629499534213120, -49, by decide, by decide, by decide, by unfold L_p1 sg; simp⟩
theorem isl_p1 : Is 4612367379483415830 l_p1 := ⟨false, 5184960683398422, -51, by decide, by decide, by decide, by unfold l_p1 sg; simp⟩
theorem run_p1 (P : Program) (w : World) : (Extern.MathLog.archLog #[.float .f64 4621819117588971520]).run P w = .ok (.float .f64 4612367379483415830) w := by kernel_rfl
theorem pt_p1 : ∃ k F f S, Lg 4621819117588971520 L_p1 4612367379483415830 l_p1 k F f S := pt (by decide) (by decide) isL_p1 isl_p1 run_p1
def L_p2 : Rat := ((7036874417766400:Rat) * 2^(-46:Int))
def l_p2 : Rat := ((5184960683398422:Rat) * 2^(-50:Int))
theorem isL_p2 : Is 4636737291354636288 L_p2 := ⟨false, 7036874417766400, -46, by decide, by decide, by decide, by unfold L_p2 sg; simp⟩
theorem isl_p2 : Is 4616870979110786326 l_p2 := ⟨false, 5184960683398422, -50, by decide, by decide, by decide, by unfold l_p2 sg; simp⟩
theorem run_p2 (P : Program) (w : World) : (Extern.MathLog.archLog #[.float .f64 4636737291354636288]).run P w = .ok (.float .f64 4616870979110786326) w := by kernel_rfl
theorem pt_p2 : ∃ k F f S, Lg 4636737291354636288 L_p2 4616870979110786326 l_p2 k F f S := pt (by decide) (by decide) isL_p2 isl_p2 run_p2
def L_p3 : Rat := ((8796093022208000:Rat) * 2^(-43:Int))
def l_p3 : Rat := ((7777441025097632:Rat) * 2^(-50:Int))
theorem isL_p3 : Is 4652007308841189376 L_p3 := ⟨false, 8796093022208000, -43, by decide, by decide, by decide, by unfold L_p3 sg; simp⟩
theorem isl_p3 : Is 4619463459452485536 l_p3 := ⟨false, 7777441025097632, -50, by decide, by decide, by decide, by unfold l_p3 sg; simp⟩
theorem run_p3 (P : Program) (w : World) : (Extern.MathLog.archLog #[.float .f64 4652007308841189376]).run P w = .ok (.float .f64 4619463459452485536) w := by kernel_rfl
theorem pt_p3 : ∃ k F f S, Lg 4652007308841189376 L_p3 4619463459452485536 l_p3 k F f S := pt (by decide) (by decide) isL_p3 isl_p3 run_p3
def L_p4 : Rat := ((5497558138880000:Rat) * 2^(-39:Int))
def l_p4 : Rat := ((5184960683398422:Rat) * 2^(-49:Int))
theorem isL_p4 : Is 4666723172467343360 L_p4 := ⟨false, 5497558138880000, -39, by decide, by decide, by decide, by unfold L_p4 sg; simp⟩
theorem isl_p4 : Is 4621374578738156822 l_p4 := ⟨false, 5184960683398422, -49, by decide, by decide, by decide, by unfold l_p4 sg; simp⟩
theorem run_p4 (P : Program) (w : World) : (Extern.MathLog.archLog #[.float .f64 4666723172467343360]).run P w = .ok (.float .f64 4621374578738156822) w := by kernel_rfl
theorem pt_p4 : ∃ k F f S, Lg 4666723172467343360 L_p4 4621374578738156822 l_p4 k F f S := pt (by decide) (by decide) isL_p4 isl_p4 run_p4
def L_p5 : Rat := ((6871947673600000:Rat) * 2^(-36:Int))
def l_p5 : Rat := ((6481200854248027:Rat) * 2^(-49:Int))
theorem isL_p5 : Is 4681608360884174848 L_p5 := ⟨false, 6871947673600000, -36, by decide, by decide, by decide, by unfold L_p5 sg; simp⟩
theorem isl_p5 : Is 4622670818909006427 l_p5 := ⟨false, 6481200854248027, -49, by decide, by decide, by decide, by unfold l_p5 sg; simp⟩
theorem run_p5 (P : Program) (w : World) : (Extern.MathLog.archLog #[.float .f64 4681608360884174848]).run P w = .ok (.float .f64 4622670818909006427) w := by kernel_rfl
theorem pt_p5 : ∃ k F f S, Lg 4681608360884174848 L_p5 4622670818909006427 l_p5 k F f S := pt (by decide) (by decide) isL_p5 isl_p5 run_p5
def L_p6 : Rat := ((8589934592000000:Rat) * 2^(-33:Int))
def l_p6 : Rat := ((7777441025097632:Rat) * 2^(-49:Int))
theorem isL_p6 : Is 4696837146684686336 L_p6 := ⟨false, 8589934592000000, -33, by decide, by decide, by decide, by unfold L_p6 sg; simp⟩
theorem isl_p6 : Is 4623967059079856032 l_p6 := ⟨false, 7777441025097632, -49, by decide, by decide, by decide, by unfold l_p6 sg; simp⟩
theorem run_p6 (P : Program) (w : World) : (Extern.MathLog.archLog #[.float .f64 4696837146684686336]).run P w = .ok (.float .f64 4623967059079856032) w := by kernel_rfl
theorem pt_p6 : ∃ k F f S, Lg 4696837146684686336 L_p6 4623967059079856032 l_p6 k F f S := pt (by decide) (by decide) isL_p6 isl_p6 run_p6
def L_p7 : Rat := ((5368709120000000:Rat) * 2^(-29:Int))
def l_p7 : Rat := ((4536840597973619:Rat) * 2^(-48:Int))
theorem isL_p7 : Is 4711630319722168320 L_p7 := ⟨false, 5368709120000000, -29, by decide, by decide, by decide, by unfold L_p7 sg; simp⟩
theorem isl_p7 : Is 4625230058280102515 l_p7 := ⟨false, 4536840597973619, -48, by decide, by decide, by decide, by unfold l_p7 sg; simp⟩
theorem run_p7 (P : Program) (w : World) : (Extern.MathLog.archLog #[.float .f64 4711630319722168320]).run P w = .ok (.float .f64 4625230058280102515) w := by kernel_rfl
theorem pt_p7 : ∃ k F f S, Lg 4711630319722168320 L_p7 4625230058280102515 l_p7 k F f S := pt (by decide) (by decide) isL_p7 isl_p7 run_p7
def L_p8 : Rat := ((6710886400000000:Rat) * 2^(-26:Int))
def l_p8 : Rat := ((5184960683398422:Rat) * 2^(-48:Int))
theorem isL_p8 : Is 4726483295884279808 L_p8 := ⟨false, 6710886400000000, -26, by decide, by decide, by decide, by unfold L_p8 sg; simp⟩
theorem isl_p8 : Is 4625878178365527318 l_p8 := ⟨false, 5184960683398422, -48, by decide, by decide, by decide, by unfold l_p8 sg; simp⟩
theorem run_p8 (P : Program) (w : World) : (Extern.MathLog.archLog #[.float .f64 4726483295884279808]).run P w = .ok (.float .f64 4625878178365527318) w := by kernel_rfl
theorem pt_p8 : ∃ k F f S, Lg 4726483295884279808 L_p8 4625878178365527318 l_p8 k F f S := pt (by decide) (by decide) isL_p8 isl_p8 run_p8
def L_p9 : Rat := ((8388608000000000:Rat) * 2^(-23:Int))
def l_p9 : Rat := ((5833080768823224:Rat) * 2^(-48:Int))
theorem isL_p9 : Is 4741671816366391296 L_p9 := ⟨false, 8388608000000000, -23, by decide, by decide, by decide, by unfold L_p9 sg; simp⟩
theorem isl_p9 : Is 4626526298450952120 l_p9 := ⟨false, 5833080768823224, -48, by decide, by decide, by decide, by unfold l_p9 sg; simp⟩
theorem run_p9 (P : Program) (w : World) : (Extern.MathLog.archLog #[.float .f64 4741671816366391296]).run P w = .ok (.float .f64 4626526298450952120) w := by kernel_rfl
theorem pt_p9 : ∃ k F f S, Lg 4741671816366391296 L_p9 4626526298450952120 l_p9 k F f S := pt (by decide) (by decide) isL_p9 isl_p9 run_p9
def L_p10 : Rat := ((5242880000000000:Rat) * 2^(-19:Int))
def l_p10 : Rat := ((6481200854248027:Rat) * 2^(-48:Int))
theorem isL_p10 : Is 4756540486875873280 L_p10 := ⟨false, 5242880000000000, -19, by decide, by decide, by decide, by unfold L_p10 sg; simp⟩
theorem isl_p10 : Is 4627174418536376923 l_p10 := ⟨false, 6481200854248027, -48, by decide, by decide, by decide, by unfold l_p10 sg; simp⟩
theorem run_p10 (P : Program) (w : World) : (Extern.MathLog.archLog #[.float .f64 4756540486875873280]).run P w = .ok (.float .f64 4627174418536376923) w := by kernel_rfl
theorem pt_p10 : ∃ k F f S, Lg 4756540486875873280 L_p10 4627174418536376923 l_p10 k F f S := pt (by decide) (by decide) isL_p10 isl_p10 run_p10
def L_p11 : Rat := ((6553600000000000:Rat) * 2^(-16:Int))
def l_p11 : Rat := ((7129320939672830:Rat) * 2^(-48:Int))
theorem isL_p11 : Is 4771362005757984768 L_p11 := ⟨false, 6553600000000000, -16, by decide, by decide, by decide, by unfold L_p11 sg; simp⟩
theorem isl_p11 : Is 4627822538621801726 l_p11 := ⟨false, 7129320939672830, -48, by decide, by decide, by decide, by unfold l_p11 sg; simp⟩
theorem run_p11 (P : Program) (w : World) : (Extern.MathLog.archLog #[.float .f64 4771362005757984768]).run P w = .ok (.float .f64 4627822538621801726) w := by kernel_rfl
theorem pt_p11 : ∃ k F f S, Lg 4771362005757984768 L_p11 4627822538621801726 l_p11 k F f S := pt (by decide) (by decide) isL_p11 isl_p11 run_p11
def L_p12 : Rat := ((8192000000000000:Rat) * 2^(-13:Int))
def l_p12 : Rat := ((7777441025097632:Rat) * 2^(-48:Int))
theorem isL_p12 : Is 4786511204640096256 L_p12 := ⟨false, 8192000000000000, -13, by decide, by decide, by decide, by unfold L_p12 sg; simp⟩
theorem isl_p12 : Is 4628470658707226528 l_p12 := ⟨false, 7777441025097632, -48, by decide, by decide, by decide, by unfold l_p12 sg; simp⟩
theorem run_p12 (P : Program) (w : World) : (Extern.MathLog.archLog #[.float .f64 4786511204640096256]).run P w = .ok (.float .f64 4628470658707226528) w := by kernel_rfl
theorem pt_p12 : ∃ k F f S, Lg 4786511204640096256 L_p12 4628470658707226528 l_p12 k F f S := pt (by decide) (by decide) isL_p12 isl_p12 run_p12
def L_pa : Rat := ((4508103226997866:Rat) * 2^(-52:Int))
def l_pa : Rat := ((4609381711494340:Rat) * 2^(-62:Int))
theorem isL_pa : Is 4607186922399644778 L_pa := ⟨false, 4508103226997866, -52, by decide, by decide, by decide, by unfold L_pa sg; simp⟩
theorem isl_pa : Is 4562252204610436292 l_pa := ⟨false, 4609381711494340, -62, by decide, by decide, by decide, by unfold l_pa sg; simp⟩
theorem run_pa (P : Program) (w : World) : (Extern.MathLog.archLog #[.float .f64 4607186922399644778]).run P w = .ok (.float .f64 4562252204610436292) w := by kernel_rfl
theorem pt_pa : ∃ k F f S, Lg 4607186922399644778 L_pa 4562252204610436292 l_pa k F f S := pt (by decide) (by decide) isL_pa isl_pa run_pa
def L_pb : Rat := ((4503599627370496:Rat) * 2^(-51:Int))
def l_pb : Rat := ((6243314768165359:Rat) * 2^(-53:Int))
theorem isL_pb : Is 4611686018427387904 L_pb := ⟨false, 4503599627370496, -51, by decide, by decide, by decide, by unfold L_pb sg; simp⟩
theorem isl_pb : Is 4604418534313441775 l_pb := ⟨false, 6243314768165359, -53, by decide, by decide, by decide, by unfold l_pb sg; simp⟩
theorem run_pb (P : Program) (w : World) : (Extern.MathLog.archLog #[.float .f64 4611686018427387904]).run P w = .ok (.float .f64 4604418534313441775) w := by kernel_rfl
theorem pt_pb : ∃ k F f S, Lg 4611686018427387904 L_pb 4604418534313441775 l_pb k F f S := pt (by decide) (by decide) isL_pb isl_pb run_pb
def L_pc : Rat := ((4503599627370496:Rat) * 2^(-50:Int))
def l_pc : Rat := ((6243314768165359:Rat) * 2^(-52:Int))
theorem isL_pc : Is 4616189618054758400 L_pc := ⟨false, 4503599627370496, -50, by decide, by decide, by decide, by unfold L_pc sg; simp⟩
theorem isl_pc : Is 4608922133940812271 l_pc := ⟨false, 6243314768165359, -52, by decide, by decide, by decide, by unfold l_pc sg; simp⟩
theorem run_pc (P : Program) (w : World) : (Extern.MathLog.archLog #[.float .f64 4616189618054758400]).run P w = .ok (.float .f64 4608922133940812271) w := by kernel_rfl
theorem pt_pc : ∃ k F f S, Lg 4616189618054758400 L_pc 4608922133940812271 l_pc k F f S := pt (by decide) (by decide) isL_pc isl_pc run_pc

theorem v_p0 : L_p0 = 1 := by decide +kernel
theorem w_p0 : (0:Rat) - 1/100000000000 ≤ l_p0 * c10 ∧ l_p0 * c10 ≤ 0 + 1/100000000000 := by constructor <;> decide +kernel
theorem v_p1 : L_p1 = 10 := by decide +kernel
theorem w_p1 : (1:Rat) - 1/100000000000 ≤ l_p1 * c10 ∧ l_p1 * c10 ≤ 1 + 1/100000000000 := by constructor <;> decide +kernel
theorem v_p2 : L_p2 = 100 := by decide +kernel
theorem w_p2 : (2:Rat) - 1/100000000000 ≤ l_p2 * c10 ∧ l_p2 * c10 ≤ 2 + 1/100000000000 := by constructor <;> decide +kernel
theorem v_p3 : L_p3 = 1000 := by decide +kernel
theorem w_p3 : (3:Rat) - 1/100000000000 ≤ l_p3 * c10 ∧ l_p3 * c10 ≤ 3 + 1/100000000000 := by constructor <;> decide +kernel
theorem v_p4 : L_p4 = 10000 := by decide +kernel
theorem w_p4 : (4:Rat) - 1/100000000000 ≤ l_p4 * c10 ∧ l_p4 * c10 ≤ 4 + 1/100000000000 := by constructor <;> decide +kernel
theorem v_p5 : L_p5 = 100000 := by decide +kernel
theorem w_p5 : (5:Rat) - 1/100000000000 ≤ l_p5 * c10 ∧ l_p5 * c10 ≤ 5 + 1/100000000000 := by constructor <;> decide +kernel
theorem v_p6 : L_p6 = 1000000 := by decide +kernel
theorem w_p6 : (6:Rat) - 1/100000000000 ≤ l_p6 * c10 ∧ l_p6 * c10 ≤ 6 + 1/100000000000 := by constructor <;> decide +kernel
theorem v_p7 : L_p7 = 10000000 := by decide +kernel
theorem w_p7 : (7:Rat) - 1/100000000000 ≤ l_p7 * c10 ∧ l_p7 * c10 ≤ 7 + 1/100000000000 := by constructor <;> decide +kernel
theorem v_p8 : L_p8 = 100000000 := by decide +kernel
theorem w_p8 : (8:Rat) - 1/100000000000 ≤ l_p8 * c10 ∧ l_p8 * c10 ≤ 8 + 1/100000000000 := by constructor <;> decide +kernel
theorem v_p9 : L_p9 = 1000000000 := by decide +kernel
theorem w_p9 : (9:Rat) - 1/100000000000 ≤ l_p9 * c10 ∧ l_p9 * c10 ≤ 9 + 1/100000000000 := by constructor <;> decide +kernel
theorem v_p10 : L_p10 = 10000000000 := by decide +kernel
theorem w_p10 : (10:Rat) - 1/100000000000 ≤ l_p10 * c10 ∧ l_p10 * c10 ≤ 10 + 1/100000000000 := by constructor <;> decide +kernel
theorem v_p11 : L_p11 = 100000000000 := by decide +kernel
theorem w_p11 : (11:Rat) - 1/100000000000 ≤ l_p11 * c10 ∧ l_p11 * c10 ≤ 11 + 1/100000000000 := by constructor <;> decide +kernel
theorem v_p12 : L_p12 = 1000000000000 := by decide +kernel
theorem w_p12 : (12:Rat) - 1/100000000000 ≤ l_p12 * c10 ∧ l_p12 * c10 ≤ 12 + 1/100000000000 := by constructor <;> decide +kernel
theorem v_pb : L_pb = 2 := by decide +kernel
theorem v_pc : L_pc = 4 := by decide +kernel
theorem w_pa : (43/100000:Rat) ≤ l_pa * c10 := by decide +kernel
theorem w_pb : (3010/10000:Rat) ≤ l_pb * c10 := by decide +kernel
theorem w_pc : l_pc * c10 ≤ 603/1000 := by decide +kernel
theorem l12 : l_p12 ≤ 28 := by decide +kernel

/-- The step: its word, its value, and where it lies. -/
structure Step (x : Nat) (L : Rat) (sw : Nat) (t : Rat) : Prop where
  isx : Is x L
  ist : Is sw t
  run : ∃ res, (∀ (P : Program) (w : World), (Extern.MathLog.archLog #[.float .f64 x]).run P w = .ok (.float .f64 res) w) ∧ double.mul res 4601495173785380110 = some sw
  nn : 0 ≤ t
  lo : ∀ j : Nat, j ≤ 12 → ((10^j : Nat):Rat) ≤ L → (j:Rat) - 1/10000000000 ≤ t
  hi : ∀ j : Nat, j ≤ 12 → L ≤ ((10^j : Nat):Rat) → t ≤ (j:Rat) + 1/10000000000
  a : L_pa ≤ L → 4/10000 ≤ t
  b : 2 ≤ L → 3/10 ≤ t
  c : L ≤ 4 → t ≤ 61/100

theorem step_any (x : Nat) (hx1 : 4607182418800017408 ≤ x) (hx2 : x ≤ 4786511204640096256) (L : Rat) (hL : Is x L) (hL12 : L ≤ 1000000000000) : ∃ sw t, Step x L sw t := by
  obtain ⟨L', res, l, k, F, f, S, g⟩ := log_any x hx1 hx2
  obtain rfl := hL.uniq g.isx
  have hc := b_c10
  have hl0 := g.nn
  have hl28 : l ≤ 29 := by
    obtain ⟨_, _, _, _, g'⟩ := pt_p12
    have := log_mono g g' (by rw [v_p12]; exact hL12)
    have := l12
    grind
  have k1 := mm hl0 hl28 (show 0 ≤ c10 by grind) hc.2
  have hb := big64
  obtain ⟨sw, t, e, it, rt⟩ := mul_spec g.isr is_c10 (by grind) (by grind)
  have nt := rnd_near rt (by grind) (by grind)
  have hu := uu_le
  unfold Nr at nt
  have up : ∀ lj : Rat, l ≤ lj + 1/100000000000 → t ≤ lj * c10 + 9/100000000000 := by
    intro lj h
    have m1 := Rat.mul_le_mul_of_nonneg_right h (show 0 ≤ c10 by grind)
    have e : (lj + 1/100000000000) * c10 = lj * c10 + c10 * (1/100000000000) := by grind
    rw [e] at m1
    generalize lj * c10 = A at *
    generalize l * c10 = B at *
    grind
  have dn : ∀ lj : Rat, lj ≤ l + 1/100000000000 → lj * c10 - 9/100000000000 ≤ t := by
    intro lj h
    have m1 := Rat.mul_le_mul_of_nonneg_right h (show 0 ≤ c10 by grind)
    have e : (l + 1/100000000000) * c10 = l * c10 + c10 * (1/100000000000) := by grind
    rw [e] at m1
    generalize lj * c10 = A at *
    generalize l * c10 = B at *
    grind
  refine ⟨sw, t, hL, it, ⟨res, g.run, e⟩, rt.dbl_le (.inl Dbl.zero) k1.1, ?_, ?_, ?_, ?_, ?_⟩
  · intro j hj hLj
    rcases (show j = 0 ∨ j = 1 ∨ j = 2 ∨ j = 3 ∨ j = 4 ∨ j = 5 ∨ j = 6 ∨ j = 7 ∨ j = 8 ∨ j = 9 ∨ j = 10 ∨ j = 11 ∨ j = 12 by omega) with rfl | rfl | rfl | rfl | rfl | rfl | rfl | rfl | rfl | rfl | rfl | rfl | rfl
    · obtain ⟨_, _, _, _, g'⟩ := pt_p0
      have h1 := dn _ (log_mono g' g (by rw [v_p0]; exact hLj))
      have h2 := w_p0.1
      have ej : ((0:Nat):Rat) = 0 := rfl
      rw [ej]
      grind
    · obtain ⟨_, _, _, _, g'⟩ := pt_p1
      have h1 := dn _ (log_mono g' g (by rw [v_p1]; exact hLj))
      have h2 := w_p1.1
      have ej : ((1:Nat):Rat) = 1 := rfl
      rw [ej]
      grind
    · obtain ⟨_, _, _, _, g'⟩ := pt_p2
      have h1 := dn _ (log_mono g' g (by rw [v_p2]; exact hLj))
      have h2 := w_p2.1
      have ej : ((2:Nat):Rat) = 2 := rfl
      rw [ej]
      grind
    · obtain ⟨_, _, _, _, g'⟩ := pt_p3
      have h1 := dn _ (log_mono g' g (by rw [v_p3]; exact hLj))
      have h2 := w_p3.1
      have ej : ((3:Nat):Rat) = 3 := rfl
      rw [ej]
      grind
    · obtain ⟨_, _, _, _, g'⟩ := pt_p4
      have h1 := dn _ (log_mono g' g (by rw [v_p4]; exact hLj))
      have h2 := w_p4.1
      have ej : ((4:Nat):Rat) = 4 := rfl
      rw [ej]
      grind
    · obtain ⟨_, _, _, _, g'⟩ := pt_p5
      have h1 := dn _ (log_mono g' g (by rw [v_p5]; exact hLj))
      have h2 := w_p5.1
      have ej : ((5:Nat):Rat) = 5 := rfl
      rw [ej]
      grind
    · obtain ⟨_, _, _, _, g'⟩ := pt_p6
      have h1 := dn _ (log_mono g' g (by rw [v_p6]; exact hLj))
      have h2 := w_p6.1
      have ej : ((6:Nat):Rat) = 6 := rfl
      rw [ej]
      grind
    · obtain ⟨_, _, _, _, g'⟩ := pt_p7
      have h1 := dn _ (log_mono g' g (by rw [v_p7]; exact hLj))
      have h2 := w_p7.1
      have ej : ((7:Nat):Rat) = 7 := rfl
      rw [ej]
      grind
    · obtain ⟨_, _, _, _, g'⟩ := pt_p8
      have h1 := dn _ (log_mono g' g (by rw [v_p8]; exact hLj))
      have h2 := w_p8.1
      have ej : ((8:Nat):Rat) = 8 := rfl
      rw [ej]
      grind
    · obtain ⟨_, _, _, _, g'⟩ := pt_p9
      have h1 := dn _ (log_mono g' g (by rw [v_p9]; exact hLj))
      have h2 := w_p9.1
      have ej : ((9:Nat):Rat) = 9 := rfl
      rw [ej]
      grind
    · obtain ⟨_, _, _, _, g'⟩ := pt_p10
      have h1 := dn _ (log_mono g' g (by rw [v_p10]; exact hLj))
      have h2 := w_p10.1
      have ej : ((10:Nat):Rat) = 10 := rfl
      rw [ej]
      grind
    · obtain ⟨_, _, _, _, g'⟩ := pt_p11
      have h1 := dn _ (log_mono g' g (by rw [v_p11]; exact hLj))
      have h2 := w_p11.1
      have ej : ((11:Nat):Rat) = 11 := rfl
      rw [ej]
      grind
    · obtain ⟨_, _, _, _, g'⟩ := pt_p12
      have h1 := dn _ (log_mono g' g (by rw [v_p12]; exact hLj))
      have h2 := w_p12.1
      have ej : ((12:Nat):Rat) = 12 := rfl
      rw [ej]
      grind
  · intro j hj hLj
    rcases (show j = 0 ∨ j = 1 ∨ j = 2 ∨ j = 3 ∨ j = 4 ∨ j = 5 ∨ j = 6 ∨ j = 7 ∨ j = 8 ∨ j = 9 ∨ j = 10 ∨ j = 11 ∨ j = 12 by omega) with rfl | rfl | rfl | rfl | rfl | rfl | rfl | rfl | rfl | rfl | rfl | rfl | rfl
    · obtain ⟨_, _, _, _, g'⟩ := pt_p0
      have h1 := up _ (log_mono g g' (by rw [v_p0]; exact hLj))
      have h2 := w_p0.2
      have ej : ((0:Nat):Rat) = 0 := rfl
      rw [ej]
      grind
    · obtain ⟨_, _, _, _, g'⟩ := pt_p1
      have h1 := up _ (log_mono g g' (by rw [v_p1]; exact hLj))
      have h2 := w_p1.2
      have ej : ((1:Nat):Rat) = 1 := rfl
      rw [ej]
      grind
    · obtain ⟨_, _, _, _, g'⟩ := pt_p2
      have h1 := up _ (log_mono g g' (by rw [v_p2]; exact hLj))
      have h2 := w_p2.2
      have ej : ((2:Nat):Rat) = 2 := rfl
      rw [ej]
      grind
    · obtain ⟨_, _, _, _, g'⟩ := pt_p3
      have h1 := up _ (log_mono g g' (by rw [v_p3]; exact hLj))
      have h2 := w_p3.2
      have ej : ((3:Nat):Rat) = 3 := rfl
      rw [ej]
      grind
    · obtain ⟨_, _, _, _, g'⟩ := pt_p4
      have h1 := up _ (log_mono g g' (by rw [v_p4]; exact hLj))
      have h2 := w_p4.2
      have ej : ((4:Nat):Rat) = 4 := rfl
      rw [ej]
      grind
    · obtain ⟨_, _, _, _, g'⟩ := pt_p5
      have h1 := up _ (log_mono g g' (by rw [v_p5]; exact hLj))
      have h2 := w_p5.2
      have ej : ((5:Nat):Rat) = 5 := rfl
      rw [ej]
      grind
    · obtain ⟨_, _, _, _, g'⟩ := pt_p6
      have h1 := up _ (log_mono g g' (by rw [v_p6]; exact hLj))
      have h2 := w_p6.2
      have ej : ((6:Nat):Rat) = 6 := rfl
      rw [ej]
      grind
    · obtain ⟨_, _, _, _, g'⟩ := pt_p7
      have h1 := up _ (log_mono g g' (by rw [v_p7]; exact hLj))
      have h2 := w_p7.2
      have ej : ((7:Nat):Rat) = 7 := rfl
      rw [ej]
      grind
    · obtain ⟨_, _, _, _, g'⟩ := pt_p8
      have h1 := up _ (log_mono g g' (by rw [v_p8]; exact hLj))
      have h2 := w_p8.2
      have ej : ((8:Nat):Rat) = 8 := rfl
      rw [ej]
      grind
    · obtain ⟨_, _, _, _, g'⟩ := pt_p9
      have h1 := up _ (log_mono g g' (by rw [v_p9]; exact hLj))
      have h2 := w_p9.2
      have ej : ((9:Nat):Rat) = 9 := rfl
      rw [ej]
      grind
    · obtain ⟨_, _, _, _, g'⟩ := pt_p10
      have h1 := up _ (log_mono g g' (by rw [v_p10]; exact hLj))
      have h2 := w_p10.2
      have ej : ((10:Nat):Rat) = 10 := rfl
      rw [ej]
      grind
    · obtain ⟨_, _, _, _, g'⟩ := pt_p11
      have h1 := up _ (log_mono g g' (by rw [v_p11]; exact hLj))
      have h2 := w_p11.2
      have ej : ((11:Nat):Rat) = 11 := rfl
      rw [ej]
      grind
    · obtain ⟨_, _, _, _, g'⟩ := pt_p12
      have h1 := up _ (log_mono g g' (by rw [v_p12]; exact hLj))
      have h2 := w_p12.2
      have ej : ((12:Nat):Rat) = 12 := rfl
      rw [ej]
      grind
  · intro h
    obtain ⟨_, _, _, _, g'⟩ := pt_pa
    have h1 := dn _ (log_mono g' g h)
    have h2 := w_pa
    grind
  · intro h
    obtain ⟨_, _, _, _, g'⟩ := pt_pb
    have h1 := dn _ (log_mono g' g (by rw [v_pb]; exact h))
    have h2 := w_pb
    grind
  · intro h
    obtain ⟨_, _, _, _, g'⟩ := pt_pc
    have h1 := up _ (log_mono g g' (by rw [v_pc]; exact h))
    have h2 := w_pc
    grind

end Go.Proofs.Qxb6616692a
