import Derived.Test.Qxb6616692aV4
namespace Go.Proofs.Qxb6616692a
open Ieee

/-- The size of one operation's fault. -/
def uu : Rat := 1/70368744177664
theorem uu_pos : 0 < uu := by decide +kernel
theorem uu_le : uu ≤ 1/70000000000000 := by decide +kernel
theorem uu_ge : 64 / 9007199254740992 + ty ≤ uu := by decide +kernel
def Nr (a b e : Rat) : Prop := a - b ≤ e ∧ b - a ≤ e
theorem Nr.rfl' (a : Rat) : Nr a a 0 := by constructor <;> grind

theorem rnd_near {v c : Rat} (h : RndS v c) (h1 : v ≤ 64) (h2 : -64 ≤ v) : Nr c v uu := by
  have := h.err h1 h2
  have := uu_ge
  constructor <;> grind
theorem absm {a d A e : Rat} (h1 : -A ≤ a) (h2 : a ≤ A) (h3 : -e ≤ d) (h4 : d ≤ e) : a * d ≤ A * e ∧ -(A * e) ≤ a * d := by
  have k1 := Rat.mul_nonneg (show 0 ≤ A - a by grind) (show 0 ≤ e + d by grind)
  have k2 := Rat.mul_nonneg (show 0 ≤ A + a by grind) (show 0 ≤ e - d by grind)
  have k3 := Rat.mul_nonneg (show 0 ≤ A - a by grind) (show 0 ≤ e - d by grind)
  have k4 := Rat.mul_nonneg (show 0 ≤ A + a by grind) (show 0 ≤ e + d by grind)
  constructor <;> grind
theorem big64 : (64:Rat) < 2^(900:Int) := by decide +kernel

theorem addN {x y : Nat} {a b a' b' e1 e2 t e : Rat} (hx : Is x a) (hy : Is y b) (na : Nr a a' e1) (nb : Nr b b' e2) (ht : a' + b' = t) (he : e1 + e2 + uu = e) (h1 : a + b ≤ 64) (h2 : -64 ≤ a + b) : ∃ z c, double.add x y = some z ∧ Is z c ∧ Nr c t e := by
  have hb := big64
  obtain ⟨z, c, h, hz, hr⟩ := add_spec hx hy (by grind) (by grind)
  have := rnd_near hr h1 h2
  refine ⟨z, c, h, hz, ?_⟩
  unfold Nr at *
  constructor <;> grind
theorem subN {x y : Nat} {a b a' b' e1 e2 t e : Rat} (hx : Is x a) (hy : Is y b) (na : Nr a a' e1) (nb : Nr b b' e2) (ht : a' - b' = t) (he : e1 + e2 + uu = e) (h1 : a - b ≤ 64) (h2 : -64 ≤ a - b) : ∃ z c, double.sub x y = some z ∧ Is z c ∧ Nr c t e := by
  have hb := big64
  obtain ⟨z, c, h, hz, hr⟩ := sub_spec hx hy (by grind) (by grind)
  have := rnd_near hr h1 h2
  refine ⟨z, c, h, hz, ?_⟩
  unfold Nr at *
  constructor <;> grind
theorem mulN {x y : Nat} {a b a' b' e1 e2 t e : Rat} (hx : Is x a) (hy : Is y b) (na : Nr a a' e1) (nb : Nr b b' e2) (ht : a' * b' = t) (he : e1 + e2 + uu = e) (h1 : -1 ≤ a) (h2 : a ≤ 1) (h3 : -1 ≤ b') (h4 : b' ≤ 1) (h5 : -64 ≤ b) (h6 : b ≤ 64) : ∃ z c, double.mul x y = some z ∧ Is z c ∧ Nr c t e := by
  have hb := big64
  have k1 := absm h1 h2 h5 h6
  obtain ⟨z, c, h, hz, hr⟩ := mul_spec hx hy (by grind) (by grind)
  have := rnd_near hr (by grind) (by grind)
  refine ⟨z, c, h, hz, ?_⟩
  unfold Nr at *
  have k2 := absm h1 h2 (show -e2 ≤ b - b' by grind) (show b - b' ≤ e2 by grind)
  have k3 := absm h3 h4 (show -e1 ≤ a - a' by grind) (show a - a' ≤ e1 by grind)
  constructor <;> grind

def cS : Rat := (6369051672525773:Rat) * 2^(-53:Int)
theorem is_cS : Is 4604544271217802189 cS := ⟨false, 6369051672525773, -53, by decide, by decide, by decide, by unfold cS sg; simp⟩
def cHalf : Rat := (4503599627370496:Rat) * 2^(-53:Int)
theorem is_cHalf : Is 4602678819172646912 cHalf := ⟨false, 4503599627370496, -53, by decide, by decide, by decide, by unfold cHalf sg; simp⟩
def cOne : Rat := (4503599627370496:Rat) * 2^(-52:Int)
theorem is_cOne : Is 4607182418800017408 cOne := ⟨false, 4503599627370496, -52, by decide, by decide, by decide, by unfold cOne sg; simp⟩
def cTwo : Rat := (4503599627370496:Rat) * 2^(-51:Int)
theorem is_cTwo : Is 4611686018427387904 cTwo := ⟨false, 4503599627370496, -51, by decide, by decide, by decide, by unfold cTwo sg; simp⟩
def c7 : Rat := (5331612937900612:Rat) * 2^(-55:Int)
theorem is_c7 : Is 4594499633228436036 c7 := ⟨false, 5331612937900612, -55, by decide, by decide, by decide, by unfold c7 sg; simp⟩
def c5 : Rat := (6551322304906206:Rat) * 2^(-55:Int)
theorem is_c5 : Is 4595719342595441630 c5 := ⟨false, 6551322304906206, -55, by decide, by decide, by decide, by unfold c5 sg; simp⟩
def c3 : Rat := (5146971033736025:Rat) * 2^(-54:Int)
theorem is_c3 : Is 4598818590951641945 c3 := ⟨false, 5146971033736025, -54, by decide, by decide, by decide, by unfold c3 sg; simp⟩
def c1 : Rat := (6004799503160723:Rat) * 2^(-53:Int)
theorem is_c1 : Is 4604180019048437139 c1 := ⟨false, 6004799503160723, -53, by decide, by decide, by decide, by unfold c1 sg; simp⟩
def c6 : Rat := (5517391500461727:Rat) * 2^(-55:Int)
theorem is_c6 : Is 4594685411790997151 c6 := ⟨false, 5517391500461727, -55, by decide, by decide, by decide, by unfold c6 sg; simp⟩
def c4 : Rat := (8006390766270639:Rat) * 2^(-55:Int)
theorem is_c4 : Is 4597174411056806063 c4 := ⟨false, 8006390766270639, -55, by decide, by decide, by decide, by unfold c4 sg; simp⟩
def c2 : Rat := (7205759403686404:Rat) * 2^(-54:Int)
theorem is_c2 : Is 4600877379321592324 c2 := ⟨false, 7205759403686404, -54, by decide, by decide, by decide, by unfold c2 sg; simp⟩
def cLo : Rat := (7382048951581814:Rat) * 2^(-85:Int)
theorem is_cLo : Is 4461442080421002358 cLo := ⟨false, 7382048951581814, -85, by decide, by decide, by decide, by unfold cLo sg; simp⟩
def cHi : Rat := (6243314766446592:Rat) * 2^(-53:Int)
theorem is_cHi : Is 4604418534311723008 cHi := ⟨false, 6243314766446592, -53, by decide, by decide, by decide, by unfold cHi sg; simp⟩
theorem b_c7 : (1/10:Rat) ≤ c7 ∧ c7 ≤ 3/4 := by constructor <;> decide +kernel
theorem b_c6 : (1/10:Rat) ≤ c6 ∧ c6 ≤ 3/4 := by constructor <;> decide +kernel
theorem b_c5 : (1/10:Rat) ≤ c5 ∧ c5 ≤ 3/4 := by constructor <;> decide +kernel
theorem b_c4 : (1/10:Rat) ≤ c4 ∧ c4 ≤ 3/4 := by constructor <;> decide +kernel
theorem b_c3 : (1/10:Rat) ≤ c3 ∧ c3 ≤ 3/4 := by constructor <;> decide +kernel
theorem b_c2 : (1/10:Rat) ≤ c2 ∧ c2 ≤ 3/4 := by constructor <;> decide +kernel
theorem b_c1 : (1/10:Rat) ≤ c1 ∧ c1 ≤ 3/4 := by constructor <;> decide +kernel
theorem b_cLo : (0:Rat) ≤ cLo ∧ cLo ≤ 1/1000000 := by constructor <;> decide +kernel
theorem b_cHi : (69/100:Rat) ≤ cHi ∧ cHi ≤ 7/10 := by constructor <;> decide +kernel
theorem b_cS : (7071/10000:Rat) ≤ cS ∧ cS ≤ 70711/100000 := by constructor <;> decide +kernel
theorem v_half : cHalf = 1/2 := by decide +kernel
theorem v_one : cOne = 1 := by decide +kernel
theorem v_two : cTwo = 2 := by decide +kernel

/-- The exact numbers that the algorithm comes near to. -/
structure Tg (K f S X2 X4 P7 P5 Q5 P3 Q3 P1 R1 P6 P4 Q4 P2 R2 R HF HH RH SRH LK IN HI D1 D2 AA : Rat) : Prop where
  s : S * (2 + f) = f
  x2 : S * S = X2
  x4 : X2 * X2 = X4
  p7 : c7 * X4 = P7
  p5 : P7 + c5 = P5
  q5 : P5 * X4 = Q5
  p3 : Q5 + c3 = P3
  q3 : P3 * X4 = Q3
  p1 : Q3 + c1 = P1
  r1 : X2 * P1 = R1
  p6 : c6 * X4 = P6
  p4 : P6 + c4 = P4
  q4 : P4 * X4 = Q4
  p2 : Q4 + c2 = P2
  r2 : X4 * P2 = R2
  r : R1 + R2 = R
  hf : cHalf * f = HF
  h : HF * f = HH
  rh : R + HH = RH
  srh : S * RH = SRH
  lk : cLo * K = LK
  inn : SRH + LK = IN
  hi : K * cHi = HI
  d1 : HH - IN = D1
  d2 : D1 - f = D2
  res : HI - D2 = AA

structure Bd (S X2 X4 P7 P5 Q5 P3 Q3 P1 R1 P6 P4 Q4 P2 R2 R HF HH RH SRH LK : Rat) : Prop where
  S : -(1/4) ≤ S ∧ S ≤ 1/4
  X2 : -(1/16) ≤ X2 ∧ X2 ≤ 1/16
  X4 : -(1/256) ≤ X4 ∧ X4 ≤ 1/256
  P7 : -(1/256) ≤ P7 ∧ P7 ≤ 1/256
  P5 : -(4/5) ≤ P5 ∧ P5 ≤ 4/5
  Q5 : -(1/256) ≤ Q5 ∧ Q5 ≤ 1/256
  P3 : -(4/5) ≤ P3 ∧ P3 ≤ 4/5
  Q3 : -(1/256) ≤ Q3 ∧ Q3 ≤ 1/256
  P1 : -(4/5) ≤ P1 ∧ P1 ≤ 4/5
  R1 : -(1/16) ≤ R1 ∧ R1 ≤ 1/16
  P6 : -(1/256) ≤ P6 ∧ P6 ≤ 1/256
  P4 : -(4/5) ≤ P4 ∧ P4 ≤ 4/5
  Q4 : -(1/256) ≤ Q4 ∧ Q4 ≤ 1/256
  P2 : -(4/5) ≤ P2 ∧ P2 ≤ 4/5
  R2 : -(1/256) ≤ R2 ∧ R2 ≤ 1/256
  R : -(1/8) ≤ R ∧ R ≤ 1/8
  HF : -(1/4) ≤ HF ∧ HF ≤ 1/4
  HH : -(1/8) ≤ HH ∧ HH ≤ 1/8
  RH : -(1/4) ≤ RH ∧ RH ≤ 1/4
  SRH : -(1/8) ≤ SRH ∧ SRH ≤ 1/8
  LK : -(1/10000) ≤ LK ∧ LK ≤ 1/10000

set_option maxHeartbeats 1000000 in
theorem Tg.bd {K f S X2 X4 P7 P5 Q5 P3 Q3 P1 R1 P6 P4 Q4 P2 R2 R HF HH RH SRH LK IN HI D1 D2 AA : Rat} (h : Tg K f S X2 X4 P7 P5 Q5 P3 Q3 P1 R1 P6 P4 Q4 P2 R2 R HF HH RH SRH LK IN HI D1 D2 AA) (f1 : -(3/10) ≤ f) (f2 : f ≤ 42/100) (k1 : 0 ≤ K) (k2 : K ≤ 40) : Bd S X2 X4 P7 P5 Q5 P3 Q3 P1 R1 P6 P4 Q4 P2 R2 R HF HH RH SRH LK := by
  obtain ⟨hs, hx2, hx4, hp7, hp5, hq5, hp3, hq3, hp1, hr1, hp6, hp4, hq4, hp2, hr2, hr, hhf, hh, hrh, hsrh, hlk, hinn, hhi, hd1, hd2, hres⟩ := h
  have bS : -(1/4) ≤ S ∧ S ≤ 1/4 := ⟨Rat.le_of_mul_le_mul_right (c := 2 + f) (by rw [hs]; grind) (by grind), Rat.le_of_mul_le_mul_right (c := 2 + f) (by rw [hs]; grind) (by grind)⟩
  have C1 := b_c1
  have C2 := b_c2
  have C3 := b_c3
  have C4 := b_c4
  have C5 := b_c5
  have C6 := b_c6
  have C7 := b_c7
  have CL := b_cLo
  have VH := v_half
  have mX2 := absm bS.1 bS.2 bS.1 bS.2
  have bX2 : -(1/16) ≤ X2 ∧ X2 ≤ 1/16 := by rw [← hx2]; constructor <;> grind
  clear mX2
  have mX4 := absm bX2.1 bX2.2 bX2.1 bX2.2
  have bX4 : -(1/256) ≤ X4 ∧ X4 ≤ 1/256 := by rw [← hx4]; constructor <;> grind
  clear mX4
  have mP7 := absm (show -(3/4) ≤ c7 by grind) (show c7 ≤ 3/4 by grind) bX4.1 bX4.2
  have bP7 : -(1/256) ≤ P7 ∧ P7 ≤ 1/256 := by rw [← hp7]; constructor <;> grind
  clear mP7
  have bP5 : -(4/5) ≤ P5 ∧ P5 ≤ 4/5 := by rw [← hp5]; constructor <;> grind
  have mQ5 := absm bP5.1 bP5.2 bX4.1 bX4.2
  have bQ5 : -(1/256) ≤ Q5 ∧ Q5 ≤ 1/256 := by rw [← hq5]; constructor <;> grind
  clear mQ5
  have bP3 : -(4/5) ≤ P3 ∧ P3 ≤ 4/5 := by rw [← hp3]; constructor <;> grind
  have mQ3 := absm bP3.1 bP3.2 bX4.1 bX4.2
  have bQ3 : -(1/256) ≤ Q3 ∧ Q3 ≤ 1/256 := by rw [← hq3]; constructor <;> grind
  clear mQ3
  have bP1 : -(4/5) ≤ P1 ∧ P1 ≤ 4/5 := by rw [← hp1]; constructor <;> grind
  have mR1 := absm bX2.1 bX2.2 bP1.1 bP1.2
  have bR1 : -(1/16) ≤ R1 ∧ R1 ≤ 1/16 := by rw [← hr1]; constructor <;> grind
  clear mR1
  have mP6 := absm (show -(3/4) ≤ c6 by grind) (show c6 ≤ 3/4 by grind) bX4.1 bX4.2
  have bP6 : -(1/256) ≤ P6 ∧ P6 ≤ 1/256 := by rw [← hp6]; constructor <;> grind
  clear mP6
  have bP4 : -(4/5) ≤ P4 ∧ P4 ≤ 4/5 := by rw [← hp4]; constructor <;> grind
  have mQ4 := absm bP4.1 bP4.2 bX4.1 bX4.2
  have bQ4 : -(1/256) ≤ Q4 ∧ Q4 ≤ 1/256 := by rw [← hq4]; constructor <;> grind
  clear mQ4
  have bP2 : -(4/5) ≤ P2 ∧ P2 ≤ 4/5 := by rw [← hp2]; constructor <;> grind
  have mR2 := absm bX4.1 bX4.2 bP2.1 bP2.2
  have bR2 : -(1/256) ≤ R2 ∧ R2 ≤ 1/256 := by rw [← hr2]; constructor <;> grind
  clear mR2
  have bR : -(1/8) ≤ R ∧ R ≤ 1/8 := by rw [← hr]; constructor <;> grind
  have mHF := absm (show -(1/2) ≤ cHalf by rw [v_half]; decide +kernel) (show cHalf ≤ 1/2 by rw [v_half]; decide +kernel) (show -(1/2) ≤ f by grind) (show f ≤ 1/2 by grind)
  have bHF : -(1/4) ≤ HF ∧ HF ≤ 1/4 := by rw [← hhf]; constructor <;> grind
  clear mHF
  have mHH := absm bHF.1 bHF.2 (show -(1/2) ≤ f by grind) (show f ≤ 1/2 by grind)
  have bHH : -(1/8) ≤ HH ∧ HH ≤ 1/8 := by rw [← hh]; constructor <;> grind
  clear mHH
  have bRH : -(1/4) ≤ RH ∧ RH ≤ 1/4 := by rw [← hrh]; constructor <;> grind
  have mSRH := absm bS.1 bS.2 bRH.1 bRH.2
  have bSRH : -(1/8) ≤ SRH ∧ SRH ≤ 1/8 := by rw [← hsrh]; constructor <;> grind
  clear mSRH
  have mLK := absm (show -(1/1000000) ≤ cLo by grind) (show cLo ≤ 1/1000000 by grind) (show -40 ≤ K by grind) k2
  have bLK : -(1/10000) ≤ LK ∧ LK ≤ 1/10000 := by rw [← hlk]; constructor <;> grind
  clear mLK
  exact ⟨bS, bX2, bX4, bP7, bP5, bQ5, bP3, bQ3, bP1, bR1, bP6, bP4, bQ4, bP2, bR2, bR, bHF, bHH, bRH, bSRH, bLK⟩

end Go.Proofs.Qxb6616692a
