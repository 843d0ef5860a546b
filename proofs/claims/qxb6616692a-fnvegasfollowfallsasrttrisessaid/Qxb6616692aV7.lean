import Derived.Test.Qxb6616692aV6
namespace Go.Proofs.Qxb6616692a
open Ieee

def rho (t : Rat) : Rat := t * (((c7 * (t * t) + c5) * (t * t) + c3) * (t * t) + c1) + (t * t) * ((c6 * (t * t) + c4) * (t * t) + c2)
def GG (S : Rat) : Rat := 2 * S + S * rho (S * S)
def lam : Rat := cHi + cLo

theorem mm {a a' b b' : Rat} (h1 : 0 ≤ a) (h2 : a ≤ a') (h3 : 0 ≤ b) (h4 : b ≤ b') : 0 ≤ a * b ∧ a * b ≤ a' * b' := by
  have k1 := Rat.mul_nonneg h1 h3
  have k2 := Rat.mul_le_mul_of_nonneg_right h2 h3
  have k3 := Rat.mul_le_mul_of_nonneg_left h4 (show 0 ≤ a' by grind)
  constructor <;> grind
theorem pp {a a' c : Rat} (h1 : 0 ≤ a) (h2 : a ≤ a') (h3 : 0 ≤ c) : 0 ≤ a + c ∧ a + c ≤ a' + c := by constructor <;> grind

theorem rho_mono {t t' : Rat} (h0 : 0 ≤ t) (h : t ≤ t') : 0 ≤ rho t ∧ rho t ≤ rho t' := by
  have k4 := mm h0 h h0 h
  have C1 : 0 ≤ c1 := by have := b_c1; grind
  have C2 : 0 ≤ c2 := by have := b_c2; grind
  have C3 : 0 ≤ c3 := by have := b_c3; grind
  have C4 : 0 ≤ c4 := by have := b_c4; grind
  have C5 : 0 ≤ c5 := by have := b_c5; grind
  have C6 : 0 ≤ c6 := by have := b_c6; grind
  have C7 : 0 ≤ c7 := by have := b_c7; grind
  have p7 := mm C7 Rat.le_refl k4.1 k4.2
  have p5 := pp p7.1 p7.2 C5
  have q5 := mm p5.1 p5.2 k4.1 k4.2
  have p3 := pp q5.1 q5.2 C3
  have q3 := mm p3.1 p3.2 k4.1 k4.2
  have p1 := pp q3.1 q3.2 C1
  have r1 := mm h0 h p1.1 p1.2
  have p6 := mm C6 Rat.le_refl k4.1 k4.2
  have p4 := pp p6.1 p6.2 C4
  have q4 := mm p4.1 p4.2 k4.1 k4.2
  have p2 := pp q4.1 q4.2 C2
  have r2 := mm k4.1 k4.2 p2.1 p2.2
  unfold rho
  generalize t * (((c7 * (t * t) + c5) * (t * t) + c3) * (t * t) + c1) = A at *
  generalize t' * (((c7 * (t' * t') + c5) * (t' * t') + c3) * (t' * t') + c1) = A' at *
  generalize (t * t) * ((c6 * (t * t) + c4) * (t * t) + c2) = B at *
  generalize (t' * t') * ((c6 * (t' * t') + c4) * (t' * t') + c2) = B' at *
  have := r1.1; have := r1.2; have := r2.1; have := r2.2
  clear p7 p5 q5 p3 q3 p1 p6 p4 q4 p2 k4
  constructor <;> grind

theorem GG_mono {S S' : Rat} (h : S ≤ S') : GG S ≤ GG S' := by
  unfold GG
  have key : S * rho (S * S) ≤ S' * rho (S' * S') := by
    by_cases h0 : 0 ≤ S
    · have k := mm h0 h h0 h
      have r := rho_mono k.1 k.2
      exact (mm h0 h r.1 r.2).2
    · by_cases h1 : S' ≤ 0
      · have k := mm (show 0 ≤ -S' by grind) (show -S' ≤ -S by grind) (show 0 ≤ -S' by grind) (show -S' ≤ -S by grind)
        have e1 : -S' * -S' = S' * S' := by grind
        have e2 : -S * -S = S * S := by grind
        rw [e1, e2] at k
        have r := rho_mono k.1 k.2
        have := (mm (show 0 ≤ -S' by grind) (show -S' ≤ -S by grind) r.1 r.2).2
        generalize rho (S * S) = A at *
        generalize rho (S' * S') = B at *
        grind
      · have k1 : 0 ≤ S * S := by have := Rat.mul_nonneg (show 0 ≤ -S by grind) (show 0 ≤ -S by grind); grind
        have k2 : 0 ≤ S' * S' := Rat.mul_nonneg (show 0 ≤ S' by grind) (show 0 ≤ S' by grind)
        have r1 := (rho_mono k1 Rat.le_refl).1
        have r2 := (rho_mono k2 Rat.le_refl).1
        have m1 := Rat.mul_nonneg (show 0 ≤ -S by grind) r1
        have m2 := Rat.mul_nonneg (show 0 ≤ S' by grind) r2
        generalize rho (S * S) = A at *
        generalize rho (S' * S') = B at *
        grind
  grind

theorem S_mono {f f' S S' : Rat} (hf : -1 ≤ f) (h : f ≤ f') (hS : S * (2 + f) = f) (hS' : S' * (2 + f') = f') : S ≤ S' := by
  have h1 : 0 < (2 + f) * (2 + f') := Rat.mul_pos (by grind) (by grind)
  have h2 : S * ((2 + f) * (2 + f')) = f * (2 + f') := by rw [← Rat.mul_assoc, hS]
  have h3 : S' * ((2 + f) * (2 + f')) = f' * (2 + f) := by rw [Rat.mul_comm (2 + f), ← Rat.mul_assoc, hS']
  refine Rat.le_of_mul_le_mul_right (c := (2 + f) * (2 + f')) ?_ h1
  rw [h2, h3]
  grind

/-- The numbers that the algorithm comes near to, and what they make. -/
theorem tg_of {f S : Rat} (K : Rat) (hS : S * (2 + f) = f) : ∃ X2 X4 P7 P5 Q5 P3 Q3 P1 R1 P6 P4 Q4 P2 R2 R HF HH RH SRH LK IN HI D1 D2 AA : Rat, Tg K f S X2 X4 P7 P5 Q5 P3 Q3 P1 R1 P6 P4 Q4 P2 R2 R HF HH RH SRH LK IN HI D1 D2 AA ∧ AA = K * lam + GG S ∧ R = rho (S * S) := by
  refine ⟨_, _, _, _, _, _, _, _, _, _, _, _, _, _, _, _, _, _, _, _, _, _, _, _, _, ⟨hS, rfl, rfl, rfl, rfl, rfl, rfl, rfl, rfl, rfl, rfl, rfl, rfl, rfl, rfl, rfl, rfl, rfl, rfl, rfl, rfl, rfl, rfl, rfl, rfl, rfl⟩, ?_, rfl⟩
  rw [v_half]
  show _ = K * (cHi + cLo) + (2 * S + S * rho (S * S))
  have e : S * S * (((c7 * (S * S * (S * S)) + c5) * (S * S * (S * S)) + c3) * (S * S * (S * S)) + c1) + S * S * (S * S) * ((c6 * (S * S * (S * S)) + c4) * (S * S * (S * S)) + c2) = rho (S * S) := rfl
  rw [e]
  generalize rho (S * S) = R
  have h1 : S * f = f - 2 * S := by grind
  have h2 : S * (f * f) = (f - 2 * S) * f := by rw [← Rat.mul_assoc, h1]
  grind

/-- Over the seam the sum does not fall by more than a hair. -/
def fM : Rat := 2 * cS - 1
def fm : Rat := cS - 1
def SM : Rat := fM / (2 + fM)
def Sm : Rat := fm / (2 + fm)
theorem SM_eq : SM * (2 + fM) = fM := by decide +kernel
theorem Sm_eq : Sm * (2 + fm) = fm := by decide +kernel
theorem seam : GG SM ≤ lam + GG Sm + 1/10000000000000 := by decide +kernel
theorem lam_b : 693147180559/1000000000000 ≤ lam ∧ lam ≤ 693147180560/1000000000000 := by constructor <;> decide +kernel
theorem fM_dbl : DblS fM := .inl ⟨3730904090310554, -53, by decide +kernel, by decide, by decide⟩
theorem fm_dbl : DblS fm := .inr ⟨2638147582215219, -53, by decide +kernel, by decide, by decide⟩

end Go.Proofs.Qxb6616692a
