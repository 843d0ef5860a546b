import Derived.Test.Qxb6616692aV8
namespace Go.Proofs.Qxb6616692a
open Ieee

/-- What is known of the logarithm of the number L in the word x. -/
structure Lg (x : Nat) (L : Rat) (res : Nat) (l : Rat) (k : Nat) (F f S : Rat) : Prop where
  run : ∀ (P : Program) (w : World), (Extern.MathLog.archLog #[.float .f64 x]).run P w = .ok (.float .f64 res) w
  isx : Is x L
  isr : Is res l
  near : Nr l ((k:Rat) * lam + GG S) (98 * uu)
  s : S * (2 + f) = f
  rf : f = F - 1
  F1 : cS < F
  F2 : F ≤ 2 * cS
  LF : L = F * 2^(k:Int)
  k40 : k ≤ 40
  S4 : -(1/4) ≤ S ∧ S ≤ 1/4
  f1 : -(3/10) ≤ f
  f2 : f ≤ 42/100
  nn : 0 ≤ l

theorem log_any (x : Nat) (hx1 : 4607182418800017408 ≤ x) (hx2 : x ≤ 4786511204640096256) : ∃ L res l k F f S, Lg x L res l k F f S := by
  obtain ⟨L, o, kw, ao, f1w, fw, k, F, f, hL, ho, e1, e2, e3, e4, ik, i4, r4, F1, F2, hLF, hk, hk0⟩ := red x hx1 hx2
  have hcb := b_cS
  have f1 : -(3/10) ≤ f := by grind
  have f2 : f ≤ 42/100 := by grind
  have hkR : (k:Rat) ≤ 40 := by
    have : (k:Rat) ≤ ((40:Nat):Rat) := by exact_mod_cast hk
    exact this
  have hkR0 : 0 ≤ (k:Rat) := by exact_mod_cast Nat.zero_le k
  obtain ⟨S, hS⟩ : ∃ S : Rat, S * (2 + f) = f := ⟨f / (2 + f), Rat.div_mul_cancel (by grind)⟩
  obtain ⟨X2, X4, P7, P5, Q5, P3, Q3, P1, R1, P6, P4, Q4, P2, R2, R, HF, HH, RH, SRH, LK, IN, HI, D1, D2, AA, tg, hAA, hR⟩ := tg_of (k:Rat) hS
  have bd := tg.bd f1 f2 hkR0 hkR
  obtain ⟨T, s, s2, s4, m7, a5, m5, a3, m3, a1, t1, m6, a4, m4, a2, t2, r, hf, h, rh, srh, lk, inn, hi, d1, d2, res, l, eT, es, es2, es4, em7, ea5, em5, ea3, em3, ea1, et1, em6, ea4, em4, ea2, et2, er, ehf, eh, erh, esrh, elk, einn, ehi, ed1, ed2, eres, ir, nr⟩ := log_core fw kw f k S X2 X4 P7 P5 Q5 P3 Q3 P1 R1 P6 P4 Q4 P2 R2 R HF HH RH SRH LK IN HI D1 D2 AA i4 ik tg f1 f2 hkR0 hkR
  rw [hAA] at nr
  refine ⟨L, res, l, k, F, f, S, fun P w => archLog_run w x (by omega) (by omega) (by omega) o kw ao f1w fw T s s2 s4 m7 a5 m5 a3 m3 a1 t1 m6 a4 m4 a2 t2 r hf h rh srh lk inn hi d1 d2 res ho e1 e2 e3 e4 eT es es2 es4 em7 ea5 em5 ea3 em3 ea1 et1 em6 ea4 em4 ea2 et2 er ehf eh erh esrh elk einn ehi ed1 ed2 eres, hL, ir, nr, hS, r4, F1, F2, hLF, hk, bd.S, f1, f2, ?_⟩
  · by_cases hk1 : k = 0
    · subst hk1
      have hF1 := hk0 rfl
      have hf0 : 0 ≤ f := by grind
      exact sign_core fw kw f i4 ik hf0 (by grind) T s s2 s4 m7 a5 m5 a3 m3 a1 t1 m6 a4 m4 a2 t2 r hf h rh srh lk inn hi d1 d2 res eT es es2 es4 em7 ea5 em5 ea3 em3 ea1 et1 em6 ea4 em4 ea2 et2 er ehf eh erh esrh elk einn ehi ed1 ed2 eres l ir
    · have hkR1 : 1 ≤ (k:Rat) := by
        have : ((1:Nat):Rat) ≤ (k:Rat) := by exact_mod_cast (show 1 ≤ k by omega)
        exact this
      have hl := lam_b
      have m1 := Rat.mul_le_mul_of_nonneg_right hkR1 (show 0 ≤ lam by grind)
      have bR := bd.R
      rw [hR] at bR
      have bS := bd.S
      have m2 := absm bS.1 bS.2 bR.1 bR.2
      have h98 := small 98 (by decide +kernel)
      unfold Nr at nr
      unfold GG at nr
      generalize S * rho (S * S) = W at *
      generalize (k:Rat) * lam = KL at *
      grind

/-- The logarithm does not fall, but for a hair. -/
theorem log_mono {x y : Nat} {L L' : Rat} {res res' : Nat} {l l' : Rat} {k k' : Nat} {F F' f f' S S' : Rat} (h : Lg x L res l k F f S) (h' : Lg y L' res' l' k' F' f' S') (hL : L ≤ L') : l ≤ l' + 1/100000000000 := by
  have key : (k:Rat) * lam + GG S ≤ (k':Rat) * lam + GG S' + 1/10000000000000 := by
    have hcb := b_cS
    have hlam := lam_b
    rcases Nat.lt_trichotomy k k' with hk | hk | hk
    · have g1 : GG S ≤ GG SM := by
        refine GG_mono (S_mono (by have := h.f1; grind) ?_ h.s SM_eq)
        have := h.F2
        have := h.rf
        unfold fM
        grind
      have g2 : GG Sm ≤ GG S' := by
        refine GG_mono (S_mono (by decide +kernel) ?_ Sm_eq h'.s)
        have := h'.F1
        have := h'.rf
        unfold fm
        grind
      have g3 := seam
      have hkR : (k:Rat) + 1 ≤ (k':Rat) := by
        have : ((k + 1 : Nat):Rat) ≤ (k':Rat) := by exact_mod_cast hk
        push_cast at this
        exact this
      have m1 := Rat.mul_le_mul_of_nonneg_right hkR (show 0 ≤ lam by grind)
      have e : ((k:Rat) + 1) * lam = (k:Rat) * lam + lam := by grind
      rw [e] at m1
      generalize (k:Rat) * lam = A at *
      generalize (k':Rat) * lam = B at *
      generalize GG S = C at *
      generalize GG S' = D at *
      generalize GG SM = E at *
      generalize GG Sm = G at *
      grind
    · subst hk
      have hF : F ≤ F' := by
        have h1 := h.LF
        have h2 := h'.LF
        refine Rat.le_of_mul_le_mul_right (c := 2^(k:Int)) ?_ (p2_pos _)
        rw [← h1, ← h2]
        exact hL
      have hf : f ≤ f' := by have := h.rf; have := h'.rf; grind
      have g := GG_mono (S_mono (by have := h.f1; grind) hf h.s h'.s)
      generalize (k:Rat) * lam = A at *
      generalize GG S = C at *
      generalize GG S' = D at *
      grind
    · exfalso
      have h1 := h.LF
      have h2 := h'.LF
      have m1 := Rat.mul_lt_mul_of_pos_right h.F1 (p2_pos (k:Int))
      have m2 := Rat.mul_le_mul_of_nonneg_right h'.F2 (Rat.le_of_lt (p2_pos (k':Int)))
      have m3 := p2_le (show (k':Int) + 1 ≤ (k:Int) by omega)
      rw [p2_add, show (2:Rat)^(1:Int) = 2 from by decide +kernel] at m3
      have m4 := Rat.mul_le_mul_of_nonneg_left m3 (show 0 ≤ cS by grind)
      generalize (2:Rat)^(k:Int) = A at *
      generalize (2:Rat)^(k':Int) = B at *
      grind
  have n1 := h.near
  have n2 := h'.near
  have hu := uu_le
  unfold Nr at n1 n2
  generalize (k:Rat) * lam + GG S = A at *
  generalize (k':Rat) * lam + GG S' = B at *
  grind

end Go.Proofs.Qxb6616692a
