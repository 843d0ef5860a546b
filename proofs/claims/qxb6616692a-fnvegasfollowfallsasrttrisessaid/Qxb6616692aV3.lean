import Derived.Test.Qxb6616692aV2
namespace Go.Proofs.Qxb6616692a
open Ieee

/-- The quotient with its last digit: what is written is next to the exact quotient. y = 2D/n exactly. -/
theorem quot_near (s : Bool) (A st : Nat) (p : Int) (y : Rat) (hst : st ≤ 1) (hA : 9007199254740992 ≤ A) (h0 : (2 * A : Rat) ≤ y) (h1 : y < 2 * A + 2) (h2 : st = 0 → y = 2 * A) (hp : y * 2^p < 2^(900:Int)) :
    ∃ z, Is (double.nearest s (2 * A + st) p) (sg s * z) ∧ Rnd (y * 2^p) z := by
  have hm : 2 * A + st ≠ 0 := by omega
  have hP := p2_pos p
  generalize hlam : (2 * A + st).log2 = lam
  have b1 : 2^lam ≤ 2 * A + st := by rw [← hlam]; exact Nat.log2_self_le hm
  have b2 : 2 * A + st < 2^(lam+1) := by rw [← hlam]; exact Nat.lt_log2_self
  have hlam54 : 54 ≤ lam := by
    rcases Nat.lt_or_ge lam 54 with h | h
    · have : 2^(lam+1) ≤ 2^54 := Nat.pow_le_pow_right (by omega) (by omega)
      omega
    · exact h
  obtain ⟨w, hw⟩ : ∃ w, 2^lam = 2 * w := ⟨2^(lam-1), by rw [← Nat.pow_succ']; congr 1; omega⟩
  have b1' : 2^lam ≤ 2 * A := by omega
  have b2' : 2 * A + 2 ≤ 2^(lam+1) := by rw [Nat.pow_succ] at b2 ⊢; omega
  have r1 : (2:Rat)^(lam:Int) ≤ y := by
    rw [p2_nat]
    have : ((2^lam : Nat):Rat) ≤ ((2 * A : Nat):Rat) := by exact_mod_cast b1'
    push_cast at this ⊢
    grind
  have r2 : y < (2:Rat)^((lam:Int)+1) := by
    have e : (2:Rat)^((lam:Int) + 1) = ((2^(lam+1) : Nat) : Rat) := p2_nat (lam + 1)
    rw [e]
    have : ((2 * A + 2 : Nat):Rat) ≤ ((2^(lam+1) : Nat):Rat) := by exact_mod_cast b2'
    push_cast at this ⊢
    grind
  have a1 : (2:Rat)^(p + lam) ≤ y * 2^p := by
    have := Rat.mul_le_mul_of_nonneg_right r1 (Rat.le_of_lt hP)
    rw [p2_add]; grind
  have a2 : y * 2^p < (2:Rat)^(p + lam + 1) := by
    have := Rat.mul_lt_mul_of_pos_right r2 hP
    rw [show p + (lam:Int) + 1 = ((lam:Int) + 1) + p by omega, p2_add]; grind
  have hp' : p + lam < 900 := p2_lt (by grind)
  have hcut : ∀ l, l = max (p + (lam:Int) - 52) (-1074) → ((Toward.even.cut s ((2 * A + st) <<< (p - l).toNat) (l - p).toNat : Nat) : Rat) * 2^l - y * 2^p ≤ 2^l / 2 ∧ y * 2^p - ((Toward.even.cut s ((2 * A + st) <<< (p - l).toNat) (l - p).toNat : Nat) : Rat) * 2^l ≤ 2^l / 2 := by
    intro l hl
    obtain ⟨c1, c2⟩ := cut_spec s ((2 * A + st) <<< (p - l).toNat) (l - p).toNat
    generalize Toward.even.cut s ((2 * A + st) <<< (p - l).toNat) (l - p).toNat = k at *
    have e0 : (p - l).toNat = 0 := by omega
    rw [e0, Nat.shiftLeft_zero] at c1 c2
    obtain ⟨d, hd⟩ : ∃ d, (l - p).toNat = d + 2 := ⟨(l - p).toNat - 2, by omega⟩
    rw [hd] at c1 c2
    have e4 : 2^(d+2) = 4 * 2^d := by rw [Nat.pow_add]; omega
    rw [e4] at c1 c2
    have hl2 : (2:Rat)^l = 4 * ((2^d : Nat):Rat) * 2^p := by
      have e5 : (2:Rat)^((d:Int) + 2) = 4 * ((2^d : Nat):Rat) := by
        rw [p2_add, p2_nat, show (2:Rat)^(2:Int) = 4 from by decide +kernel]; grind
      rw [← e5, ← p2_add]; congr 1; omega
    generalize 2^d = g at *
    have k1 : 2 * (k * g) ≤ A + g := by
      have : 2 * k * (4 * g) = 8 * (k * g) := by grind
      omega
    have k2 : A + st ≤ 2 * (k * g) + g := by
      have : 2 * k * (4 * g) = 8 * (k * g) := by grind
      omega
    have k1' : 2 * ((k:Rat) * (g:Rat)) ≤ (A:Rat) + (g:Rat) := by exact_mod_cast k1
    have k2' : (A:Rat) + (st:Rat) ≤ 2 * ((k:Rat) * (g:Rat)) + (g:Rat) := by exact_mod_cast k2
    have f1 : 4 * ((k:Rat) * (g:Rat)) - y ≤ 2 * (g:Rat) := by grind
    have f2 : y - 4 * ((k:Rat) * (g:Rat)) ≤ 2 * (g:Rat) := by
      rcases (show st = 0 ∨ st = 1 by omega) with h | h
      · have := h2 h
        subst h
        have e : ((0:Nat):Rat) = 0 := rfl
        rw [e] at k2'
        grind
      · subst h
        have e : ((1:Nat):Rat) = 1 := rfl
        rw [e] at k2'
        grind
    have t1 := Rat.mul_le_mul_of_nonneg_right f1 (Rat.le_of_lt hP)
    have t2 := Rat.mul_le_mul_of_nonneg_right f2 (Rat.le_of_lt hP)
    rw [hl2]
    constructor <;> grind
  obtain ⟨g1, g2⟩ := hcut _ rfl
  refine nearest_rnd s (2 * A + st) p hm (by omega) _ ?_ ?_ (by rw [hlam]; exact g1) (by rw [hlam]; exact g2)
  · rw [hlam]
    have := p2_le (show p + (lam:Int) + 1 ≤ max (p + (lam:Int) - 52) (-1074) + 53 by omega)
    grind
  · rw [hlam]
    rcases Int.lt_or_le (p + (lam:Int) - 52) (-1074) with hh | hh
    · exact .inl (by omega)
    · refine .inr ?_
      rw [show max (p + (lam:Int) - 52) (-1074) + 52 = p + (lam:Int) by omega]
      exact a1

theorem sg_sq (s : Bool) : sg s * sg s = 1 := by cases s <;> decide +kernel
theorem sg_xor (s t : Bool) : sg (s ^^ t) = sg s * sg t := by cases s <;> cases t <;> decide +kernel

theorem div_spec {x y : Nat} {a b q : Rat} (hx : Is x a) (hy : Is y b) (hb0 : b ≠ 0) (hq : q * b = a) (h1 : q < 2^(900:Int)) (h2 : -q < 2^(900:Int)) : ∃ z c, double.div x y = some z ∧ Is z c ∧ RndS q c := by
  obtain ⟨s, m, i, hr, hm, _, ha⟩ := hx
  obtain ⟨t, n, j, hr', hn, _, hb⟩ := hy
  have hn0 : n ≠ 0 := by
    intro h
    subst h
    apply hb0
    rw [hb]
    simp
  unfold Format.div
  rw [hr, hr']
  simp only [Datum.quotient]
  rw [if_neg hn0]
  simp only [Option.map_some, Format.write, show double.fractionBits + 2 = 54 from rfl]
  by_cases hm0 : m = 0
  · subst hm0
    refine ⟨_, sg (s ^^ t) * 0, rfl, ?_⟩
    have e : 2 * (0 <<< (54 + n.log2 - Nat.log2 0) / n) + (0 <<< (54 + n.log2 - Nat.log2 0) % n != 0).toNat = 0 := by simp
    rw [e]
    have hz := nearest_zero (s ^^ t) (i - j - ((54 + n.log2 - Nat.log2 0 : Nat) : Int) - 1)
    have hq0 : q = 0 := by
      have ha0 : a = 0 := by rw [ha]; simp
      rw [ha0] at hq
      rcases Rat.mul_eq_zero.1 hq with h | h
      · exact h
      · exact absurd h hb0
    subst hq0
    refine ⟨hz.1, ?_⟩
    have := RndS.mk (s ^^ t) Rat.le_refl hz.2
    rw [Rat.mul_zero] at this ⊢
    exact this
  have hlm : m.log2 ≤ 52 := by
    rcases Nat.lt_or_ge 52 m.log2 with h | h
    · have h1 := Nat.log2_self_le hm0
      have h2 : 2^53 ≤ 2^m.log2 := Nat.pow_le_pow_right (by omega) (by omega)
      omega
    · exact h
  generalize hmore : 54 + n.log2 - m.log2 = more
  rw [Nat.shiftLeft_eq]
  -- the dividend is great enough
  have hD : 9007199254740992 * n ≤ m * 2^more := by
    have h1 := Nat.log2_self_le hm0
    have h2 : n < 2^(n.log2 + 1) := Nat.lt_log2_self
    have h3 : 2^m.log2 * 2^more ≤ m * 2^more := Nat.mul_le_mul_right _ h1
    rw [← Nat.pow_add, show m.log2 + more = 53 + (n.log2 + 1) by omega, Nat.pow_add] at h3
    have h4 : 2^53 * n ≤ 2^53 * 2^(n.log2 + 1) := Nat.mul_le_mul_left _ (by omega)
    have e : (2:Nat)^53 = 9007199254740992 := by decide
    rw [e] at h3 h4
    omega
  generalize hDD : m * 2^more = D at *
  have hn1 : 0 < n := by omega
  have hA : 9007199254740992 ≤ D / n := (Nat.le_div_iff_mul_le hn1).2 hD
  have hdm := Nat.div_add_mod D n
  have hml := Nat.mod_lt D hn1
  have hnR : (0:Rat) < (n:Rat) := by exact_mod_cast hn1
  obtain ⟨y0, hy0⟩ : ∃ y0 : Rat, y0 * (n:Rat) = 2 * (D:Rat) := ⟨2 * (D:Rat) / n, Rat.div_mul_cancel (by grind)⟩
  have hdmR : (n:Rat) * ((D / n : Nat):Rat) + ((D % n : Nat):Rat) = (D:Rat) := by exact_mod_cast hdm
  have hmlR : ((D % n : Nat):Rat) < (n:Rat) := by exact_mod_cast hml
  have hm0R : (0:Rat) ≤ ((D % n : Nat):Rat) := by exact_mod_cast Nat.zero_le _
  have q0 : (2 * ((D / n : Nat):Rat)) ≤ y0 := by
    refine Rat.le_of_mul_le_mul_right (c := (n:Rat)) ?_ hnR
    grind
  have q1 : y0 < 2 * ((D / n : Nat):Rat) + 2 := by
    refine Rat.lt_of_mul_lt_mul_right (c := (n:Rat)) ?_ (Rat.le_of_lt hnR)
    grind
  have hstle : (D % n != 0).toNat ≤ 1 := Bool.toNat_le _
  have q2 : (D % n != 0).toNat = 0 → y0 = 2 * ((D / n : Nat):Rat) := by
    intro h
    have hz : D % n = 0 := by
      cases hb : (D % n != 0)
      · simpa using hb
      · rw [hb] at h; cases h
    rw [hz] at hdmR
    have e : ((0:Nat):Rat) = 0 := rfl
    rw [e] at hdmR
    refine Rat.le_antisymm ?_ q0
    refine Rat.le_of_mul_le_mul_right (c := (n:Rat)) ?_ hnR
    grind
  -- the exact quotient's size
  have hPj := p2_pos j
  have huq : sg (s ^^ t) * (y0 * 2^(i - j - (more:Int) - 1)) = q := by
    have hD2 : (D:Rat) = (m:Rat) * 2^(more:Int) := by rw [← hDD, p2_nat]; push_cast; rfl
    have e3 : (2:Rat)^i = 2^(i - j - (more:Int) - 1) * 2^(more:Int) * 2 * 2^j := by
      have h1 : (2:Rat)^(1:Int) = 2 := by decide +kernel
      have h2 : (2:Rat)^i = 2^((i - j - (more:Int) - 1) + (more:Int) + 1 + j) := by congr 1; omega
      rw [h2, p2_add, p2_add, p2_add, h1]
    have key : (sg (s ^^ t) * (y0 * 2^(i - j - (more:Int) - 1))) * b = q * b := by
      rw [hq, ha, hb, sg_xor, e3]
      have h3 := sg_sq t
      have h4 : y0 * (n:Rat) = 2 * ((m:Rat) * 2^(more:Int)) := by rw [hy0, hD2]
      generalize (2:Rat)^(i - j - (more:Int) - 1) = P1 at *
      generalize (2:Rat)^(more:Int) = P2 at *
      generalize (2:Rat)^j = P3 at *
      generalize sg t = T at *
      generalize sg s = S at *
      have : S * T * (y0 * P1) * (T * ((n:Rat) * P3)) = (T * T) * (S * P1 * P3) * (y0 * (n:Rat)) := by grind
      rw [this, h3, h4]
      grind
    have hh : ∀ u v : Rat, u * b = v * b → u = v := by
      intro u v huv
      have h5 : (u - v) * b = 0 := by grind
      rcases Rat.mul_eq_zero.1 h5 with h | h
      · grind
      · exact absurd h hb0
    exact hh _ _ key
  have hy0n : 0 ≤ y0 := by
    have : (0:Rat) ≤ ((D / n : Nat):Rat) := by exact_mod_cast Nat.zero_le _
    grind
  have hPp := p2_pos (i - j - (more:Int) - 1)
  have hu : 0 ≤ y0 * 2^(i - j - (more:Int) - 1) := by
    have := Rat.mul_le_mul_of_nonneg_right hy0n (Rat.le_of_lt hPp)
    grind
  have hlt : y0 * 2^(i - j - (more:Int) - 1) < 2^(900:Int) := by
    rw [← huq] at h1 h2
    cases hs : (s ^^ t) <;> rw [hs] at h1 h2 <;> simp only [sg] at h1 h2 <;> grind
  obtain ⟨z, hz, hrr⟩ := quot_near (s ^^ t) (D / n) (D % n != 0).toNat (i - j - (more:Int) - 1) y0 hstle hA q0 q1 q2 hlt
  refine ⟨_, _, rfl, hz, ?_⟩
  rw [← huq]
  exact RndS.mk _ hu hrr

/-- A whole number as a double. -/
theorem int_spec (n : Int) (h : n.natAbs < 18446744073709551616) : ∃ c, Is (double.nearest (decide (n < 0)) n.natAbs 0) c ∧ RndS (n:Rat) c := by
  have hlt : ((n.natAbs : Nat):Rat) * 2^(0:Int) < 2^(900:Int) := by
    rw [Rat.zpow_zero, Rat.mul_one]
    have : ((n.natAbs : Nat):Rat) < ((18446744073709551616 : Nat):Rat) := by exact_mod_cast h
    have e : ((18446744073709551616 : Nat):Rat) < 2^(900:Int) := by decide +kernel
    grind
  obtain ⟨z, hz, hr⟩ := nearest_spec (decide (n < 0)) n.natAbs 0 hlt
  refine ⟨_, hz, ?_⟩
  have hu : (0:Rat) ≤ ((n.natAbs : Nat):Rat) * 2^(0:Int) := by
    rw [Rat.zpow_zero, Rat.mul_one]
    exact_mod_cast Nat.zero_le _
  have := RndS.mk (decide (n < 0)) hu hr
  have e : sg (decide (n < 0)) * (((n.natAbs : Nat):Rat) * 2^(0:Int)) = (n:Rat) := by
    rw [Rat.zpow_zero, Rat.mul_one]
    by_cases hn : n < 0
    · rw [decide_eq_true hn]
      have e : (n.natAbs : Int) = -n := by omega
      have e2 : ((n.natAbs : Int) : Rat) = ((-n : Int) : Rat) := by rw [e]
      push_cast at e2
      simp only [sg]
      grind
    · rw [decide_eq_false hn]
      have e : (n.natAbs : Int) = n := by omega
      have e2 : ((n.natAbs : Int) : Rat) = ((n : Int) : Rat) := by rw [e]
      push_cast at e2
      simp only [sg]
      grind
  rw [e] at this
  exact this

end Go.Proofs.Qxb6616692a
