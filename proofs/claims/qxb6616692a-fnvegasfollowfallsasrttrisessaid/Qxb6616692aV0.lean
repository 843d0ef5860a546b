import Ieee.Arith
namespace Go.Proofs.Qxb6616692a
open Ieee

/-! ### powers of two -/
theorem two_ne : (2:Rat) ≠ 0 := by decide
theorem p2_pos (e : Int) : (0:Rat) < 2^e := Rat.zpow_pos (by decide)
theorem p2_add (a b : Int) : (2:Rat)^(a+b) = 2^a * 2^b := Rat.zpow_add two_ne a b
theorem p2_nat (n : Nat) : (2:Rat)^(n:Int) = ((2^n : Nat) : Rat) := by
  rw [Rat.zpow_natCast, Rat.natCast_pow]; rfl
theorem one_le_p2 (n : Nat) : (1:Rat) ≤ 2^(n:Int) := by
  rw [p2_nat]
  have : 1 ≤ 2^n := Nat.one_le_two_pow
  exact_mod_cast this
theorem p2_le {a b : Int} (h : a ≤ b) : (2:Rat)^a ≤ 2^b := by
  obtain ⟨n, hn⟩ := Int.le.dest h
  rw [← hn, p2_add]
  have h1 := one_le_p2 n
  have h2 := p2_pos a
  have := Rat.mul_le_mul_of_nonneg_left h1 (Rat.le_of_lt h2)
  grind
theorem p2_lt {a b : Int} (h : (2:Rat)^a < 2^b) : a < b := by
  rcases Int.lt_or_le a b with hh | hh
  · exact hh
  · have := p2_le hh
    grind
theorem p2_53 (l : Int) : (2:Rat)^(l+53) = 9007199254740992 * 2^l := by
  rw [p2_add, show ((2:Rat)^(53:Int)) = 9007199254740992 from by decide +kernel]; grind
theorem p2_52 (l : Int) : (2:Rat)^(l+52) = 4503599627370496 * 2^l := by
  rw [p2_add, show ((2:Rat)^(52:Int)) = 4503599627370496 from by decide +kernel]; grind

/-- z is a double next to v (v, z not negative). -/
def Rnd (v z : Rat) : Prop := ∃ (k : Nat) (l : Int), z = (k:Rat) * 2^l ∧ -1074 ≤ l ∧ v < 2^(l+53) ∧ (l = -1074 ∨ 2^(l+52) ≤ v) ∧ (k:Rat) * 2^l - v ≤ 2^l / 2 ∧ v - (k:Rat) * 2^l ≤ 2^l / 2
/-- A double that is not negative. -/
def Dbl (d : Rat) : Prop := ∃ (k : Nat) (l : Int), d = (k:Rat) * 2^l ∧ k < 9007199254740992 ∧ -1074 ≤ l

/-- (m + 1) P ≤ n P where m < n. -/
theorem step_mul {m n : Nat} {P : Rat} (h : m < n) (hP : 0 < P) : (m:Rat) * P + P ≤ (n:Rat) * P := by
  have h1 : ((m + 1 : Nat):Rat) ≤ (n:Rat) := by exact_mod_cast h
  have h2 := Rat.mul_le_mul_of_nonneg_right h1 (Rat.le_of_lt hP)
  have h3 : ((m + 1 : Nat):Rat) = (m:Rat) + 1 := by push_cast; rfl
  rw [h3] at h2
  grind

theorem Rnd.top {v : Rat} {k : Nat} {l : Int} (h1 : v < 2^(l+53)) (h2 : (k:Rat) * 2^l - v ≤ 2^l / 2) : k ≤ 9007199254740992 := by
  have hP := p2_pos l
  rcases Nat.lt_or_ge 9007199254740992 k with h | h
  · have := step_mul h hP
    rw [p2_53] at h1
    have e : ((9007199254740992 : Nat):Rat) = 9007199254740992 := rfl
    rw [e] at this
    grind
  · exact h
theorem Rnd.bot {v : Rat} {k : Nat} {l : Int} (h1 : 2^(l+52) ≤ v) (h2 : v - (k:Rat) * 2^l ≤ 2^l / 2) : 4503599627370496 ≤ k := by
  have hP := p2_pos l
  rcases Nat.lt_or_ge k 4503599627370496 with h | h
  · have := step_mul h hP
    rw [p2_52] at h1
    have e : ((4503599627370496 : Nat):Rat) = 4503599627370496 := rfl
    rw [e] at this
    grind
  · exact h
theorem nat_mul_le {m n : Nat} {P : Rat} (h : m ≤ n) (hP : 0 < P) : (m:Rat) * P ≤ (n:Rat) * P :=
  Rat.mul_le_mul_of_nonneg_right (by exact_mod_cast h) (Rat.le_of_lt hP)

theorem Rnd.mono {v1 v2 z1 z2 : Rat} (h1 : Rnd v1 z1) (h2 : Rnd v2 z2) (h : v1 < v2) : z1 ≤ z2 := by
  obtain ⟨k1, l1, rfl, a1, b1, c1, d1, e1⟩ := h1
  obtain ⟨k2, l2, rfl, a2, b2, c2, d2, e2⟩ := h2
  have hP1 := p2_pos l1
  have hP2 := p2_pos l2
  rcases Int.lt_trichotomy l1 l2 with hl | hl | hl
  · have hk1 := Rnd.top b1 d1
    have c2' : (2:Rat)^(l2+52) ≤ v2 := by rcases c2 with h | h; · omega
                                          · exact h
    have hk2 := Rnd.bot c2' e2
    have t1 := nat_mul_le hk1 hP1
    have t2 := nat_mul_le hk2 hP2
    have t3 := p2_le (show l1 + 53 ≤ l2 + 52 by omega)
    rw [p2_53, p2_52] at t3
    have e : ((9007199254740992 : Nat):Rat) = 9007199254740992 := rfl
    have e' : ((4503599627370496 : Nat):Rat) = 4503599627370496 := rfl
    rw [e] at t1
    rw [e'] at t2
    grind
  · subst hl
    rcases Nat.lt_or_ge k2 k1 with hk | hk
    · have := step_mul hk hP1
      grind
    · exact nat_mul_le hk hP1
  · have c1' : (2:Rat)^(l1+52) ≤ v1 := by rcases c1 with h | h; · omega
                                          · exact h
    have t3 := p2_le (show l2 + 53 ≤ l1 + 52 by omega)
    grind

theorem Dbl.mult {k0 : Nat} {l l0 : Int} (h : l ≤ l0) : ∃ N : Nat, (k0:Rat) * 2^l0 = (N:Rat) * 2^l := by
  obtain ⟨n, hn⟩ := Int.le.dest h
  refine ⟨k0 * 2^n, ?_⟩
  rw [← hn, p2_add, p2_nat]
  push_cast
  grind
theorem Dbl.lt {k0 : Nat} {l0 : Int} (h : k0 < 9007199254740992) : (k0:Rat) * 2^l0 < 2^(l0+53) := by
  have := step_mul h (p2_pos l0)
  have e : ((9007199254740992 : Nat):Rat) = 9007199254740992 := rfl
  rw [e] at this
  rw [p2_53]
  have := p2_pos l0
  grind

theorem Rnd.le_dbl {v z d : Rat} (h : Rnd v z) (hd : Dbl d) (hv : v ≤ d) : z ≤ d := by
  obtain ⟨k, l, rfl, a, b, c, d1, e1⟩ := h
  obtain ⟨k0, l0, rfl, hk, hl0⟩ := hd
  have hP := p2_pos l
  rcases Int.lt_or_le l0 l with hl | hl
  · have c' : (2:Rat)^(l+52) ≤ v := by rcases c with h | h; · omega
                                       · exact h
    have t1 := Dbl.lt (l0 := l0) hk
    have t2 := p2_le (show l0 + 53 ≤ l + 52 by omega)
    grind
  · obtain ⟨N, hN⟩ := Dbl.mult (k0 := k0) hl
    rw [hN] at hv ⊢
    rcases Nat.lt_or_ge N k with hk | hk
    · have := step_mul hk hP
      grind
    · exact nat_mul_le hk hP
theorem Rnd.dbl_le {v z d : Rat} (h : Rnd v z) (hd : Dbl d) (hv : d ≤ v) : d ≤ z := by
  obtain ⟨k, l, rfl, a, b, c, d1, e1⟩ := h
  obtain ⟨k0, l0, rfl, hk, hl0⟩ := hd
  have hP := p2_pos l
  rcases Int.lt_or_le l0 l with hl | hl
  · have c' : (2:Rat)^(l+52) ≤ v := by rcases c with h | h; · omega
                                       · exact h
    have t1 := Dbl.lt (l0 := l0) hk
    have t2 := p2_le (show l0 + 53 ≤ l + 52 by omega)
    have t3 := nat_mul_le (Rnd.bot c' e1) hP
    have e' : ((4503599627370496 : Nat):Rat) = 4503599627370496 := rfl
    rw [e'] at t3
    rw [p2_52] at t2
    grind
  · obtain ⟨N, hN⟩ := Dbl.mult (k0 := k0) hl
    rw [hN] at hv ⊢
    rcases Nat.lt_or_ge k N with hk | hk
    · have := step_mul hk hP
      grind
    · exact nat_mul_le hk hP
theorem Rnd.eq {v z : Rat} (h : Rnd v z) (hd : Dbl v) : z = v := Rat.le_antisymm (h.le_dbl hd Rat.le_refl) (h.dbl_le hd Rat.le_refl)
theorem Rnd.dbl {v z : Rat} (h : Rnd v z) : Dbl z := by
  obtain ⟨k, l, rfl, a, b, c, d1, e1⟩ := h
  have hk := Rnd.top b d1
  rcases Nat.lt_or_ge k 9007199254740992 with h | h
  · exact ⟨k, l, rfl, h, a⟩
  · obtain rfl : k = 9007199254740992 := by omega
    refine ⟨4503599627370496, l + 1, ?_, by omega, by omega⟩
    rw [p2_add]
    have e : ((9007199254740992 : Nat):Rat) = 9007199254740992 := rfl
    have e' : ((4503599627370496 : Nat):Rat) = 4503599627370496 := rfl
    have e2 : (2:Rat)^(1:Int) = 2 := by decide +kernel
    rw [e, e', e2]
    grind
theorem Rnd.nonneg {v z : Rat} (h : Rnd v z) : 0 ≤ z := by
  obtain ⟨k, l, rfl, _⟩ := h
  have h1 : (0:Rat) ≤ (k:Rat) := by exact_mod_cast Nat.zero_le k
  have := Rat.mul_le_mul_of_nonneg_right h1 (Rat.le_of_lt (p2_pos l))
  grind
/-- the least step -/
def ty : Rat := 2^(-1075 : Int)
theorem ty_pos : 0 < ty := p2_pos _
theorem ty_small : ty ≤ 1/2^1000 := by decide +kernel
theorem Rnd.err {v z M : Rat} (h : Rnd v z) (hv : v ≤ M) (h0 : 0 ≤ M) : z - v ≤ M / 9007199254740992 + ty ∧ v - z ≤ M / 9007199254740992 + ty := by
  obtain ⟨k, l, rfl, a, b, c, d1, e1⟩ := h
  have ht := ty_pos
  have hP := p2_pos l
  rcases c with c | c
  · subst c
    have e : (2:Rat)^(-1074 : Int) / 2 = ty := by decide +kernel
    rw [e] at d1 e1
    have : 0 ≤ M / 9007199254740992 := by grind
    grind
  · rw [p2_52] at c
    grind

end Go.Proofs.Qxb6616692a
