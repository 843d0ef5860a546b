import Derived.Test.Qxb6616692aV10
namespace Go.Proofs.Qxb6616692a
open Ieee

/-! ### one value, one word -/
theorem canon {m m' : Nat} {e e' : Int} (hm : m < 9007199254740992) (hm' : m' < 9007199254740992) (h : e = -1074 ∨ 4503599627370496 ≤ m) (h' : e' = -1074 ∨ 4503599627370496 ≤ m') (he : -1074 ≤ e) (he' : -1074 ≤ e')
    (hv : (m:Rat) * 2^e = (m':Rat) * 2^e') : m = m' ∧ e = e' := by
  have aux : ∀ {m m' : Nat} {e e' : Int}, m < 9007199254740992 → (e' = -1074 ∨ 4503599627370496 ≤ m') → -1074 ≤ e → e < e' → (m:Rat) * 2^e = (m':Rat) * 2^e' → False := by
    intro m m' e e' hm h' he hlt hv
    have h'' : 4503599627370496 ≤ m' := by omega
    have k1 := Dbl.lt (l0 := e) hm
    have k2 := nat_mul_le h'' (p2_pos e')
    have k3 := p2_le (show e + 53 ≤ e' + 52 by omega)
    rw [p2_52] at k3
    have e4 : ((4503599627370496 : Nat):Rat) = 4503599627370496 := rfl
    rw [e4] at k2
    grind
  rcases Int.lt_trichotomy e e' with hlt | heq | hgt
  · exact (aux hm h' he hlt hv).elim
  · subst heq
    refine ⟨?_, rfl⟩
    have hP := p2_pos e
    rcases Nat.lt_trichotomy m m' with h1 | h1 | h1
    · have := step_mul h1 hP; grind
    · exact h1
    · have := step_mul h1 hP; grind
  · exact (aux hm' h he' hgt hv.symm).elim

/-- How a word of a number that is not negative reads. -/
theorem read_inv {x : Nat} {s : Bool} {m : Nat} {e : Int} (hx : x < 18446744073709551616) (h : double.read x = .number s m e) :
    x = (if s then 9223372036854775808 else 0) + ((e + 1074).toNat * 4503599627370496 + m) ∧ m < 9007199254740992 ∧ -1074 ≤ e ∧ (e = -1074 ∨ 4503599627370496 ≤ m) := by
  unfold Format.read at h
  simp only [dd_sign, dd_inf, dd_bin, dd_least] at h
  generalize hr : x % 9223372036854775808 = r at h
  have hrlt : r < 9223372036854775808 := by omega
  generalize hs : (x / 9223372036854775808 % 2 == 1) = s' at h
  have hs2 : x = (if s' then 9223372036854775808 else 0) + r := by
    cases s'
    · have : ¬ (x / 9223372036854775808 % 2 = 1) := by simpa using hs
      simp
      omega
    · have : x / 9223372036854775808 % 2 = 1 := by simpa using hs
      simp
      omega
  split at h
  · injection h with h1 h2 h3
    subst h1 h2 h3
    refine ⟨?_, by omega, by omega, .inl rfl⟩
    simpa using hs2
  · split at h
    · injection h with h1 h2 h3
      subst h1 h2 h3
      refine ⟨?_, by omega, by omega, .inr (by omega)⟩
      have : ((-1074 + ((r / 4503599627370496 - 1 : Nat):Int) + 1074).toNat * 4503599627370496 + (4503599627370496 + r % 4503599627370496)) = r := by omega
      rw [this]
      exact hs2
    · split at h <;> cases h

theorem pos_sign {x : Nat} {v : Rat} (h : Is x v) (hv : 0 < v) : ∃ (m : Nat) (e : Int), double.read x = .number false m e ∧ v = (m:Rat) * 2^e := by
  obtain ⟨s, m, e, hr, _, _, hv'⟩ := h
  cases s
  · exact ⟨m, e, hr, by rw [hv']; simp [sg]⟩
  · exfalso
    have h1 : (0:Rat) ≤ (m:Rat) := by exact_mod_cast Nat.zero_le m
    have h2 := Rat.mul_nonneg h1 (Rat.le_of_lt (p2_pos e))
    rw [hv'] at hv
    simp only [sg] at hv
    grind

theorem is_inj {x y : Nat} {v : Rat} (hx : Is x v) (hy : Is y v) (hv : 0 < v) (h1 : x < 18446744073709551616) (h2 : y < 18446744073709551616) : x = y := by
  obtain ⟨m, e, hr, hm⟩ := pos_sign hx hv
  obtain ⟨m', e', hr', hm'⟩ := pos_sign hy hv
  obtain ⟨a1, a2, a3, a4⟩ := read_inv h1 hr
  obtain ⟨b1, b2, b3, b4⟩ := read_inv h2 hr'
  obtain ⟨rfl, rfl⟩ := canon a2 b2 a4 b4 a3 b3 (by rw [← hm, ← hm'])
  rw [a1, b1]

/-! ### Ceil -/
def cW (x : Nat) : Nat := double.write ((double.read x).integral .up)

theorem cut_up (n d : Nat) : n ≤ (Toward.up.cut false n d) * 2^d ∧ (Toward.up.cut false n d) * 2^d < n + 2^d := by
  unfold Toward.cut
  simp only [Nat.shiftLeft_eq, Nat.one_mul, Bool.not_false, Bool.true_and]
  by_cases hd : d ≤ n.log2 + 2
  · rw [Nat.min_eq_left hd]
    have h1 := Nat.div_add_mod n (2^d)
    have hr : n % 2^d < 2^d := Nat.mod_lt _ (Nat.two_pow_pos d)
    generalize n / 2^d = low at *
    generalize n % 2^d = rest at *
    generalize 2^d = g at *
    by_cases h0 : rest = 0
    · subst h0
      simp only [bne_self_eq_false, Bool.toNat_false, Nat.add_zero]
      rw [Nat.mul_comm low g]
      omega
    · have : (rest != 0) = true := by simpa using h0
      rw [this]
      simp only [Bool.toNat_true]
      rw [Nat.add_mul, Nat.mul_comm low g]
      omega
  · rw [Nat.min_eq_right (by omega)]
    have hn : n < 2^(n.log2 + 1) := Nat.lt_log2_self
    have h2 : 2^(n.log2 + 2) = 2 * 2^(n.log2 + 1) := by rw [Nat.pow_succ, Nat.mul_comm]
    have h3 : 2^(n.log2 + 2) ≤ 2^d := Nat.pow_le_pow_right (by omega) (by omega)
    rw [Nat.div_eq_of_lt (by omega), Nat.mod_eq_of_lt (by omega)]
    by_cases h0 : n = 0
    · subst h0
      simp
      exact Nat.two_pow_pos d
    · have : (n != 0) = true := by simpa using h0
      rw [this]
      simp only [Bool.toNat_true]
      omega

theorem ceil_spec {x : Nat} {a : Rat} (hx : Is x a) (h0 : 0 ≤ a) (h1 : a ≤ 1000000000000) : ∃ N : Nat, Is (cW x) (N:Rat) ∧ a ≤ (N:Rat) ∧ (N:Rat) < a + 1 := by
  obtain ⟨s, m, e, hr, hm, he, ha⟩ := hx
  unfold cW
  rw [hr]
  simp only [Datum.integral, Format.write]
  by_cases hm0 : m = 0
  · subst hm0
    have ha0 : a = 0 := by rw [ha]; simp
    have hc : Toward.up.cut s (0 <<< e.toNat) (-e).toNat = 0 := by
      unfold Toward.cut
      simp
    rw [hc]
    have := (nearest_zero s 0).1
    rw [Rat.mul_zero] at this
    exact ⟨0, this, by rw [ha0]; exact Rat.le_refl, by rw [ha0]; decide +kernel⟩
  have hs : s = false := by
    cases s
    · rfl
    · exfalso
      have k1 : (0:Rat) < (m:Rat) := by exact_mod_cast (show 0 < m by omega)
      have k2 := Rat.mul_pos k1 (p2_pos e)
      rw [ha] at h0
      simp only [sg] at h0
      grind
  subst hs
  have ha' : a = (m:Rat) * 2^e := by rw [ha]; simp [sg]
  obtain ⟨c1, c2⟩ := cut_up (m <<< e.toNat) (-e).toNat
  generalize Toward.up.cut false (m <<< e.toNat) (-e).toNat = N at *
  rw [Nat.shiftLeft_eq] at c1 c2
  have c1' : (m:Rat) * ((2^e.toNat : Nat):Rat) ≤ (N:Rat) * ((2^(-e).toNat : Nat):Rat) := by exact_mod_cast c1
  have c2' : (N:Rat) * ((2^(-e).toNat : Nat):Rat) < (m:Rat) * ((2^e.toNat : Nat):Rat) + ((2^(-e).toNat : Nat):Rat) := by exact_mod_cast c2
  rw [← p2_nat, ← p2_nat] at c1' c2'
  have hN : a ≤ (N:Rat) ∧ (N:Rat) < a + 1 := by
    rcases Int.lt_or_le e 0 with hneg | hpos
    · have e1 : (e.toNat : Int) = 0 := by omega
      have e2 : ((-e).toNat : Int) = -e := by omega
      rw [e1, e2, Rat.zpow_zero] at c1' c2'
      have e3 : (2:Rat)^(-e) * 2^e = 1 := by rw [← p2_add, show -e + e = 0 by omega, Rat.zpow_zero]
      have hP := p2_pos e
      have t1 := Rat.mul_le_mul_of_nonneg_right c1' (Rat.le_of_lt hP)
      have t2 := Rat.mul_lt_mul_of_pos_right c2' hP
      have e4 : (N:Rat) * 2^(-e) * 2^e = (N:Rat) := by rw [Rat.mul_assoc, e3, Rat.mul_one]
      rw [e4] at t1 t2
      have e5 : ((m:Rat) * 1 + 2^(-e)) * 2^e = (m:Rat) * 2^e + 1 := by grind
      rw [e5] at t2
      rw [ha']
      constructor <;> grind
    · have e1 : (e.toNat : Int) = e := by omega
      have e2 : ((-e).toNat : Int) = 0 := by omega
      rw [e1, e2, Rat.zpow_zero] at c1' c2'
      rw [ha']
      constructor <;> grind
  have hNlt : N < 9007199254740992 := by
    have k1 : (N:Rat) < ((1000000000001:Nat):Rat) := by
      have e1 : ((1000000000001:Nat):Rat) = 1000000000001 := rfl
      rw [e1]
      grind
    have k2 : N < 1000000000001 := by exact_mod_cast k1
    omega
  have e0 : (N:Rat) * 2^(0:Int) = (N:Rat) := by rw [Rat.zpow_zero, Rat.mul_one]
  obtain ⟨z, hz, hr2⟩ := nearest_spec false N 0 (by
    rw [e0]
    have k1 : (N:Rat) < ((9007199254740992:Nat):Rat) := by exact_mod_cast hNlt
    have k2 : ((9007199254740992:Nat):Rat) < 2^(900:Int) := by decide +kernel
    grind)
  rw [e0] at hr2
  have hzN : z = (N:Rat) := hr2.eq ⟨N, 0, e0.symm, hNlt, by omega⟩
  subst hzN
  refine ⟨N, ?_, hN.1, hN.2⟩
  simpa [sg] using hz

end Go.Proofs.Qxb6616692a
