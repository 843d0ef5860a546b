import Derived.Test.Qxb6616692aV0
namespace Go.Proofs.Qxb6616692a
open Ieee

theorem cut_spec (s : Bool) (n d : Nat) : 2 * (Toward.even.cut s n d) * 2^d ≤ 2 * n + 2^d ∧ 2 * n ≤ 2 * (Toward.even.cut s n d) * 2^d + 2^d := by
  unfold Toward.cut
  simp only [Nat.shiftLeft_eq, Nat.one_mul]
  by_cases hd : d ≤ n.log2 + 2
  · rw [Nat.min_eq_left hd]
    have h1 := Nat.div_add_mod n (2^d)
    generalize hlow : n / 2^d = low at *
    generalize hrest : n % 2^d = rest at *
    have hr : rest < 2^d := by rw [← hrest]; exact Nat.mod_lt _ (Nat.two_pow_pos d)
    generalize 2^d = g at *
    have e1 : 2 * (low + 1) * g = 2 * (g * low) + 2 * g := by rw [Nat.mul_comm g low]; grind
    have e0 : 2 * (low + 0) * g = 2 * (g * low) := by rw [Nat.mul_comm g low]; grind
    cases hm : (decide (g < 2 * rest) || (g == 2 * rest && low % 2 == 1))
    · simp only [Bool.toNat_false]
      rw [Bool.or_eq_false_iff] at hm
      have := of_decide_eq_false hm.1
      rw [e0]
      omega
    · simp only [Bool.toNat_true]
      rw [Bool.or_eq_true] at hm
      have : g ≤ 2 * rest := by
        rcases hm with h | h
        · have := of_decide_eq_true h
          omega
        · rw [Bool.and_eq_true] at h
          have := eq_of_beq h.1
          omega
      rw [e1]
      omega
  · rw [Nat.min_eq_right (by omega)]
    have hn : n < 2^(n.log2 + 1) := Nat.lt_log2_self
    have h2 : 2^(n.log2 + 2) = 2 * 2^(n.log2 + 1) := by rw [Nat.pow_succ, Nat.mul_comm]
    have h3 : 2^(n.log2 + 2) ≤ 2^d := Nat.pow_le_pow_right (by omega) (by omega)
    rw [Nat.div_eq_of_lt (by omega), Nat.mod_eq_of_lt (by omega)]
    have e1 : (decide (2^(n.log2 + 2) < 2 * n) || (2^(n.log2 + 2) == 2 * n && 0 % 2 == 1)) = false := by
      rw [Bool.or_eq_false_iff]
      refine ⟨decide_eq_false (by omega), ?_⟩
      simp
    rw [e1]
    simp only [Bool.toNat_false]
    omega

theorem dd_sign : double.signWeight = 9223372036854775808 := by decide
theorem dd_inf : double.infRung = 9218868437227405312 := by decide
theorem dd_bin : double.binade = 4503599627370496 := by decide
theorem dd_least : double.leastPlace = -1074 := by decide

theorem read_word (s : Bool) (r : Nat) (h : r < 9218868437227405312) : double.read (double.word s r) =
    if r < 4503599627370496 then .number s r (-1074) else .number s (4503599627370496 + r % 4503599627370496) (-1074 + (r / 4503599627370496 - 1 : Nat)) := by
  have hm : double.word s r % 9223372036854775808 = r := by
    unfold Format.word
    rw [dd_sign]
    cases s <;> simp <;> omega
  have hs : (double.word s r / 9223372036854775808 % 2 == 1) = s := by
    unfold Format.word
    rw [dd_sign]
    cases s
    · simp; omega
    · simp; omega
  unfold Format.read
  simp only [dd_sign, dd_inf, dd_bin, dd_least, hm, hs]
  rw [if_pos h]

def sg (s : Bool) : Rat := if s then -1 else 1
/-- The word x is a finite double of value v. -/
def Is (x : Nat) (v : Rat) : Prop := ∃ (s : Bool) (m : Nat) (e : Int), double.read x = .number s m e ∧ m < 9007199254740992 ∧ -1074 ≤ e ∧ v = sg s * ((m:Rat) * 2^e)

theorem read_rung (s : Bool) (q k : Nat) (hq : q ≤ 2000) (hk : k ≤ 9007199254740992) (hb : q = 0 ∨ 4503599627370496 ≤ k) : Is (double.word s (q * 4503599627370496 + k)) (sg s * ((k:Rat) * 2^((q:Int) - 1074))) := by
  have hr : q * 4503599627370496 + k < 9218868437227405312 := by omega
  unfold Is
  rw [read_word s _ hr]
  by_cases h1 : q * 4503599627370496 + k < 4503599627370496
  · rw [if_pos h1]
    obtain rfl : q = 0 := by omega
    refine ⟨s, _, _, rfl, by omega, by omega, ?_⟩
    rw [Nat.zero_mul, Nat.zero_add]
    rfl
  · rw [if_neg h1]
    by_cases h2 : k = 9007199254740992
    · subst h2
      have e1 : (q * 4503599627370496 + 9007199254740992) % 4503599627370496 = 0 := by omega
      have e2 : (q * 4503599627370496 + 9007199254740992) / 4503599627370496 - 1 = q + 1 := by omega
      rw [e1, e2, Nat.add_zero]
      refine ⟨s, _, _, rfl, by omega, by omega, ?_⟩
      rw [show (-1074 + ((q + 1 : Nat):Int)) = ((q:Int) - 1074) + 1 by omega, p2_add]
      have e : ((9007199254740992 : Nat):Rat) = 9007199254740992 := rfl
      have e' : ((4503599627370496 : Nat):Rat) = 4503599627370496 := rfl
      have e2 : (2:Rat)^(1:Int) = 2 := by decide +kernel
      rw [e, e', e2]
      grind
    · have e1 : 4503599627370496 + (q * 4503599627370496 + k) % 4503599627370496 = k := by omega
      have e2 : (q * 4503599627370496 + k) / 4503599627370496 - 1 = q := by omega
      rw [e1, e2]
      refine ⟨s, _, _, rfl, by omega, by omega, ?_⟩
      rw [show ((q:Int) - 1074) = -1074 + (q:Int) by omega]

/-- What 'nearest' writes: the exact value v lies by the number that is cut. -/
theorem nearest_rnd (s : Bool) (m : Nat) (p : Int) (hm : m ≠ 0) (hp : p + m.log2 ≤ 900) (v : Rat)
    (hv : v < 2^(max (p + m.log2 - 52) (-1074) + 53)) (hv2 : max (p + m.log2 - 52) (-1074) = -1074 ∨ 2^(max (p + m.log2 - 52) (-1074) + 52) ≤ v)
    (h1 : ((Toward.even.cut s (m <<< (p - max (p + m.log2 - 52) (-1074)).toNat) (max (p + m.log2 - 52) (-1074) - p).toNat : Nat) : Rat) * 2^(max (p + m.log2 - 52) (-1074)) - v ≤ 2^(max (p + m.log2 - 52) (-1074)) / 2)
    (h2 : v - ((Toward.even.cut s (m <<< (p - max (p + m.log2 - 52) (-1074)).toNat) (max (p + m.log2 - 52) (-1074) - p).toNat : Nat) : Rat) * 2^(max (p + m.log2 - 52) (-1074)) ≤ 2^(max (p + m.log2 - 52) (-1074)) / 2) :
    ∃ z, Is (double.nearest s m p) (sg s * z) ∧ Rnd v z := by
  have hn : double.nearest s m p = double.word s (min ((max (p + m.log2 - 52) (-1074) + 1074).toNat * 4503599627370496 + Toward.even.cut s (m <<< (p - max (p + m.log2 - 52) (-1074)).toNat) (max (p + m.log2 - 52) (-1074) - p).toNat) 9218868437227405312) := by
    unfold Format.nearest
    rw [if_neg hm]
    simp only [dd_inf, dd_bin, dd_least]
    rfl
  rw [hn]
  generalize Toward.even.cut s (m <<< (p - max (p + m.log2 - 52) (-1074)).toNat) (max (p + m.log2 - 52) (-1074) - p).toNat = k at *
  generalize hl : max (p + (m.log2 : Int) - 52) (-1074) = l at *
  have hl1 : -1074 ≤ l := by omega
  have hk := Rnd.top hv h1
  have hb : l = -1074 ∨ 4503599627370496 ≤ k := by
    rcases hv2 with h | h
    · exact .inl h
    · exact .inr (Rnd.bot h h2)
  have hq : (l + 1074).toNat ≤ 2000 := by omega
  rw [Nat.min_eq_left (by omega)]
  refine ⟨(k:Rat) * 2^l, ?_, k, l, rfl, hl1, hv, hv2, h1, h2⟩
  have := read_rung s (l + 1074).toNat k hq hk (by omega)
  rw [show (((l + 1074).toNat : Int) - 1074) = l by omega] at this
  exact this

set_option exponentiation.threshold 2000 in
theorem nearest_zero (s : Bool) (p : Int) : Is (double.nearest s 0 p) (sg s * 0) ∧ Rnd 0 0 := by
  refine ⟨?_, 0, -1074, ?_, Int.le_refl _, p2_pos _, .inl rfl, ?_, ?_⟩
  · have := read_rung s 0 0 (by omega) (by omega) (.inl rfl)
    unfold Format.nearest
    rw [if_pos rfl]
    rw [show ((0:Nat):Rat) = 0 from rfl, Rat.zero_mul] at this
    exact this
  · simp
  · have := p2_pos (-1074); simp; grind
  · have := p2_pos (-1074); simp; grind

theorem log2_le {m : Nat} (hm : m ≠ 0) : (2:Rat)^(m.log2 : Int) ≤ (m:Rat) := by
  rw [p2_nat]
  exact_mod_cast Nat.log2_self_le hm
theorem lt_log2 (m : Nat) : (m:Rat) < (2:Rat)^((m.log2 : Int) + 1) := by
  have : (2:Rat)^((m.log2 : Int) + 1) = ((2^(m.log2+1) : Nat) : Rat) := p2_nat (m.log2 + 1)
  rw [this]
  exact_mod_cast Nat.lt_log2_self

theorem nearest_spec (s : Bool) (m : Nat) (p : Int) (h : (m:Rat) * 2^p < 2^(900:Int)) : ∃ z, Is (double.nearest s m p) (sg s * z) ∧ Rnd ((m:Rat) * 2^p) z := by
  by_cases hm : m = 0
  · subst hm
    have := nearest_zero s p
    refine ⟨0, this.1, ?_⟩
    have e : ((0:Nat):Rat) * 2^p = 0 := by simp
    rw [e]
    exact this.2
  have hP := p2_pos p
  have a1 : (2:Rat)^(p + m.log2) ≤ (m:Rat) * 2^p := by
    have := Rat.mul_le_mul_of_nonneg_right (log2_le hm) (Rat.le_of_lt hP)
    rw [p2_add]; grind
  have a2 : (m:Rat) * 2^p < (2:Rat)^(p + m.log2 + 1) := by
    have := Rat.mul_lt_mul_of_pos_right (lt_log2 m) hP
    rw [show p + (m.log2:Int) + 1 = ((m.log2:Int) + 1) + p by omega, p2_add]; grind
  have hp : p + m.log2 < 900 := p2_lt (by grind)
  have hcut : ∀ l, l = max (p + (m.log2:Int) - 52) (-1074) → ((Toward.even.cut s (m <<< (p - l).toNat) (l - p).toNat : Nat) : Rat) * 2^l - (m:Rat) * 2^p ≤ 2^l / 2 ∧ (m:Rat) * 2^p - ((Toward.even.cut s (m <<< (p - l).toNat) (l - p).toNat : Nat) : Rat) * 2^l ≤ 2^l / 2 := by
    intro l _
    obtain ⟨c1, c2⟩ := cut_spec s (m <<< (p - l).toNat) (l - p).toNat
    generalize Toward.even.cut s (m <<< (p - l).toNat) (l - p).toNat = k at *
    rw [Nat.shiftLeft_eq] at c1 c2
    have c1' : 2 * (k:Rat) * ((2^(l - p).toNat : Nat):Rat) ≤ 2 * ((m:Rat) * ((2^(p - l).toNat : Nat):Rat)) + ((2^(l - p).toNat : Nat):Rat) := by exact_mod_cast c1
    have c2' : 2 * ((m:Rat) * ((2^(p - l).toNat : Nat):Rat)) ≤ 2 * (k:Rat) * ((2^(l - p).toNat : Nat):Rat) + ((2^(l - p).toNat : Nat):Rat) := by exact_mod_cast c2
    rw [← p2_nat, ← p2_nat] at c1' c2'
    rcases Int.lt_or_le p l with hpl | hpl
    · have e1 : ((l - p).toNat : Int) = l - p := by omega
      have e2 : ((p - l).toNat : Int) = 0 := by omega
      rw [e1, e2, Rat.zpow_zero] at c1' c2'
      have e3 : (2:Rat)^l = 2^(l - p) * 2^p := by rw [← p2_add]; congr 1; omega
      have t1 := Rat.mul_le_mul_of_nonneg_right c1' (Rat.le_of_lt hP)
      have t2 := Rat.mul_le_mul_of_nonneg_right c2' (Rat.le_of_lt hP)
      rw [e3]
      constructor <;> grind
    · have e1 : ((l - p).toNat : Int) = 0 := by omega
      have e2 : ((p - l).toNat : Int) = p - l := by omega
      rw [e1, e2, Rat.zpow_zero] at c1' c2'
      have e3 : (2:Rat)^p = 2^(p - l) * 2^l := by rw [← p2_add]; congr 1; omega
      have hL := p2_pos l
      have t1 := Rat.mul_le_mul_of_nonneg_right c1' (Rat.le_of_lt hL)
      have t2 := Rat.mul_le_mul_of_nonneg_right c2' (Rat.le_of_lt hL)
      rw [e3]
      constructor <;> grind
  obtain ⟨g1, g2⟩ := hcut _ rfl
  refine nearest_rnd s m p hm (by omega) _ ?_ ?_ g1 g2
  · have := p2_le (show p + (m.log2:Int) + 1 ≤ max (p + (m.log2:Int) - 52) (-1074) + 53 by omega)
    grind
  · rcases Int.lt_or_le (p + (m.log2:Int) - 52) (-1074) with hh | hh
    · exact .inl (by omega)
    · refine .inr ?_
      rw [show max (p + (m.log2:Int) - 52) (-1074) + 52 = p + (m.log2:Int) by omega]
      exact a1

end Go.Proofs.Qxb6616692a
