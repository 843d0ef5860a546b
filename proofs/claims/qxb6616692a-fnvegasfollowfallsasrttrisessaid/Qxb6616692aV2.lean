import Derived.Test.Qxb6616692aV1
namespace Go.Proofs.Qxb6616692a
open Ieee

/-- z is a double next to v, whatever the sign. -/
def RndS (v z : Rat) : Prop := (0 ≤ v ∧ Rnd v z) ∨ (v ≤ 0 ∧ Rnd (-v) (-z))

theorem RndS.mk (s : Bool) {u z : Rat} (hu : 0 ≤ u) (h : Rnd u z) : RndS (sg s * u) (sg s * z) := by
  cases s
  · refine .inl ?_
    have e1 : sg false * u = u := by simp [sg]
    have e2 : sg false * z = z := by simp [sg]
    rw [e1, e2]
    exact ⟨hu, h⟩
  · refine .inr ?_
    have e1 : sg true * u = -u := by simp only [sg]; grind
    have e2 : sg true * z = -z := by simp only [sg]; grind
    rw [e1, e2]
    have e3 : - -u = u := by grind
    have e4 : - -z = z := by grind
    rw [e3, e4]
    exact ⟨by grind, h⟩
theorem RndS.err {v z M : Rat} (h : RndS v z) (h1 : v ≤ M) (h2 : -M ≤ v) : z - v ≤ M / 9007199254740992 + ty ∧ v - z ≤ M / 9007199254740992 + ty := by
  rcases h with ⟨h0, h⟩ | ⟨h0, h⟩
  · exact h.err h1 (by grind)
  · have := h.err (M := M) (by grind) (by grind)
    constructor <;> grind
theorem RndS.pos {v z : Rat} (h : RndS v z) (hv : 0 < v) : Rnd v z := by
  rcases h with ⟨_, h⟩ | ⟨h0, _⟩
  · exact h
  · grind
theorem Dbl.zero : Dbl 0 := ⟨0, 0, by simp, by omega, by omega⟩
theorem RndS.zero {z : Rat} (h : RndS 0 z) : z = 0 := by
  rcases h with ⟨_, h⟩ | ⟨_, h⟩
  · exact h.eq Dbl.zero
  · have := h.eq (by have e : (-0 : Rat) = 0 := by decide
                     rw [e]; exact Dbl.zero)
    grind
theorem RndS.nn {v z : Rat} (h : RndS v z) (hv : 0 ≤ v) : Rnd v z := by
  rcases h with ⟨_, h⟩ | ⟨h0, h⟩
  · exact h
  · have hv0 : v = 0 := by grind
    subst hv0
    have hz := RndS.zero (.inr ⟨h0, h⟩)
    subst hz
    exact (nearest_zero false 0).2

/-- A double of either sign. -/
def DblS (d : Rat) : Prop := Dbl d ∨ Dbl (-d)
theorem RndS.le_dbl {v z d : Rat} (h : RndS v z) (hd : DblS d) (hv : v ≤ d) : z ≤ d := by
  rcases h with ⟨h0, h⟩ | ⟨h0, h⟩
  · rcases hd with hd | hd
    · exact h.le_dbl hd hv
    · obtain ⟨k, l, hk, _⟩ := hd
      have h1 : (0:Rat) ≤ (k:Rat) := by exact_mod_cast Nat.zero_le k
      have := Rat.mul_le_mul_of_nonneg_right h1 (Rat.le_of_lt (p2_pos l))
      have hd0 : d = 0 := by grind
      subst hd0
      exact h.le_dbl Dbl.zero hv
  · have hz := h.nonneg
    rcases hd with hd | hd
    · obtain ⟨k, l, hk, _⟩ := hd
      have h1 : (0:Rat) ≤ (k:Rat) := by exact_mod_cast Nat.zero_le k
      have := Rat.mul_le_mul_of_nonneg_right h1 (Rat.le_of_lt (p2_pos l))
      grind
    · have := h.dbl_le hd (by grind)
      grind
theorem DblS.neg {d : Rat} (h : DblS d) : DblS (-d) := by
  have e : - -d = d := by grind
  rcases h with h | h
  · exact .inr (by rw [e]; exact h)
  · exact .inl h
theorem RndS.neg {v z : Rat} (h : RndS v z) : RndS (-v) (-z) := by
  have e : - -v = v := by grind
  have e' : - -z = z := by grind
  rcases h with ⟨h0, h⟩ | ⟨h0, h⟩
  · exact .inr ⟨by grind, by rw [e, e']; exact h⟩
  · exact .inl ⟨by grind, h⟩
theorem RndS.dbl_le {v z d : Rat} (h : RndS v z) (hd : DblS d) (hv : d ≤ v) : d ≤ z := by
  have := h.neg.le_dbl hd.neg (by grind)
  grind
theorem RndS.eq {v z : Rat} (h : RndS v z) (hd : DblS v) : z = v := Rat.le_antisymm (h.le_dbl hd Rat.le_refl) (h.dbl_le hd Rat.le_refl)
theorem RndS.dbl {v z : Rat} (h : RndS v z) : DblS z := by
  rcases h with ⟨_, h⟩ | ⟨_, h⟩
  · exact .inl h.dbl
  · exact .inr h.dbl
theorem RndS.mono {v1 v2 z1 z2 : Rat} (h1 : RndS v1 z1) (h2 : RndS v2 z2) (h : v1 < v2) : z1 ≤ z2 := by
  rcases h1 with ⟨a1, h1⟩ | ⟨a1, h1⟩ <;> rcases h2 with ⟨a2, h2⟩ | ⟨a2, h2⟩
  · exact h1.mono h2 h
  · grind
  · have := h1.nonneg; have := h2.nonneg; grind
  · have := h2.mono h1 (by grind); grind

theorem Is.dbl {x : Nat} {v : Rat} (h : Is x v) : DblS v := by
  obtain ⟨s, m, e, _, hm, he, rfl⟩ := h
  cases s
  · exact .inl ⟨m, e, by simp [sg], hm, he⟩
  · exact .inr ⟨m, e, by simp only [sg]; grind, hm, he⟩
theorem Is.uniq {x : Nat} {v w : Rat} (h : Is x v) (k : Is x w) : v = w := by
  obtain ⟨s, m, e, hr, _, _, rfl⟩ := h
  obtain ⟨s', m', e', hr', _, _, rfl⟩ := k
  rw [hr] at hr'
  cases hr'
  rfl

theorem signed_val (s : Bool) (m n : Nat) : ((signed s m n : Int) : Rat) = sg s * ((m:Rat) * 2^(n:Int)) := by
  unfold signed
  rw [Nat.shiftLeft_eq, p2_nat]
  cases s
  · simp only [sg]; push_cast; simp
  · simp only [sg]; push_cast; grind

theorem to_base (s : Bool) (m : Nat) (i base : Int) (h : base ≤ i) : sg s * ((m:Rat) * 2^i) = ((signed s m (i - base).toNat : Int) : Rat) * 2^base := by
  rw [signed_val]
  have e : (2:Rat)^i = 2^(((i - base).toNat : Int)) * 2^base := by rw [← p2_add]; congr 1; omega
  rw [e]
  grind

theorem sum_spec {s t : Bool} {m n : Nat} {i j : Int} {a b : Rat} (ha : a = sg s * ((m:Rat) * 2^i)) (hb : b = sg t * ((n:Rat) * 2^j)) (h1 : a + b < 2^(900:Int)) (h2 : -(a + b) < 2^(900:Int)) :
    ∃ z c, ((Datum.number s m i).sum (Datum.number t n j)).map double.write = some z ∧ Is z c ∧ RndS (a + b) c := by
  have e1 := to_base s m i (min i j) (by omega)
  have e2 := to_base t n j (min i j) (by omega)
  have hab : a + b = ((signed s m (i - min i j).toNat + signed t n (j - min i j).toNat : Int) : Rat) * 2^(min i j) := by rw [ha, hb, e1, e2]; push_cast; grind
  simp only [Datum.sum, Option.map_some, Format.write]
  generalize signed s m (i - min i j).toNat + signed t n (j - min i j).toNat = total at *
  generalize min i j = base at *
  have hP := p2_pos base
  have habs : ((total.natAbs : Nat) : Rat) = if total < 0 then -(total : Rat) else (total:Rat) := by
    by_cases h : total < 0
    · rw [if_pos h]
      have : (total.natAbs : Int) = -total := by omega
      have : ((total.natAbs : Int) : Rat) = ((-total : Int) : Rat) := by rw [this]
      push_cast at this
      exact this
    · rw [if_neg h]
      have : (total.natAbs : Int) = total := by omega
      have : ((total.natAbs : Int) : Rat) = ((total : Int) : Rat) := by rw [this]
      push_cast at this
      exact this
  have hlt : ((total.natAbs : Nat) : Rat) * 2^base < 2^(900:Int) := by
    rw [habs]
    by_cases h : total < 0
    · rw [if_pos h]; grind
    · rw [if_neg h]; grind
  obtain ⟨z, hz, hr⟩ := nearest_spec (if total = 0 then s && t else decide (total < 0)) total.natAbs base hlt
  refine ⟨_, _, rfl, hz, ?_⟩
  have hu : 0 ≤ ((total.natAbs : Nat) : Rat) * 2^base := by
    have h1 : (0:Rat) ≤ ((total.natAbs : Nat):Rat) := by exact_mod_cast Nat.zero_le _
    have := Rat.mul_le_mul_of_nonneg_right h1 (Rat.le_of_lt hP)
    grind
  have := RndS.mk (if total = 0 then s && t else decide (total < 0)) hu hr
  have ev : a + b = sg (if total = 0 then s && t else decide (total < 0)) * (((total.natAbs : Nat) : Rat) * 2^base) := by
    rw [hab, habs]
    by_cases h0 : total = 0
    · subst h0; simp
    · rw [if_neg h0]
      by_cases h : total < 0
      · rw [if_pos h, decide_eq_true h]; simp only [sg]; grind
      · rw [if_neg h, decide_eq_false h]; simp [sg]
  rw [ev]
  exact this

theorem add_spec {x y : Nat} {a b : Rat} (hx : Is x a) (hy : Is y b) (h1 : a + b < 2^(900:Int)) (h2 : -(a + b) < 2^(900:Int)) : ∃ z c, double.add x y = some z ∧ Is z c ∧ RndS (a + b) c := by
  obtain ⟨s, m, i, hr, _, _, ha⟩ := hx
  obtain ⟨t, n, j, hr', _, _, hb⟩ := hy
  unfold Format.add
  rw [hr, hr']
  exact sum_spec ha hb h1 h2
theorem sub_spec {x y : Nat} {a b : Rat} (hx : Is x a) (hy : Is y b) (h1 : a - b < 2^(900:Int)) (h2 : -(a - b) < 2^(900:Int)) : ∃ z c, double.sub x y = some z ∧ Is z c ∧ RndS (a - b) c := by
  obtain ⟨s, m, i, hr, _, _, ha⟩ := hx
  obtain ⟨t, n, j, hr', _, _, hb⟩ := hy
  unfold Format.sub
  rw [hr, hr']
  have hb' : -b = sg (!t) * ((n:Rat) * 2^j) := by rw [hb]; cases t <;> simp only [sg, Bool.not_false, Bool.not_true] <;> grind
  have e : a - b = a + -b := by grind
  rw [e] at h1 h2 ⊢
  exact sum_spec ha hb' h1 h2
theorem mul_spec {x y : Nat} {a b : Rat} (hx : Is x a) (hy : Is y b) (h1 : a * b < 2^(900:Int)) (h2 : -(a * b) < 2^(900:Int)) : ∃ z c, double.mul x y = some z ∧ Is z c ∧ RndS (a * b) c := by
  obtain ⟨s, m, i, hr, _, _, ha⟩ := hx
  obtain ⟨t, n, j, hr', _, _, hb⟩ := hy
  unfold Format.mul
  rw [hr, hr']
  simp only [Datum.product, Option.map_some, Format.write]
  have hu : (0:Rat) ≤ ((m * n : Nat) : Rat) * 2^(i + j) := by
    have h1 : (0:Rat) ≤ ((m * n : Nat):Rat) := by exact_mod_cast Nat.zero_le _
    have := Rat.mul_le_mul_of_nonneg_right h1 (Rat.le_of_lt (p2_pos (i + j)))
    grind
  have hv : a * b = sg (s ^^ t) * (((m * n : Nat) : Rat) * 2^(i + j)) := by
    rw [ha, hb, p2_add]
    push_cast
    cases s <;> cases t <;> simp only [sg, Bool.false_xor, Bool.true_xor, Bool.not_false, Bool.not_true] <;> grind
  have hlt : ((m * n : Nat) : Rat) * 2^(i + j) < 2^(900:Int) := by
    rw [hv] at h1 h2
    cases hs : (s ^^ t) <;> rw [hs] at h1 h2 <;> simp only [sg] at h1 h2 <;> grind
  obtain ⟨z, hz, hr⟩ := nearest_spec (s ^^ t) (m * n) (i + j) hlt
  refine ⟨_, _, rfl, hz, ?_⟩
  rw [hv]
  exact RndS.mk _ hu hr

theorem ord_spec {x y : Nat} {a b : Rat} (hx : Is x a) (hy : Is y b) : double.order x y = some (if a < b then .lt else if a = b then .eq else .gt) := by
  obtain ⟨s, m, i, hr, _, _, ha⟩ := hx
  obtain ⟨t, n, j, hr', _, _, hb⟩ := hy
  unfold Format.order
  rw [hr, hr']
  simp only [Datum.order]
  have e1 := to_base s m i (min i j) (by omega)
  have e2 := to_base t n j (min i j) (by omega)
  rw [← ha] at e1
  rw [← hb] at e2
  generalize signed s m (i - min i j).toNat = p at *
  generalize signed t n (j - min i j).toNat = q at *
  have hP := p2_pos (min i j)
  generalize (2:Rat)^(min i j) = P at *
  congr 1
  rw [e1, e2]
  rcases Int.lt_trichotomy p q with h | h | h
  · have : (p:Rat) * P < (q:Rat) * P := Rat.mul_lt_mul_of_pos_right (by exact_mod_cast h) hP
    rw [if_pos this]
    simp [compare, compareOfLessAndEq, h]
  · subst h
    rw [if_neg (by grind), if_pos rfl]
    simp [compare, compareOfLessAndEq]
  · have : (q:Rat) * P < (p:Rat) * P := Rat.mul_lt_mul_of_pos_right (by exact_mod_cast h) hP
    rw [if_neg (by grind), if_neg (by grind)]
    have h1 : ¬ p < q := by omega
    have h2 : ¬ p = q := by omega
    simp [compare, compareOfLessAndEq, h1, h2]

end Go.Proofs.Qxb6616692a
