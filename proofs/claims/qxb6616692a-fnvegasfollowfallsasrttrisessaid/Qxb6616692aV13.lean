import Derived.Test.Qxb6616692aV12
namespace Go.Proofs.Qxb6616692a
open Ieee

theorem is_3 : Is 4613937818241073152 3 := ⟨false, 6755399441055744, -51, by decide, by decide, by decide, by decide +kernel⟩
theorem is_6 : Is 4618441417868443648 6 := ⟨false, 6755399441055744, -50, by decide, by decide, by decide, by decide +kernel⟩
theorem is_10 : Is 4621819117588971520 10 := ⟨false, 5629499534213120, -49, by decide, by decide, by decide, by decide +kernel⟩
theorem is_20 : Is 4626322717216342016 20 := ⟨false, 5629499534213120, -48, by decide, by decide, by decide, by decide +kernel⟩

def minW (x y : Nat) : Nat := match double.order x y with
  | some .lt => x
  | some .gt => y
  | _ => if (double.read x).neg then x else y

theorem min_spec {x y : Nat} {a b : Rat} (hx : Is x a) (hy : Is y b) : ∃ c, Is (minW x y) c ∧ c ≤ a ∧ c ≤ b := by
  unfold minW
  rw [ord_spec hx hy]
  by_cases h : a < b
  · rw [if_pos h]
    exact ⟨a, hx, Rat.le_refl, Rat.le_of_lt h⟩
  · rw [if_neg h]
    by_cases h2 : a = b
    · rw [if_pos h2]
      subst h2
      dsimp only
      split
      · exact ⟨a, hx, Rat.le_refl, Rat.le_refl⟩
      · exact ⟨a, hy, Rat.le_refl, Rat.le_refl⟩
    · rw [if_neg h2]
      exact ⟨b, hy, by grind, Rat.le_refl⟩

/-- All words of 'follow' that hang on the limit alone. -/
structure Fo (lw sw : Nat) (L t : Rat) (a3w a20w b6w b10w u6w u1w d1w : Nat) (al be U6 U1 D1 b6 : Rat) : Prop where
  e1 : double.mul 4613937818241073152 sw = some a3w
  e2 : double.div lw 4626322717216342016 = some a20w
  e3 : double.mul 4618441417868443648 sw = some b6w
  e4 : double.div lw 4621819117588971520 = some b10w
  e5 : double.add lw b6w = some u6w
  e6 : double.add lw sw = some u1w
  e7 : double.sub lw sw = some d1w
  il : Is lw L
  is : Is sw t
  ial : Is (minW a3w a20w) al
  ibe : Is (minW b6w b10w) be
  i6 : Is u6w U6
  i1 : Is u1w U1
  id : Is d1w D1
  ale : al ≤ L * (6/100)
  bee : be ≤ L * (12/100)
  r6 : RndS (L + b6) U6
  r1 : RndS (L + t) U1
  rd : RndS (L - t) D1
  rb : RndS (6 * t) b6
  m1 : U1 ≤ U6
  m2 : L ≤ U1
  m3 : D1 ≤ L
  j3 : ∃ c, Is a3w c
  j20 : ∃ c, Is a20w c
  j6 : ∃ c, Is b6w c
  j10 : ∃ c, Is b10w c

theorem fo_any {lw sw : Nat} {L t : Rat} (h : Step lw L sw t) (L1 : 1 ≤ L) (L2 : L ≤ 1000000000000) (t1 : t ≤ 13) : ∃ a3w a20w b6w b10w u6w u1w d1w al be U6 U1 D1 b6, Fo lw sw L t a3w a20w b6w b10w u6w u1w d1w al be U6 U1 D1 b6 := by
  have il := h.isx
  have is := h.ist
  have t0 := h.nn
  have hb : (2000000000000:Rat) < 2^(900:Int) := by decide +kernel
  have hty := ty_small
  have t2 : (1:Rat)/2^1000 ≤ 1/1000000 := by decide +kernel
  obtain ⟨a3w, a3, e1, i3, _⟩ := mul_spec is_3 is (by grind) (by grind)
  obtain ⟨q20, hq20⟩ : ∃ q : Rat, q * 20 = L := ⟨L / 20, Rat.div_mul_cancel (by decide)⟩
  obtain ⟨a20w, a20, e2, i20, r20⟩ := div_spec il is_20 (by decide) hq20 (by grind) (by grind)
  obtain ⟨b6w, b6, e3, i6, rb⟩ := mul_spec is_6 is (by grind) (by grind)
  obtain ⟨q10, hq10⟩ : ∃ q : Rat, q * 10 = L := ⟨L / 10, Rat.div_mul_cancel (by decide)⟩
  obtain ⟨b10w, b10, e4, i10, r10⟩ := div_spec il is_10 (by decide) hq10 (by grind) (by grind)
  have kb := rb.err (M := 78) (by grind) (by grind)
  have b60 : 0 ≤ b6 := rb.dbl_le (.inl Dbl.zero) (by grind)
  have b6t : t ≤ b6 := rb.dbl_le is.dbl (by grind)
  obtain ⟨u6w, U6, e5, iu6, r6⟩ := add_spec il i6 (by grind) (by grind)
  obtain ⟨u1w, U1, e6, iu1, r1⟩ := add_spec il is (by grind) (by grind)
  obtain ⟨d1w, D1, e7, id1, rd⟩ := sub_spec il is (by grind) (by grind)
  obtain ⟨al, ial, al1, al2⟩ := min_spec i3 i20
  obtain ⟨be, ibe, be1, be2⟩ := min_spec i6 i10
  have k20 := r20.err (M := L) (by grind) (by grind)
  have k10 := r10.err (M := L) (by grind) (by grind)
  refine ⟨a3w, a20w, b6w, b10w, u6w, u1w, d1w, al, be, U6, U1, D1, b6, e1, e2, e3, e4, e5, e6, e7, il, is, ial, ibe, iu6, iu1, id1, by grind, by grind, r6, r1, rd, rb, ?_, r1.dbl_le il.dbl (by grind), rd.le_dbl il.dbl (by grind), ⟨_, i3⟩, ⟨_, i20⟩, ⟨_, i6⟩, ⟨_, i10⟩⟩
  rcases Rat.le_iff_lt_or_eq.1 b6t with hlt | heq
  · exact r1.mono r6 (by grind)
  · -- the step is nothing
    have ht : t = 0 := by
      have k := rb.err (M := 6 * t) (by grind) (by grind)
      rcases Rat.le_iff_lt_or_eq.1 t0 with h | h
      · exfalso
        have : 2 * t ≤ b6 := rb.dbl_le (by
          obtain ⟨s, m, e, _, hm, he, hv⟩ := is
          cases s
          · exact .inl ⟨m, e + 1, by rw [hv, p2_add, show (2:Rat)^(1:Int) = 2 from by decide +kernel]; simp only [sg]; grind, hm, by omega⟩
          · exact .inr ⟨m, e + 1, by rw [hv, p2_add, show (2:Rat)^(1:Int) = 2 from by decide +kernel]; simp only [sg]; grind, hm, by omega⟩) (by grind)
        grind
      · exact h.symm
    have h1 : U1 = L := by
      have e : L + t = L := by rw [ht]; grind
      rw [e] at r1
      exact r1.eq il.dbl
    rw [h1]
    exact r6.dbl_le il.dbl (by grind)

/-- Which word 'follow' answers. -/
def pkW (Q t al be : Rat) (u6w u1w d1w lw : Nat) : Nat := if Q ≤ t then u6w else if Q < al then u1w else if be < Q then d1w else lw
def pkV (Q t al be U6 U1 D1 L : Rat) : Rat := if Q ≤ t then U6 else if Q < al then U1 else if be < Q then D1 else L

theorem pk_is {Q t al be U6 U1 D1 L : Rat} {u6w u1w d1w lw : Nat} (h6 : Is u6w U6) (h1 : Is u1w U1) (hd : Is d1w D1) (hl : Is lw L) : Is (pkW Q t al be u6w u1w d1w lw) (pkV Q t al be U6 U1 D1 L) := by
  unfold pkW pkV
  split
  · exact h6
  · split
    · exact h1
    · split
      · exact hd
      · exact hl

theorem pk_mono {Q Q' t al be U6 U1 D1 L : Rat} (h : Q ≤ Q') (m1 : U1 ≤ U6) (m2 : L ≤ U1) (m3 : D1 ≤ L) : pkV Q' t al be U6 U1 D1 L ≤ pkV Q t al be U6 U1 D1 L := by
  unfold pkV
  by_cases a : Q ≤ t
  · rw [if_pos a]
    split
    · exact Rat.le_refl
    · split
      · exact m1
      · split <;> grind
  · rw [if_neg a, if_neg (by grind)]
    by_cases b : Q < al
    · rw [if_pos b]
      split
      · exact Rat.le_refl
      · split <;> grind
    · rw [if_neg b, if_neg (by grind)]
      by_cases c : be < Q
      · rw [if_pos c, if_pos (by grind)]
        exact Rat.le_refl
      · rw [if_neg c]
        split
        · exact m3
        · exact Rat.le_refl

theorem pk_lo {Q t al be U6 U1 D1 L : Rat} (m1 : U1 ≤ U6) (m2 : L ≤ U1) (m3 : D1 ≤ L) : D1 ≤ pkV Q t al be U6 U1 D1 L := by
  unfold pkV
  split
  · grind
  · split
    · grind
    · split <;> grind
theorem pk_hi {Q t al be U6 U1 D1 L : Rat} (m1 : U1 ≤ U6) (m2 : L ≤ U1) (m3 : D1 ≤ L) : pkV Q t al be U6 U1 D1 L ≤ U6 := by
  unfold pkV
  split
  · grind
  · split
    · grind
    · split <;> grind

end Go.Proofs.Qxb6616692a
