import Derived.Test.Qxb6616692aV13
namespace Go.Proofs.Qxb6616692a
open Ieee

def e12 : Rat := (4951760157141521:Rat) * 2^(-92:Int)
def e9 : Rat := (4835703278458517:Rat) * 2^(-82:Int)
theorem is_e12 : Is 4427486594234968593 e12 := ⟨false, 4951760157141521, -92, by decide, by decide, by decide, by unfold e12 sg; simp⟩
theorem is_e9 : Is 4472406533629990549 e9 := ⟨false, 4835703278458517, -82, by decide, by decide, by decide, by unfold e9 sg; simp⟩
theorem b_e12 : (999999/1000000000000000000:Rat) ≤ e12 ∧ e12 ≤ 1000001/1000000000000000000 := by constructor <;> decide +kernel
theorem b_e9 : (999999/1000000000000000:Rat) ≤ e9 ∧ e9 ≤ 1000001/1000000000000000 := by constructor <;> decide +kernel

theorem fi_is (k : Nat) (h : k ≤ 100) : Is (fi (k:Int)) (k:Rat) := by
  obtain ⟨c, hc, hr⟩ := int_spec (k:Int) (by omega)
  have e : ((k:Int):Rat) = (k:Rat) := rfl
  rw [e] at hr
  obtain rfl := hr.eq (dblN k (by omega))
  exact hc

/-- The bounds' words. -/
structure Bo (lw : Nat) (k : Nat) (U6 D1 : Rat) (m12 tw x1 y1 z1 x2 y2 z2 y3 z3 : Nat) (Z1 Z2 Z3 : Rat) : Prop where
  p1 : double.mul lw 4427486594234968593 = some m12
  p2 : double.add m12 4472406533629990549 = some tw
  p3 : double.mul 4618441417868443648 (fi (k:Int)) = some x1
  p4 : double.add lw x1 = some y1
  p5 : double.sub y1 tw = some z1
  p6 : double.mul 4618441417868443648 (fi ((k:Int) + 1)) = some x2
  p7 : double.add lw x2 = some y2
  p8 : double.add y2 tw = some z2
  p9 : double.sub lw (fi ((k:Int) + 1)) = some y3
  pa : double.sub y3 tw = some z3
  i1 : Is z1 Z1
  i2 : Is z2 Z2
  i3 : Is z3 Z3
  h1 : Z1 ≤ U6
  h2 : U6 ≤ Z2
  h3 : Z3 ≤ D1

theorem bo_any {lw sw : Nat} {L t : Rat} {a3w a20w b6w b10w u6w u1w d1w : Nat} {al be U6 U1 D1 b6 : Rat} (hs : Step lw L sw t) (L1 : 1 ≤ L) (L2 : L ≤ 1000000000000) (g : Fo lw sw L t a3w a20w b6w b10w u6w u1w d1w al be U6 U1 D1 b6)
    (k : Nat) (hk : k ≤ 12) (k1 : (k:Rat) - 1/10000000000 ≤ t) (k2 : t ≤ (k:Rat) + 1 + 1/10000000000) : ∃ m12 tw x1 y1 z1 x2 y2 z2 y3 z3 Z1 Z2 Z3, Bo lw k U6 D1 m12 tw x1 y1 z1 x2 y2 z2 y3 z3 Z1 Z2 Z3 := by
  have il := g.il
  have hb : (4000000000000:Rat) < 2^(900:Int) := by decide +kernel
  have hty := ty_small
  have htp := ty_pos
  have t2 : (1:Rat)/2^1000 ≤ 1/100000000000000000000 := by decide +kernel
  have kR : (k:Rat) ≤ 12 := by
    have : (k:Rat) ≤ ((12:Nat):Rat) := by exact_mod_cast hk
    exact this
  have kR0 : 0 ≤ (k:Rat) := by exact_mod_cast Nat.zero_le k
  have t0 := hs.nn
  have be12 := b_e12
  have be9 := b_e9
  -- the tolerance
  have w0 := mm (show 0 ≤ L by grind) L2 (show 0 ≤ e12 by grind) be12.2
  have w1 := Rat.mul_le_mul_of_nonneg_left be12.1 (show 0 ≤ L by grind)
  have w2 := Rat.mul_le_mul_of_nonneg_left be12.2 (show 0 ≤ L by grind)
  obtain ⟨m12, M12, p1, im12, rm12⟩ := mul_spec il is_e12 (by grind) (by grind)
  have q1 := rm12.err (M := 2) (by grind) (by grind)
  have q1' := rm12.err (M := L * (1000001/1000000000000000000)) w2 (by grind)
  obtain ⟨tw, T, p2, it, rt⟩ := add_spec im12 is_e9 (by grind) (by grind)
  have q2 := rt.err (M := L * (2000000/1000000000000000000) + 1/100000000) (by generalize L * e12 = W at *; grind) (by generalize L * e12 = W at *; grind)
  have T1 : L * (99/100000000000000) + 99/100000000000 ≤ T := by generalize L * e12 = W at *; grind
  have T2 : T ≤ 2 := by generalize L * e12 = W at *; grind
  have T0 : 0 ≤ T := by grind
  -- the digits
  have ik := fi_is k (by omega)
  have ik1 : Is (fi ((k:Int) + 1)) ((k:Rat) + 1) := by
    have := fi_is (k + 1) (by omega)
    push_cast at this
    exact this
  have d6k : DblS (6 * (k:Rat)) := by
    have := dblN (6 * k) (by omega)
    push_cast at this
    exact this
  have d6k1 : DblS (6 * ((k:Rat) + 1)) := by
    have := dblN (6 * (k + 1)) (by omega)
    push_cast at this
    exact this
  obtain ⟨x1, X1, p3, ix1, rx1⟩ := mul_spec is_6 ik (by grind) (by grind)
  obtain rfl := rx1.eq d6k
  obtain ⟨x2, X2, p6, ix2, rx2⟩ := mul_spec is_6 ik1 (by grind) (by grind)
  obtain rfl := rx2.eq d6k1
  obtain ⟨y1, Y1, p4, iy1, ry1⟩ := add_spec il ix1 (by grind) (by grind)
  have qy1 := ry1.err (M := L + 100) (by grind) (by grind)
  obtain ⟨z1, Z1, p5, iz1, rz1⟩ := sub_spec iy1 it (by grind) (by grind)
  have qz1 := rz1.err (M := L + 200) (by grind) (by grind)
  obtain ⟨y2, Y2, p7, iy2, ry2⟩ := add_spec il ix2 (by grind) (by grind)
  have qy2 := ry2.err (M := L + 100) (by grind) (by grind)
  obtain ⟨z2, Z2, p8, iz2, rz2⟩ := add_spec iy2 it (by grind) (by grind)
  have qz2 := rz2.err (M := L + 200) (by grind) (by grind)
  obtain ⟨y3, Y3, p9, iy3, ry3⟩ := sub_spec il ik1 (by grind) (by grind)
  have qy3 := ry3.err (M := L + 100) (by grind) (by grind)
  obtain ⟨z3, Z3, pa, iz3, rz3⟩ := sub_spec iy3 it (by grind) (by grind)
  have qz3 := rz3.err (M := L + 200) (by grind) (by grind)
  -- the answers
  have qb := g.rb.err (M := 100) (by grind) (by grind)
  have q6 := g.r6.err (M := L + 200) (by grind) (by grind)
  have qd := g.rd.err (M := L + 100) (by grind) (by grind)
  exact ⟨m12, tw, x1, y1, z1, x2, y2, z2, y3, z3, Z1, Z2, Z3, p1, p2, p3, p4, p5, p6, p7, p8, p9, pa, iz1, iz2, iz3, by grind, by grind, by grind⟩

/-- Growth that shows. -/
theorem grows {lw sw : Nat} {L t : Rat} {a3w a20w b6w b10w u6w u1w d1w : Nat} {al be U6 U1 D1 b6 : Rat} (hs : Step lw L sw t) (L1 : 1 ≤ L) (L2 : L ≤ 1000000000000) (g : Fo lw sw L t a3w a20w b6w b10w u6w u1w d1w al be U6 U1 D1 b6) (t13 : t ≤ 13) (h : L_pa ≤ L) : L < U6 := by
  have hty := ty_small
  have t2 : (1:Rat)/2^1000 ≤ 1/100000000000000000000 := by decide +kernel
  have ta := hs.a h
  have qb := g.rb.err (M := 100) (by grind) (by grind)
  have q6 := g.r6.err (M := L + 200) (by grind) (by grind)
  by_cases h10 : 10 ≤ L
  · have tb := hs.lo 1 (by omega) (by
      have e : ((10^1 : Nat):Rat) = 10 := rfl
      rw [e]; exact h10)
    have e1 : ((1:Nat):Rat) = 1 := rfl
    rw [e1] at tb
    grind
  · grind
theorem falls {lw sw : Nat} {L t : Rat} {a3w a20w b6w b10w u6w u1w d1w : Nat} {al be U6 U1 D1 b6 : Rat} (hs : Step lw L sw t) (L2 : L ≤ 1000000000000) (g : Fo lw sw L t a3w a20w b6w b10w u6w u1w d1w al be U6 U1 D1 b6) (t13 : t ≤ 13) (h : 2 ≤ L) : D1 < L := by
  have hty := ty_small
  have t2 : (1:Rat)/2^1000 ≤ 1/100000000000000000000 := by decide +kernel
  have ta := hs.b h
  have qd := g.rd.err (M := L + 100) (by grind) (by grind)
  grind

/-- A queue of half the limit is a cut. -/
theorem half_cut {lw sw : Nat} {L t Q : Rat} {a3w a20w b6w b10w u6w u1w d1w : Nat} {al be U6 U1 D1 b6 : Rat} (hs : Step lw L sw t) (L2 : L ≤ 1000000000000) (g : Fo lw sw L t a3w a20w b6w b10w u6w u1w d1w al be U6 U1 D1 b6) (h : 2 ≤ L) (hQ : L * (499/1000) ≤ Q) : pkV Q t al be U6 U1 D1 L = D1 := by
  have ha := g.ale
  have hb := g.bee
  have ht : t < Q := by
    by_cases c4 : L ≤ 4
    · have := hs.c c4
      grind
    · by_cases c10 : L ≤ 10
      · have := hs.hi 1 (by omega) (by
          have e : ((10^1 : Nat):Rat) = 10 := rfl
          rw [e]; exact c10)
        have e1 : ((1:Nat):Rat) = 1 := rfl
        rw [e1] at this
        grind
      · by_cases c100 : L ≤ 100
        · have := hs.hi 2 (by omega) (by
            have e : ((10^2 : Nat):Rat) = 100 := rfl
            rw [e]; exact c100)
          have e1 : ((2:Nat):Rat) = 2 := rfl
          rw [e1] at this
          grind
        · have := hs.hi 12 (by omega) (by
            have e : ((10^12 : Nat):Rat) = 1000000000000 := by decide +kernel
            rw [e]; exact L2)
          have e1 : ((12:Nat):Rat) = 12 := rfl
          rw [e1] at this
          grind
  unfold pkV
  rw [if_neg (by grind), if_neg (by grind), if_pos (by grind)]

end Go.Proofs.Qxb6616692a
