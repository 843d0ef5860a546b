import Derived.Test.Qxb6616692aV11
namespace Go.Proofs.Qxb6616692a
open Ieee

def fi (n : Int) : Nat := double.nearest (decide (n < 0)) n.natAbs 0
theorem fi_lt (n : Int) : fi n < 18446744073709551616 := double.write_lt (.number (decide (n < 0)) n.natAbs 0)
theorem dlt {x y z : Nat} (h : double.div x y = some z) : z < 18446744073709551616 := double.div_lt h
theorem slt {x y z : Nat} (h : double.sub x y = some z) : z < 18446744073709551616 := double.sub_lt h

theorem int_cast_le {a b : Int} (h : a ≤ b) : (a:Rat) ≤ (b:Rat) := by exact_mod_cast h
theorem int_cast_lt {a b : Int} (h : a < b) : (a:Rat) < (b:Rat) := by exact_mod_cast h

/-- The queue's word. -/
def Qu (n r : Int) (lw qw : Nat) : Prop := (r ≤ n ∧ qw = 0) ∨ (n < r ∧ ∃ dw ew mw, double.div (fi n) (fi r) = some dw ∧ double.sub 4607182418800017408 dw = some ew ∧ double.mul lw ew = some mw ∧ qw = cW mw)

/-- All that is known where the latency is above the least. -/
structure Qd (n r : Int) (lw : Nat) (L : Rat) (A B q d e m : Rat) (dw ew mw N : Nat) : Prop where
  iA : Is (fi n) A
  iB : Is (fi r) B
  rA : RndS (n:Rat) A
  rB : RndS (r:Rat) B
  B1 : 1 ≤ B
  A0 : 0 ≤ A
  qq : q * B = A
  q0 : 0 ≤ q
  q1 : q ≤ 1
  e1 : double.div (fi n) (fi r) = some dw
  e2 : double.sub 4607182418800017408 dw = some ew
  e3 : double.mul lw ew = some mw
  id : Is dw d
  rd : RndS q d
  d0 : 0 ≤ d
  d1 : d ≤ 1
  ie : Is ew e
  re : RndS (1 - d) e
  e0 : 0 ≤ e
  ee : e ≤ 1
  im : Is mw m
  rm : RndS (L * e) m
  m0 : 0 ≤ m
  m1 : m ≤ L
  iN : Is (cW mw) (N:Rat)
  N1 : m ≤ (N:Rat)
  N2 : (N:Rat) < m + 1

theorem qd_any (n r : Int) (h0 : 0 ≤ n) (h1 : n < r) (h2 : r < 9223372036854775808) (lw : Nat) (L : Rat) (hl : Is lw L) (L1 : 1 ≤ L) (L2 : L ≤ 1000000000000) : ∃ A B q d e m dw ew mw N, Qd n r lw L A B q d e m dw ew mw N := by
  obtain ⟨A, iA, rA⟩ := int_spec n (by omega)
  obtain ⟨B, iB, rB⟩ := int_spec r (by omega)
  have A0 : 0 ≤ A := rA.dbl_le (.inl Dbl.zero) (int_cast_le h0)
  have B1 : 1 ≤ B := rB.dbl_le (dblN 1 (by omega)) (int_cast_le (show 1 ≤ r by omega))
  have AB : A ≤ B := rA.mono rB (int_cast_lt h1)
  obtain ⟨q, hq⟩ : ∃ q : Rat, q * B = A := ⟨A / B, Rat.div_mul_cancel (by grind)⟩
  have q0 : 0 ≤ q := Rat.le_of_mul_le_mul_right (c := B) (by rw [hq]; grind) (by grind)
  have q1 : q ≤ 1 := Rat.le_of_mul_le_mul_right (c := B) (by rw [hq]; grind) (by grind)
  have hb := big64
  have hb2 : (1000000000000:Rat) < 2^(900:Int) := by decide +kernel
  obtain ⟨dw, d, e1, id, rd⟩ := div_spec iA iB (by grind) hq (by grind) (by grind)
  have d0 : 0 ≤ d := rd.dbl_le (.inl Dbl.zero) q0
  have d1 : d ≤ 1 := rd.le_dbl (dblN 1 (by omega)) q1
  obtain ⟨ew, e, e2, ie, re⟩ := sub_spec is_cOne id (by rw [v_one]; grind) (by rw [v_one]; grind)
  rw [v_one] at re
  have e0 : 0 ≤ e := re.dbl_le (.inl Dbl.zero) (by grind)
  have ee : e ≤ 1 := re.le_dbl (dblN 1 (by omega)) (by show 1 - d ≤ ((1:Nat):Rat); have e : ((1:Nat):Rat) = 1 := rfl; rw [e]; grind)
  have k := mm (show 0 ≤ L by grind) Rat.le_refl e0 ee
  rw [Rat.mul_one] at k
  obtain ⟨mw, m, e3, im, rm⟩ := mul_spec hl ie (by grind) (by grind)
  have m0 : 0 ≤ m := rm.dbl_le (.inl Dbl.zero) k.1
  have m1 : m ≤ L := rm.le_dbl hl.dbl k.2
  obtain ⟨N, iN, N1, N2⟩ := ceil_spec im m0 (by grind)
  exact ⟨A, B, q, d, e, m, dw, ew, mw, N, iA, iB, rA, rB, B1, A0, hq, q0, q1, e1, e2, e3, id, rd, d0, d1, ie, re, e0, ee, im, rm, m0, m1, iN, N1, N2⟩

theorem qu_any (n r : Int) (h0 : 0 ≤ n) (h2 : r < 9223372036854775808) (lw : Nat) (L : Rat) (hl : Is lw L) (L1 : 1 ≤ L) (L2 : L ≤ 1000000000000) : ∃ qw Q, Qu n r lw qw ∧ Is qw Q ∧ 0 ≤ Q := by
  by_cases h : r ≤ n
  · exact ⟨0, 0, .inl ⟨h, rfl⟩, is_zero, Rat.le_refl⟩
  · obtain ⟨A, B, q, d, e, m, dw, ew, mw, N, g⟩ := qd_any n r h0 (by omega) h2 lw L hl L1 L2
    exact ⟨cW mw, N, .inr ⟨by omega, dw, ew, mw, g.e1, g.e2, g.e3, rfl⟩, g.iN, by have := g.N1; have := g.m0; grind⟩

/-- The words of a 'Qu' are those of the 'Qd'. -/
theorem Qu.word {n r : Int} {lw qw : Nat} {L A B q d e m : Rat} {dw ew mw N : Nat} (h : Qu n r lw qw) (g : Qd n r lw L A B q d e m dw ew mw N) (hr : n < r) : qw = cW mw := by
  rcases h with ⟨h, _⟩ | ⟨_, dw', ew', mw', e1, e2, e3, rfl⟩
  · omega
  · rw [g.e1] at e1
    cases e1
    rw [g.e2] at e2
    cases e2
    rw [g.e3] at e3
    cases e3
    rfl

theorem Qd.same_m {n r1 r2 : Int} {lw : Nat} {L A B q d e m A' B' q' d' e' m' : Rat} {dw ew mw N dw' ew' mw' N' : Nat} (g : Qd n r1 lw L A B q d e m dw ew mw N) (g' : Qd n r2 lw L A' B' q' d' e' m' dw' ew' mw' N') (h : ew = ew') : m = m' := by
  subst h
  have h1 := g.e3
  rw [g'.e3] at h1
  cases h1
  exact g.im.uniq g'.im
theorem Qd.same_e {n r1 r2 : Int} {lw : Nat} {L A B q d e m A' B' q' d' e' m' : Rat} {dw ew mw N dw' ew' mw' N' : Nat} (g : Qd n r1 lw L A B q d e m dw ew mw N) (g' : Qd n r2 lw L A' B' q' d' e' m' dw' ew' mw' N') (h : dw = dw') : ew = ew' := by
  subst h
  have h1 := g.e2
  rw [g'.e2] at h1
  cases h1
  rfl

theorem qd_mono {n r1 r2 : Int} {lw : Nat} {L A B q d e m A' B' q' d' e' m' : Rat} {dw ew mw N dw' ew' mw' N' : Nat} (g : Qd n r1 lw L A B q d e m dw ew mw N) (g' : Qd n r2 lw L A' B' q' d' e' m' dw' ew' mw' N') (hL : 1 ≤ L) (hr : r1 ≤ r2) (hn : 0 ≤ n) (hr2 : r2 < 9223372036854775808) : m ≤ m' := by
  obtain rfl := g.iA.uniq g'.iA
  rcases Int.lt_or_eq_of_le hr with hlt | heq
  case inr =>
    subst heq
    have h1 := g.e1
    rw [g'.e1] at h1
    cases h1
    rw [g.same_m g' (g.same_e g' rfl)]
    exact Rat.le_refl
  have B1 := g.B1
  have B1' := g'.B1
  rcases Int.lt_or_eq_of_le hn with hn1 | hn0
  case inr =>
    -- no least: the whole limit
    have hA : A = 0 := by
      have := g.rA
      rw [← hn0] at this
      exact RndS.zero this
    have aux : ∀ {r : Int} {B q d e m : Rat} {dw ew mw N : Nat}, Qd n r lw L A B q d e m dw ew mw N → RndS L m := by
      intro r B q d e m dw ew mw N g
      have hq : q = 0 := by
        have := g.qq
        rw [hA] at this
        rcases Rat.mul_eq_zero.1 this with h | h
        · exact h
        · have := g.B1; grind
      have hd : d = 0 := by have := g.rd; rw [hq] at this; exact RndS.zero this
      have he : e = 1 := by
        have := g.re
        rw [hd] at this
        have e1 : (1:Rat) - 0 = 1 := by grind
        rw [e1] at this
        exact this.eq (dblN 1 (by omega))
      have := g.rm
      rw [he, Rat.mul_one] at this
      exact this
    have hw : ew = ew' := by
      -- both are 1
      have h1 := g.ie
      have h2 := g'.ie
      have aux2 : ∀ {r : Int} {B q d e m : Rat} {dw ew mw N : Nat}, Qd n r lw L A B q d e m dw ew mw N → e = 1 := by
        intro r B q d e m dw ew mw N g
        have hq : q = 0 := by
          have := g.qq
          rw [hA] at this
          rcases Rat.mul_eq_zero.1 this with h | h
          · exact h
          · have := g.B1; grind
        have hd : d = 0 := by have := g.rd; rw [hq] at this; exact RndS.zero this
        have := g.re
        rw [hd] at this
        have e1 : (1:Rat) - 0 = 1 := by grind
        rw [e1] at this
        exact this.eq (dblN 1 (by omega))
      rw [aux2 g] at h1
      rw [aux2 g'] at h2
      exact is_inj h1 h2 (by decide +kernel) (slt g.e2) (slt g'.e2)
    rw [g.same_m g' hw]
    exact Rat.le_refl
  have A1 : 1 ≤ A := g.rA.dbl_le (dblN 1 (by omega)) (int_cast_le (show 1 ≤ n by omega))
  have hBB : B ≤ B' := g.rB.mono g'.rB (int_cast_lt hlt)
  rcases Rat.le_iff_lt_or_eq.1 hBB with hB | hB
  case inr =>
    subst hB
    have hw := is_inj g.iB g'.iB (by grind) (fi_lt _) (fi_lt _)
    have h1 := g.e1
    rw [hw, g'.e1] at h1
    cases h1
    rw [g.same_m g' (g.same_e g' rfl)]
    exact Rat.le_refl
  have hq := g.qq
  have hq' := g'.qq
  have hqq : q' < q := by
    rcases Rat.le_total (a := q) (b := q') with h | h
    · exfalso
      have k1 := Rat.mul_le_mul_of_nonneg_right h (show 0 ≤ B by grind)
      have k2 : 0 < q' := by
        rcases Rat.le_iff_lt_or_eq.1 g'.q0 with h | h
        · exact h
        · rw [← h] at hq'; grind
      have k3 := Rat.mul_lt_mul_of_pos_left hB k2
      grind
    · rcases Rat.le_iff_lt_or_eq.1 h with h | h
      · exact h
      · exfalso
        subst h
        have k2 : 0 < q' := by
          rcases Rat.le_iff_lt_or_eq.1 g'.q0 with h | h
          · exact h
          · rw [← h] at hq'; grind
        have k3 := Rat.mul_lt_mul_of_pos_left hB k2
        grind
  have hdd : d' ≤ d := g'.rd.mono g.rd hqq
  rcases Rat.le_iff_lt_or_eq.1 hdd with hd | hd
  case inr =>
    subst hd
    have hpos : 0 < d' := by
      -- the quotient is not too small
      have hBb : B' ≤ 18446744073709551616 := g'.rB.le_dbl (.inl ⟨1, 64, by decide +kernel, by omega, by omega⟩) (by
        have k1 := int_cast_lt hr2
        have k2 : ((9223372036854775808:Int):Rat) ≤ 18446744073709551616 := by decide +kernel
        grind)
      have k1 : (1/18446744073709551616:Rat) ≤ q' := by
        refine Rat.le_of_mul_le_mul_right (c := B') ?_ (by grind)
        rw [hq']
        grind
      have k2 : (1/18446744073709551616:Rat) ≤ d' := g'.rd.dbl_le (.inl ⟨1, -64, by decide +kernel, by omega, by omega⟩) k1
      grind
    have hw := is_inj g.id g'.id hpos (dlt g.e1) (dlt g'.e1)
    rw [g.same_m g' (g.same_e g' hw)]
    exact Rat.le_refl
  have hee : e ≤ e' := g.re.mono g'.re (by grind)
  rcases Rat.le_iff_lt_or_eq.1 hee with he | he
  case inr =>
    subst he
    rcases Rat.le_iff_lt_or_eq.1 g.e0 with h | h
    · have hw := is_inj g.ie g'.ie h (slt g.e2) (slt g'.e2)
      rw [g.same_m g' hw]
      exact Rat.le_refl
    · have := g.rm
      rw [← h, Rat.mul_zero] at this
      rw [RndS.zero this]
      exact g'.m0
  exact g.rm.mono g'.rm (Rat.mul_lt_mul_of_pos_left he (by grind))

theorem qu_mono {n r1 r2 : Int} {lw q1 q2 : Nat} {L Q1 Q2 : Rat} (hn : 0 ≤ n) (hr : r1 ≤ r2) (hr2 : r2 < 9223372036854775808) (hl : Is lw L) (L1 : 1 ≤ L) (L2 : L ≤ 1000000000000) (h1 : Qu n r1 lw q1) (h2 : Qu n r2 lw q2) (i1 : Is q1 Q1) (i2 : Is q2 Q2) (p2 : 0 ≤ Q2) : Q1 ≤ Q2 := by
  by_cases h : r1 ≤ n
  · rcases h1 with ⟨_, rfl⟩ | ⟨h', _⟩
    · rw [i1.uniq is_zero]; exact p2
    · omega
  · obtain ⟨A, B, q, d, e, m, dw, ew, mw, N, g⟩ := qd_any n r1 hn (by omega) (by omega) lw L hl L1 L2
    obtain ⟨A', B', q', d', e', m', dw', ew', mw', N', g'⟩ := qd_any n r2 hn (by omega) hr2 lw L hl L1 L2
    have hm := qd_mono g g' L1 hr hn hr2
    obtain rfl := h1.word g (by omega)
    obtain rfl := h2.word g' (by omega)
    rw [i1.uniq g.iN, i2.uniq g'.iN]
    have k1 := g.N2
    have k2 := g'.N1
    have : N < N' + 1 := by
      have : (N:Rat) < ((N' + 1 : Nat):Rat) := by push_cast; grind
      exact_mod_cast this
    exact_mod_cast (show N ≤ N' by omega)

/-- Where the latency is at least twice the least, the queue is nearly half the limit. -/
theorem qu_half {n r : Int} {lw qw : Nat} {L Q : Rat} (hn : 0 < n) (hr : 2 * n ≤ r) (hr2 : r < 9223372036854775808) (hl : Is lw L) (L1 : 1 ≤ L) (L2 : L ≤ 1000000000000) (h : Qu n r lw qw) (hi : Is qw Q) : L * (499/1000) ≤ Q := by
  obtain ⟨A, B, q, d, e, m, dw, ew, mw, N, g⟩ := qd_any n r (by omega) (by omega) hr2 lw L hl L1 L2
  obtain rfl := h.word g (by omega)
  rw [hi.uniq g.iN]
  have hty := ty_small
  have htp := ty_pos
  have t2 : (1:Rat)/2^1000 ≤ 1/1000000 := by decide +kernel
  have n1 : (1:Rat) ≤ (n:Rat) := int_cast_le (show 1 ≤ n by omega)
  have rn : 2 * (n:Rat) ≤ (r:Rat) := by
    have := int_cast_le hr
    push_cast at this
    exact this
  have kA := g.rA.err (M := (n:Rat)) Rat.le_refl (by grind)
  have kB := g.rB.err (M := (r:Rat)) Rat.le_refl (by grind)
  have B1 := g.B1
  have hq := g.qq
  have q1 : q ≤ 5001/10000 := by
    refine Rat.le_of_mul_le_mul_right (c := B) ?_ (by grind)
    rw [hq]
    grind
  have kd := g.rd.err (M := 1) g.q1 (by have := g.q0; grind)
  have ke := g.re.err (M := 1) (by have := g.d0; grind) (by have := g.d1; grind)
  have e1 : 4998/10000 ≤ e := by grind
  have km := Rat.mul_le_mul_of_nonneg_left e1 (show 0 ≤ L by grind)
  have kk := mm (show 0 ≤ L by grind) Rat.le_refl g.e0 g.ee
  have kr := g.rm.err (M := L) (by grind) (by grind)
  have := g.N1
  generalize L * e = W at *
  grind

/-- Only the ratio counts. -/
theorem fi_shift (n : Int) (s : Nat) (h0 : 0 < n) (h1 : n ≤ 70368744177664) (hs : s ≤ 16) : ∃ (m : Nat) (e : Int), double.read (fi n) = .number false m e ∧ double.read (fi (n * 2^s)) = .number false m (e + s) := by
  have hsm : (2:Int)^s ≤ 65536 := by
    have : (2:Int)^s ≤ 2^16 := by exact_mod_cast Nat.pow_le_pow_right (show 0 < 2 by omega) hs
    simpa using this
  have hsp : (1:Int) ≤ 2^s := by exact_mod_cast Nat.one_le_two_pow (n := s)
  have hns : n * 2^s ≤ 70368744177664 * 65536 := Int.mul_le_mul h1 hsm (by omega) (by omega)
  have hnp : 1 * 1 ≤ n * 2^s := Int.mul_le_mul (by omega) hsp (by omega) (by omega)
  obtain ⟨A, iA, rA⟩ := int_spec n (by omega)
  obtain ⟨B, iB, rB⟩ := int_spec (n * 2^s) (by omega)
  obtain ⟨k, hk⟩ : ∃ k : Nat, n = (k:Int) := ⟨n.toNat, by omega⟩
  have hkR : (n:Rat) = (k:Rat) := by rw [hk]; rfl
  have hA : A = (k:Rat) := by rw [hkR] at rA; exact rA.eq (dblN k (by omega))
  have hBv : ((n * 2^s : Int):Rat) = (k:Rat) * 2^(s:Int) := by
    rw [hk, p2_nat]
    push_cast
    rfl
  have hB : B = (k:Rat) * 2^(s:Int) := by rw [hBv] at rB; exact rB.eq (.inl ⟨k, s, rfl, by omega, by omega⟩)
  have hk0 : (0:Rat) < (k:Rat) := by exact_mod_cast (show 0 < k by omega)
  have hB0 : 0 < B := by rw [hB]; exact Rat.mul_pos hk0 (p2_pos _)
  obtain ⟨m, e, hr, hm⟩ := pos_sign iA (by rw [hA]; exact hk0)
  obtain ⟨m', e', hr', hm'⟩ := pos_sign iB hB0
  obtain ⟨_, a2, a3, a4⟩ := read_inv (fi_lt n) hr
  obtain ⟨_, b2, b3, b4⟩ := read_inv (fi_lt (n * 2^s)) hr'
  have hv : (m:Rat) * 2^(e + (s:Int)) = (m':Rat) * 2^e' := by
    rw [← hm', hB, p2_add, ← hA, hm]
    grind
  have hmn : 4503599627370496 ≤ m := by
    rcases a4 with h | h
    · exfalso
      -- a whole number is not that small
      have k1 : (1:Rat) ≤ (k:Rat) := by
        have : ((1:Nat):Rat) ≤ (k:Rat) := by exact_mod_cast (show 1 ≤ k by omega)
        exact this
      have k2 := Dbl.lt (l0 := e) a2
      rw [← hm, hA, h] at k2
      have k3 : (2:Rat)^(-1074 + 53 : Int) ≤ 1/2 := by decide +kernel
      grind
    · exact h
  obtain ⟨rfl, rfl⟩ := canon a2 b2 (.inr hmn) b4 (by omega) b3 hv
  exact ⟨m, e, hr, hr'⟩

theorem div_shift (n r : Int) (s : Nat) (h0 : 0 ≤ n) (h1 : n ≤ 70368744177664) (h2 : 0 < r) (h3 : r ≤ 70368744177664) (hs : s ≤ 16) : double.div (fi (n * 2^s)) (fi (r * 2^s)) = double.div (fi n) (fi r) := by
  obtain ⟨m', e', hr, hr'⟩ := fi_shift r s h2 h3 hs
  unfold Format.div
  rw [hr, hr']
  rcases Int.lt_or_eq_of_le h0 with hn | hn
  · obtain ⟨m, e, hn1, hn2⟩ := fi_shift n s hn h1 hs
    rw [hn1, hn2]
    simp only [Datum.quotient]
    split
    · rfl
    · rw [show e + (s:Int) - (e' + (s:Int)) = e - e' by omega]
  · rw [← hn, Int.zero_mul]
    rw [show double.read (fi 0) = .number false 0 (-1074) from by decide]
    simp only [Datum.quotient]
    split
    · rfl
    · simp only [Option.map_some, Format.write]
      have e0 : ∀ x : Nat, 2 * (0 <<< x / m') + (0 <<< x % m' != 0).toNat = 0 := by intro x; simp
      rw [e0]
      unfold Format.nearest
      rw [if_pos rfl, if_pos rfl]

theorem qu_shift {n r : Int} {lw qw : Nat} (s : Nat) (h0 : 0 ≤ n) (h1 : n ≤ 70368744177664) (h3 : r ≤ 70368744177664) (hs : s ≤ 16) (h : Qu n r lw qw) : Qu (n * 2^s) (r * 2^s) lw qw := by
  have hsp : (0:Int) < 2^s := by exact_mod_cast Nat.two_pow_pos s
  rcases h with ⟨h, hq⟩ | ⟨h, dw, ew, mw, e1, e2, e3, hq⟩
  · exact .inl ⟨Int.mul_le_mul_of_nonneg_right h (by omega), hq⟩
  · exact .inr ⟨Int.mul_lt_mul_of_pos_right h hsp, dw, ew, mw, by rw [div_shift n r s h0 h1 (by omega) h3 hs]; exact e1, e2, e3, hq⟩

end Go.Proofs.Qxb6616692a
