import Derived.Test.Qxb6616692aV7
namespace Go.Proofs.Qxb6616692a
open Ieee

theorem dblN (n : Nat) (h : n < 9007199254740992) : DblS (n:Rat) := .inl ⟨n, 0, by rw [Rat.zpow_zero, Rat.mul_one], h, by omega⟩
set_option exponentiation.threshold 2000 in
theorem is_zero : Is 0 0 := ⟨false, 0, -1074, by decide, by decide, by decide, by simp [sg]⟩

theorem red (x : Nat) (hx1 : 4607182418800017408 ≤ x) (hx2 : x ≤ 4786511204640096256) : ∃ (L : Rat) (o kw ao f1w fw : Nat) (k : Nat) (F f : Rat), Is x L ∧
    (o = if (double.order 4604544271217802189 (x % 4503599627370496 + 4602678819172646912) == some .lt) = true then 0 else 4607182418800017408) ∧
    double.sub (double.nearest (decide (Int.ofNat (x / 4503599627370496) - 1022 < 0)) (Int.ofNat (x / 4503599627370496) - 1022).natAbs 0) o = some kw ∧
    double.add o 4607182418800017408 = some ao ∧ double.mul (x % 4503599627370496 + 4602678819172646912) ao = some f1w ∧ double.sub f1w 4607182418800017408 = some fw ∧
    Is kw (k:Rat) ∧ Is fw f ∧ f = F - 1 ∧ cS < F ∧ F ≤ 2 * cS ∧ L = F * 2^(k:Int) ∧ k ≤ 40 ∧ (k = 0 → 1 ≤ F) := by
  have hE1 : 1023 ≤ x / 4503599627370496 := by omega
  have hE2 : x / 4503599627370496 ≤ 1062 := by omega
  have hfr : x % 4503599627370496 < 4503599627370496 := Nat.mod_lt _ (by omega)
  have hread := read_word false x (by omega)
  rw [show double.word false x = x from rfl, if_neg (by omega)] at hread
  have hread1 := read_word false (x % 4503599627370496 + 4602678819172646912) (by omega)
  rw [show double.word false (x % 4503599627370496 + 4602678819172646912) = x % 4503599627370496 + 4602678819172646912 from rfl, if_neg (by omega)] at hread1
  have e1 : (x % 4503599627370496 + 4602678819172646912) % 4503599627370496 = x % 4503599627370496 := by omega
  have e2 : (x % 4503599627370496 + 4602678819172646912) / 4503599627370496 - 1 = 1021 := by omega
  rw [e1, e2, show (-1074 + ((1021:Nat):Int)) = -53 from rfl] at hread1
  generalize hEE : x / 4503599627370496 = E at *
  generalize x % 4503599627370496 + 4602678819172646912 = f1x at *
  generalize hm : 4503599627370496 + x % 4503599627370496 = m at *
  have hm1 : 4503599627370496 ≤ m := by omega
  have hm2 : m < 9007199254740992 := by omega
  have hmR1 : (4503599627370496:Rat) ≤ (m:Rat) := by
    have : ((4503599627370496 : Nat):Rat) ≤ (m:Rat) := by exact_mod_cast hm1
    exact this
  have hmR2 : (m:Rat) < 9007199254740992 := by
    have : (m:Rat) < ((9007199254740992 : Nat):Rat) := by exact_mod_cast hm2
    exact this
  have hp53 : (2:Rat)^(-53:Int) = 1/9007199254740992 := by decide +kernel
  obtain ⟨v, hv⟩ : ∃ v : Rat, v = (m:Rat) * 2^(-53:Int) := ⟨_, rfl⟩
  have hf1 : Is f1x v := ⟨false, m, -53, hread1, hm2, by omega, by rw [hv]; simp [sg]⟩
  have hv1 : 1/2 ≤ v := by rw [hv, hp53]; grind
  have hv2 : v < 1 := by rw [hv, hp53]; grind
  have hbig := big64
  -- the exponent
  obtain ⟨c, hc, hcr⟩ := int_spec (Int.ofNat E - 1022) (by rw [show Int.ofNat E = (E:Int) from rfl]; omega)
  obtain ⟨n, hn⟩ : ∃ n : Nat, E = n + 1022 := ⟨E - 1022, by omega⟩
  have hnI : Int.ofNat E - 1022 = (n:Int) := by rw [show Int.ofNat E = (E:Int) from rfl, hn]; omega
  have hnR : ((Int.ofNat E - 1022 : Int):Rat) = (n:Rat) := by rw [hnI]; rfl
  rw [hnR] at hcr
  have hcn : c = (n:Rat) := hcr.eq (dblN n (by omega))
  subst hcn
  have hn40 : n ≤ 40 := by omega
  have hn1 : 1 ≤ n := by omega
  have hnR2 : (n:Rat) ≤ 40 := by
    have : (n:Rat) ≤ ((40:Nat):Rat) := by exact_mod_cast hn40
    exact this
  have hnR1 : 1 ≤ (n:Rat) := by
    have : ((1:Nat):Rat) ≤ (n:Rat) := by exact_mod_cast hn1
    exact this
  -- x itself
  have hL : Is x (v * 2^(n:Int)) := by
    refine ⟨false, m, _, hread, hm2, by omega, ?_⟩
    rw [hv, hn]
    have ei : (-1074 + ((n + 1022 - 1 : Nat):Int)) = -53 + (n:Int) := by omega
    rw [ei, p2_add]
    simp only [sg]
    grind
  have hord := ord_spec is_cS hf1
  have hcb := b_cS
  by_cases hlt : cS < v
  · rw [if_pos hlt] at hord
    obtain ⟨kw, ck, ek, ik, rk⟩ := sub_spec hc is_zero (by grind) (by grind)
    obtain ⟨ao, ca, ea, ia, ra⟩ := add_spec is_zero is_cOne (by rw [v_one]; grind) (by rw [v_one]; grind)
    have hck : ck = (n:Rat) := by
      have e : (n:Rat) - 0 = (n:Rat) := by grind
      rw [e] at rk
      exact rk.eq (dblN n (by omega))
    have hca : ca = 1 := by
      have e : (0:Rat) + cOne = 1 := by rw [v_one]; grind
      rw [e] at ra
      exact ra.eq (dblN 1 (by omega))
    subst hck hca
    obtain ⟨f1w, cf, ef, iF, rF⟩ := mul_spec hf1 ia (by grind) (by grind)
    have hcf : cf = v := by
      have e : v * 1 = v := by grind
      rw [e] at rF
      exact rF.eq hf1.dbl
    subst hcf
    obtain ⟨fw, f, e4, i4, r4⟩ := sub_spec iF is_cOne (by rw [v_one]; grind) (by rw [v_one]; grind)
    rw [v_one] at r4
    obtain ⟨m', hm'⟩ : ∃ m' : Nat, m' + m = 9007199254740992 := ⟨9007199254740992 - m, by omega⟩
    have hmR' : (m':Rat) + (m:Rat) = 9007199254740992 := by
      have : ((m' + m : Nat):Rat) = ((9007199254740992 : Nat):Rat) := by rw [hm']
      push_cast at this
      exact this
    have r4' : f = cf - 1 := r4.eq (.inr ⟨m', -53, by rw [hv, hp53]; grind, by omega, by omega⟩)
    exact ⟨_, 0, kw, ao, f1w, fw, n, cf, f, hL, by rw [hord]; simp, ek, ea, ef, e4, ik, i4, r4', hlt, by grind, rfl, hn40, by omega⟩
  · have hno : (double.order 4604544271217802189 f1x == some .lt) = false := by
      rw [hord, if_neg hlt]
      by_cases h : cS = v
      · rw [if_pos h]; rfl
      · rw [if_neg h]; rfl
    obtain ⟨kw, ck, ek, ik, rk⟩ := sub_spec hc is_cOne (by rw [v_one]; grind) (by rw [v_one]; grind)
    obtain ⟨ao, ca, ea, ia, ra⟩ := add_spec is_cOne is_cOne (by rw [v_one]; grind) (by rw [v_one]; grind)
    obtain ⟨n', hn'⟩ : ∃ n' : Nat, n = n' + 1 := ⟨n - 1, by omega⟩
    have hck : ck = (n':Rat) := by
      have e : (n:Rat) - cOne = (n':Rat) := by rw [v_one, hn']; push_cast; grind
      rw [e] at rk
      exact rk.eq (dblN n' (by omega))
    have hca : ca = 2 := by
      have e : cOne + cOne = 2 := by rw [v_one]; grind
      rw [e] at ra
      exact ra.eq (dblN 2 (by omega))
    subst hck hca
    obtain ⟨f1w, cf, ef, iF, rF⟩ := mul_spec hf1 ia (by grind) (by grind)
    have hcf : cf = v * 2 := rF.eq (.inl ⟨m, -52, by rw [hv, hp53, show (2:Rat)^(-52:Int) = 1/4503599627370496 from by decide +kernel]; grind, hm2, by omega⟩)
    subst hcf
    obtain ⟨fw, f, e4, i4, r4⟩ := sub_spec iF is_cOne (by rw [v_one]; grind) (by rw [v_one]; grind)
    rw [v_one] at r4
    obtain ⟨m', hm'⟩ : ∃ m' : Nat, m = m' + 4503599627370496 := ⟨m - 4503599627370496, by omega⟩
    have hmR' : (m:Rat) = (m':Rat) + 4503599627370496 := by
      have : (m:Rat) = ((m' + 4503599627370496 : Nat):Rat) := by rw [← hm']
      push_cast at this
      exact this
    have r4' : f = v * 2 - 1 := r4.eq (.inl ⟨m', -52, by rw [hv, hp53, show (2:Rat)^(-52:Int) = 1/4503599627370496 from by decide +kernel]; grind, by omega, by omega⟩)
    refine ⟨_, 4607182418800017408, kw, ao, f1w, fw, n', v * 2, f, hL, by rw [hno]; simp, ek, ea, ef, e4, ik, i4, r4', by grind, by grind, ?_, by omega, fun _ => by grind⟩
    rw [hn', show (((n' + 1 : Nat):Int)) = 1 + (n':Int) by omega, p2_add, show (2:Rat)^(1:Int) = 2 from by decide +kernel]
    grind

/-- Between 0 and N. -/
def Bt (x : Nat) (N : Nat) : Prop := ∃ c, Is x c ∧ 0 ≤ c ∧ c ≤ (N:Rat)
theorem btMul {x y z A B : Nat} (hx : Bt x A) (hy : Bt y B) (hN : A * B < 1000) (h : double.mul x y = some z) : Bt z (A * B) := by
  obtain ⟨a, ia, a0, a1⟩ := hx
  obtain ⟨b, ib, b0, b1⟩ := hy
  have k := mm a0 a1 b0 b1
  have e : ((A * B : Nat):Rat) = (A:Rat) * (B:Rat) := by push_cast; rfl
  have hN' : ((A * B : Nat):Rat) < ((1000:Nat):Rat) := by exact_mod_cast hN
  have hb : ((1000:Nat):Rat) < 2^(900:Int) := by decide +kernel
  obtain ⟨z', c, hz, iz, r⟩ := mul_spec ia ib (by grind) (by grind)
  rw [h] at hz
  cases hz
  exact ⟨c, iz, r.dbl_le (.inl Dbl.zero) k.1, r.le_dbl (dblN _ (by omega)) (by rw [e]; exact k.2)⟩
theorem btAdd {x y z A B : Nat} (hx : Bt x A) (hy : Bt y B) (hN : A + B < 1000) (h : double.add x y = some z) : Bt z (A + B) := by
  obtain ⟨a, ia, a0, a1⟩ := hx
  obtain ⟨b, ib, b0, b1⟩ := hy
  have e : ((A + B : Nat):Rat) = (A:Rat) + (B:Rat) := by push_cast; rfl
  have hN' : ((A + B : Nat):Rat) < ((1000:Nat):Rat) := by exact_mod_cast hN
  have hb : ((1000:Nat):Rat) < 2^(900:Int) := by decide +kernel
  obtain ⟨z', c, hz, iz, r⟩ := add_spec ia ib (by grind) (by grind)
  rw [h] at hz
  cases hz
  exact ⟨c, iz, r.dbl_le (.inl Dbl.zero) (by grind), r.le_dbl (dblN _ (by omega)) (by rw [e]; grind)⟩
theorem btC {w : Nat} {c : Rat} (h : Is w c) (b : (1/10:Rat) ≤ c ∧ c ≤ 3/4) : Bt w 1 := ⟨c, h, by grind, by show c ≤ ((1:Nat):Rat); have e : ((1:Nat):Rat) = 1 := rfl; rw [e]; grind⟩

/-- Where the number is at least 1 and the exponent is none, the answer is not negative. -/
theorem sign_core (fw kw : Nat) (f : Rat) (hf : Is fw f) (hk : Is kw 0) (f0 : 0 ≤ f) (f1 : f ≤ 1/2) (T s s2 s4 m7 a5 m5 a3 m3 a1 t1 m6 a4 m4 a2 t2 r hw h rh srh lk inn hi d1 d2 res : Nat)
    (eT : double.add 4611686018427387904 fw = some T)
    (es : double.div fw T = some s)
    (es2 : double.mul s s = some s2)
    (es4 : double.mul s2 s2 = some s4)
    (em7 : double.mul 4594499633228436036 s4 = some m7)
    (ea5 : double.add m7 4595719342595441630 = some a5)
    (em5 : double.mul a5 s4 = some m5)
    (ea3 : double.add m5 4598818590951641945 = some a3)
    (em3 : double.mul a3 s4 = some m3)
    (ea1 : double.add m3 4604180019048437139 = some a1)
    (et1 : double.mul s2 a1 = some t1)
    (em6 : double.mul 4594685411790997151 s4 = some m6)
    (ea4 : double.add m6 4597174411056806063 = some a4)
    (em4 : double.mul a4 s4 = some m4)
    (ea2 : double.add m4 4600877379321592324 = some a2)
    (et2 : double.mul s4 a2 = some t2)
    (er : double.add t1 t2 = some r)
    (ehf : double.mul 4602678819172646912 fw = some hw)
    (eh : double.mul hw fw = some h)
    (erh : double.add r h = some rh)
    (esrh : double.mul s rh = some srh)
    (elk : double.mul 4461442080421002358 kw = some lk)
    (einn : double.add srh lk = some inn)
    (ehi : double.mul kw 4604418534311723008 = some hi)
    (ed1 : double.sub h inn = some d1)
    (ed2 : double.sub d1 fw = some d2)
    (eres : double.sub hi d2 = some res) (l : Rat) (hl : Is res l) : 0 ≤ l := by
  have hb := big64
  have e1 : ((1:Nat):Rat) = 1 := rfl
  -- T, s
  obtain ⟨T', cT, hT, iT, rT⟩ := add_spec is_cTwo hf (by rw [v_two]; grind) (by rw [v_two]; grind)
  rw [eT] at hT
  cases hT
  rw [v_two] at rT
  have hT2 : 2 ≤ cT := rT.dbl_le (dblN 2 (by omega)) (by show ((2:Nat):Rat) ≤ _; have e : ((2:Nat):Rat) = 2 := rfl; rw [e]; grind)
  obtain ⟨q, hq⟩ : ∃ q : Rat, q * cT = f := ⟨f / cT, Rat.div_mul_cancel (by grind)⟩
  have hq0 : 0 ≤ q := Rat.le_of_mul_le_mul_right (c := cT) (by rw [hq]; grind) (by grind)
  have hq1 : q ≤ 1 := Rat.le_of_mul_le_mul_right (c := cT) (by rw [hq]; grind) (by grind)
  obtain ⟨s', cs, hs, is_, rs⟩ := div_spec hf iT (by grind) hq (by grind) (by grind)
  rw [es] at hs
  cases hs
  have bs : Bt s 1 := ⟨cs, is_, rs.dbl_le (.inl Dbl.zero) hq0, rs.le_dbl (dblN 1 (by omega)) (by rw [e1]; exact hq1)⟩
  have bs2 : Bt s2 1 := btMul bs bs (by omega) es2
  have bs4 : Bt s4 1 := btMul bs2 bs2 (by omega) es4
  have bm7 : Bt m7 1 := btMul (btC is_c7 b_c7) bs4 (by omega) em7
  have ba5 : Bt a5 2 := btAdd bm7 (btC is_c5 b_c5) (by omega) ea5
  have bm5 : Bt m5 2 := btMul ba5 bs4 (by omega) em5
  have ba3 : Bt a3 3 := btAdd bm5 (btC is_c3 b_c3) (by omega) ea3
  have bm3 : Bt m3 3 := btMul ba3 bs4 (by omega) em3
  have ba1 : Bt a1 4 := btAdd bm3 (btC is_c1 b_c1) (by omega) ea1
  have bt1 : Bt t1 4 := btMul bs2 ba1 (by omega) et1
  have bm6 : Bt m6 1 := btMul (btC is_c6 b_c6) bs4 (by omega) em6
  have ba4 : Bt a4 2 := btAdd bm6 (btC is_c4 b_c4) (by omega) ea4
  have bm4 : Bt m4 2 := btMul ba4 bs4 (by omega) em4
  have ba2 : Bt a2 3 := btAdd bm4 (btC is_c2 b_c2) (by omega) ea2
  have bt2 : Bt t2 3 := btMul bs4 ba2 (by omega) et2
  have br : Bt r 7 := btAdd bt1 bt2 (by omega) er
  -- hfsq
  obtain ⟨_, chf, hh1, ihf, rhf⟩ := mul_spec is_cHalf hf (by rw [v_half]; grind) (by rw [v_half]; grind)
  rw [ehf] at hh1
  cases hh1
  rw [v_half] at rhf
  have hhf0 : 0 ≤ chf := rhf.dbl_le (.inl Dbl.zero) (by grind)
  have hhf1 : chf ≤ f := rhf.le_dbl hf.dbl (by grind)
  have k := mm hhf0 hhf1 f0 (show f ≤ 1 by grind)
  obtain ⟨_, ch, hh2, ih, rh_⟩ := mul_spec ihf hf (by grind) (by grind)
  rw [eh] at hh2
  cases hh2
  have hh0 : 0 ≤ ch := rh_.dbl_le (.inl Dbl.zero) k.1
  have hhf : ch ≤ f := rh_.le_dbl hf.dbl (by grind)
  have bh : Bt h 1 := ⟨ch, ih, hh0, by rw [e1]; grind⟩
  have brh : Bt rh 8 := btAdd br bh (by omega) erh
  have bsrh : Bt srh 8 := btMul bs brh (by omega) esrh
  -- the exponent's parts are zero
  have blk : Bt lk 0 := by
    have b0 : Bt kw 0 := ⟨0, hk, Rat.le_refl, Rat.le_refl⟩
    have b1 : Bt 4461442080421002358 1 := ⟨cLo, is_cLo, b_cLo.1, by rw [e1]; have := b_cLo; grind⟩
    exact btMul b1 b0 (by omega) elk
  have bhi : Bt hi 0 := by
    have b0 : Bt kw 0 := ⟨0, hk, Rat.le_refl, Rat.le_refl⟩
    have b1 : Bt 4604418534311723008 1 := ⟨cHi, is_cHi, by have := b_cHi; grind, by rw [e1]; have := b_cHi; grind⟩
    exact btMul b0 b1 (by omega) ehi
  have binn : Bt inn 8 := btAdd bsrh blk (by omega) einn
  obtain ⟨ci, ii, ci0, ci8⟩ := binn
  have e8 : ((8:Nat):Rat) = 8 := rfl
  rw [e8] at ci8
  obtain ⟨_, cd1, hh3, id1, rd1⟩ := sub_spec ih ii (by grind) (by grind)
  rw [ed1] at hh3
  cases hh3
  have hd1 : cd1 ≤ ch := rd1.le_dbl ih.dbl (by grind)
  have hd1' : -64 ≤ cd1 := by have := (rnd_near rd1 (by grind) (by grind)).2; have := uu_le; grind
  have hbig : (1000:Rat) < 2^(900:Int) := by decide +kernel
  obtain ⟨_, cd2, hh4, id2, rd2⟩ := sub_spec id1 hf (by grind) (by grind)
  rw [ed2] at hh4
  cases hh4
  have hd2 : cd2 ≤ 0 := rd2.le_dbl (.inl Dbl.zero) (by grind)
  have hd2' : -128 ≤ cd2 := rd2.dbl_le (.inr ⟨128, 0, by decide +kernel, by omega, by omega⟩) (by grind)
  obtain ⟨chi, ihi, chi0, chi1⟩ := bhi
  have e0 : ((0:Nat):Rat) = 0 := rfl
  rw [e0] at chi1
  obtain ⟨_, cr, hh5, ir, rr⟩ := sub_spec ihi id2 (by grind) (by grind)
  rw [eres] at hh5
  cases hh5
  rw [hl.uniq ir]
  exact rr.dbl_le (.inl Dbl.zero) (by grind)

end Go.Proofs.Qxb6616692a
