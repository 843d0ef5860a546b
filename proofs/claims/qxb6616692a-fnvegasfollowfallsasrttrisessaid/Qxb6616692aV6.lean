import Derived.Test.Qxb6616692aV5
namespace Go.Proofs.Qxb6616692a
open Ieee

theorem Nr.box {c t e B B' : Rat} (h : Nr c t e) (hb : -B ≤ t ∧ t ≤ B) (he : e + B ≤ B') : -B' ≤ c ∧ c ≤ B' := by
  unfold Nr at h
  constructor <;> grind
theorem box1 {c B : Rat} (h : -B ≤ c ∧ c ≤ B) (hB : B ≤ 1) : -1 ≤ c ∧ c ≤ 1 := by constructor <;> grind
theorem box64 {c B : Rat} (h : -B ≤ c ∧ c ≤ B) (hB : B ≤ 64) : -64 ≤ c ∧ c ≤ 64 := by constructor <;> grind
theorem small (n : Rat) (hn : n ≤ 100) : n * uu ≤ 1/100 := by
  have := Rat.mul_le_mul_of_nonneg_right hn (Rat.le_of_lt uu_pos)
  have := uu_le
  grind
theorem addB {a b A B : Rat} (h : -A ≤ a ∧ a ≤ A) (k : -B ≤ b ∧ b ≤ B) (hh : A + B ≤ 64) : a + b ≤ 64 ∧ -64 ≤ a + b := by constructor <;> grind
theorem subB {a b A B : Rat} (h : -A ≤ a ∧ a ≤ A) (k : -B ≤ b ∧ b ≤ B) (hh : A + B ≤ 64) : a - b ≤ 64 ∧ -64 ≤ a - b := by constructor <;> grind
theorem cb {c : Rat} (h : (1/10:Rat) ≤ c ∧ c ≤ 3/4) : -1 ≤ c ∧ c ≤ 1 := by constructor <;> grind

/-- The whole of the algorithm, behind the reduction. -/
theorem log_core (fw kw : Nat) (f K S X2 X4 P7 P5 Q5 P3 Q3 P1 R1 P6 P4 Q4 P2 R2 R HF HH RH SRH LK IN HI D1 D2 AA : Rat) (hf : Is fw f) (hk : Is kw K) (tg : Tg K f S X2 X4 P7 P5 Q5 P3 Q3 P1 R1 P6 P4 Q4 P2 R2 R HF HH RH SRH LK IN HI D1 D2 AA) (f1 : -(3/10) ≤ f) (f2 : f ≤ 42/100) (k1 : 0 ≤ K) (k2 : K ≤ 40) :
    ∃ T s s2 s4 m7 a5 m5 a3 m3 a1 t1 m6 a4 m4 a2 t2 r hfw h rh srh lk inn hi d1 d2 res : Nat, ∃ l : Rat,
      double.add 4611686018427387904 fw = some T ∧ double.div fw T = some s ∧ double.mul s s = some s2 ∧ double.mul s2 s2 = some s4 ∧
      double.mul 4594499633228436036 s4 = some m7 ∧ double.add m7 4595719342595441630 = some a5 ∧ double.mul a5 s4 = some m5 ∧ double.add m5 4598818590951641945 = some a3 ∧
      double.mul a3 s4 = some m3 ∧ double.add m3 4604180019048437139 = some a1 ∧ double.mul s2 a1 = some t1 ∧
      double.mul 4594685411790997151 s4 = some m6 ∧ double.add m6 4597174411056806063 = some a4 ∧ double.mul a4 s4 = some m4 ∧ double.add m4 4600877379321592324 = some a2 ∧ double.mul s4 a2 = some t2 ∧
      double.add t1 t2 = some r ∧ double.mul 4602678819172646912 fw = some hfw ∧ double.mul hfw fw = some h ∧ double.add r h = some rh ∧ double.mul s rh = some srh ∧ double.mul 4461442080421002358 kw = some lk ∧
      double.add srh lk = some inn ∧ double.mul kw 4604418534311723008 = some hi ∧ double.sub h inn = some d1 ∧ double.sub d1 fw = some d2 ∧ double.sub hi d2 = some res ∧
      Is res l ∧ Nr l AA (98 * uu) := by
  have B := tg.bd f1 f2 k1 k2
  have bf : -(1/2) ≤ f ∧ f ≤ 1/2 := by constructor <;> grind
  have bf1 : -1 ≤ f ∧ f ≤ 1 := by constructor <;> grind
  have bK : -40 ≤ K ∧ K ≤ 40 := by constructor <;> grind
  -- T, s
  obtain ⟨T, T', eT, iT, nT⟩ := addN is_cTwo hf (Nr.rfl' _) (Nr.rfl' _) (t := 2 + f) (e := uu) (by rw [v_two]) (by grind) (by rw [v_two]; grind) (by rw [v_two]; grind)
  have T32 : 3/2 ≤ T' := by have := uu_le; unfold Nr at nT; grind
  have T0 : T' ≠ 0 := by grind
  obtain ⟨q, hq⟩ : ∃ q : Rat, q * T' = f := ⟨f / T', Rat.div_mul_cancel T0⟩
  have nq : Nr q S uu := by
    have h1 := tg.s
    have hu := uu_pos
    have k1 := absm B.S.1 B.S.2 (show -uu ≤ 2 + f - T' by unfold Nr at nT; grind) (show 2 + f - T' ≤ uu by unfold Nr at nT; grind)
    have k2 : (q - S) * T' = S * (2 + f - T') := by grind
    have k3 := Rat.mul_le_mul_of_nonneg_left T32 (Rat.le_of_lt hu)
    constructor
    · exact Rat.le_of_mul_le_mul_right (c := T') (by rw [k2]; grind) (by grind)
    · refine Rat.le_of_mul_le_mul_right (c := T') ?_ (by grind)
      have k4 : (S - q) * T' = -(S * (2 + f - T')) := by grind
      rw [k4]; grind
  have bq := Nr.box nq B.S (B' := 1) (by have := uu_le; grind)
  have hb := big64
  obtain ⟨s, s', es, is_, rs⟩ := div_spec hf iT T0 hq (by grind) (by grind)
  have ns0 := rnd_near rs (by grind) (by grind)
  have ns : Nr s' S (2 * uu) := by unfold Nr at *; constructor <;> grind
  clear ns0 rs nq bq hq T32 nT
  have bs := box1 (Nr.box ns B.S (B' := 1/2) (by have := small 2 (by decide +kernel); grind)) (by decide +kernel)
  obtain ⟨s2, s2', es2, is2, ns2⟩ := mulN is_ is_ ns ns (e := 5 * uu) tg.x2 (by grind) bs.1 bs.2 (box1 B.S (by decide +kernel)).1 (box1 B.S (by decide +kernel)).2 (box64 bs (by decide +kernel)).1 (box64 bs (by decide +kernel)).2
  have bs2 := box1 (Nr.box ns2 B.X2 (B' := 1) (by have := small 5 (by decide +kernel); grind)) (by decide +kernel)
  obtain ⟨s4, s4', es4, is4, ns4⟩ := mulN is2 is2 ns2 ns2 (e := 11 * uu) tg.x4 (by grind) bs2.1 bs2.2 (box1 B.X2 (by decide +kernel)).1 (box1 B.X2 (by decide +kernel)).2 (box64 bs2 (by decide +kernel)).1 (box64 bs2 (by decide +kernel)).2
  have bs4 := box1 (Nr.box ns4 B.X4 (B' := 1) (by have := small 11 (by decide +kernel); grind)) (by decide +kernel)
  obtain ⟨m7, m7', em7, im7, nm7⟩ := mulN is_c7 is4 (Nr.rfl' _) ns4 (e := 12 * uu) tg.p7 (by grind) (cb b_c7).1 (cb b_c7).2 (box1 B.X4 (by decide +kernel)).1 (box1 B.X4 (by decide +kernel)).2 (box64 bs4 (by decide +kernel)).1 (box64 bs4 (by decide +kernel)).2
  have bm7 := box1 (Nr.box nm7 B.P7 (B' := 1) (by have := small 12 (by decide +kernel); grind)) (by decide +kernel)
  obtain ⟨a5, a5', ea5, ia5, na5⟩ := addN im7 is_c5 nm7 (Nr.rfl' _) (e := 13 * uu) tg.p5 (by grind) (addB bm7 (cb b_c5) (by decide +kernel)).1 (addB bm7 (cb b_c5) (by decide +kernel)).2
  have ba5 := box1 (Nr.box na5 B.P5 (B' := 1) (by have := small 13 (by decide +kernel); grind)) (by decide +kernel)
  obtain ⟨m5, m5', em5, im5, nm5⟩ := mulN ia5 is4 na5 ns4 (e := 25 * uu) tg.q5 (by grind) ba5.1 ba5.2 (box1 B.X4 (by decide +kernel)).1 (box1 B.X4 (by decide +kernel)).2 (box64 bs4 (by decide +kernel)).1 (box64 bs4 (by decide +kernel)).2
  have bm5 := box1 (Nr.box nm5 B.Q5 (B' := 1) (by have := small 25 (by decide +kernel); grind)) (by decide +kernel)
  obtain ⟨a3, a3', ea3, ia3, na3⟩ := addN im5 is_c3 nm5 (Nr.rfl' _) (e := 26 * uu) tg.p3 (by grind) (addB bm5 (cb b_c3) (by decide +kernel)).1 (addB bm5 (cb b_c3) (by decide +kernel)).2
  have ba3 := box1 (Nr.box na3 B.P3 (B' := 1) (by have := small 26 (by decide +kernel); grind)) (by decide +kernel)
  obtain ⟨m3, m3', em3, im3, nm3⟩ := mulN ia3 is4 na3 ns4 (e := 38 * uu) tg.q3 (by grind) ba3.1 ba3.2 (box1 B.X4 (by decide +kernel)).1 (box1 B.X4 (by decide +kernel)).2 (box64 bs4 (by decide +kernel)).1 (box64 bs4 (by decide +kernel)).2
  have bm3 := box1 (Nr.box nm3 B.Q3 (B' := 1) (by have := small 38 (by decide +kernel); grind)) (by decide +kernel)
  obtain ⟨a1, a1', ea1, ia1, na1⟩ := addN im3 is_c1 nm3 (Nr.rfl' _) (e := 39 * uu) tg.p1 (by grind) (addB bm3 (cb b_c1) (by decide +kernel)).1 (addB bm3 (cb b_c1) (by decide +kernel)).2
  have ba1 := box1 (Nr.box na1 B.P1 (B' := 1) (by have := small 39 (by decide +kernel); grind)) (by decide +kernel)
  obtain ⟨t1, t1', et1, it1, nt1⟩ := mulN is2 ia1 ns2 na1 (e := 45 * uu) tg.r1 (by grind) bs2.1 bs2.2 (box1 B.P1 (by decide +kernel)).1 (box1 B.P1 (by decide +kernel)).2 (box64 ba1 (by decide +kernel)).1 (box64 ba1 (by decide +kernel)).2
  have bt1 := box1 (Nr.box nt1 B.R1 (B' := 1) (by have := small 45 (by decide +kernel); grind)) (by decide +kernel)
  obtain ⟨m6, m6', em6, im6, nm6⟩ := mulN is_c6 is4 (Nr.rfl' _) ns4 (e := 12 * uu) tg.p6 (by grind) (cb b_c6).1 (cb b_c6).2 (box1 B.X4 (by decide +kernel)).1 (box1 B.X4 (by decide +kernel)).2 (box64 bs4 (by decide +kernel)).1 (box64 bs4 (by decide +kernel)).2
  have bm6 := box1 (Nr.box nm6 B.P6 (B' := 1) (by have := small 12 (by decide +kernel); grind)) (by decide +kernel)
  obtain ⟨a4, a4', ea4, ia4, na4⟩ := addN im6 is_c4 nm6 (Nr.rfl' _) (e := 13 * uu) tg.p4 (by grind) (addB bm6 (cb b_c4) (by decide +kernel)).1 (addB bm6 (cb b_c4) (by decide +kernel)).2
  have ba4 := box1 (Nr.box na4 B.P4 (B' := 1) (by have := small 13 (by decide +kernel); grind)) (by decide +kernel)
  obtain ⟨m4, m4', em4, im4, nm4⟩ := mulN ia4 is4 na4 ns4 (e := 25 * uu) tg.q4 (by grind) ba4.1 ba4.2 (box1 B.X4 (by decide +kernel)).1 (box1 B.X4 (by decide +kernel)).2 (box64 bs4 (by decide +kernel)).1 (box64 bs4 (by decide +kernel)).2
  have bm4 := box1 (Nr.box nm4 B.Q4 (B' := 1) (by have := small 25 (by decide +kernel); grind)) (by decide +kernel)
  obtain ⟨a2, a2', ea2, ia2, na2⟩ := addN im4 is_c2 nm4 (Nr.rfl' _) (e := 26 * uu) tg.p2 (by grind) (addB bm4 (cb b_c2) (by decide +kernel)).1 (addB bm4 (cb b_c2) (by decide +kernel)).2
  have ba2 := box1 (Nr.box na2 B.P2 (B' := 1) (by have := small 26 (by decide +kernel); grind)) (by decide +kernel)
  obtain ⟨t2, t2', et2, it2, nt2⟩ := mulN is4 ia2 ns4 na2 (e := 38 * uu) tg.r2 (by grind) bs4.1 bs4.2 (box1 B.P2 (by decide +kernel)).1 (box1 B.P2 (by decide +kernel)).2 (box64 ba2 (by decide +kernel)).1 (box64 ba2 (by decide +kernel)).2
  have bt2 := box1 (Nr.box nt2 B.R2 (B' := 1) (by have := small 38 (by decide +kernel); grind)) (by decide +kernel)
  obtain ⟨r, r', er, ir, nr⟩ := addN it1 it2 nt1 nt2 (e := 84 * uu) tg.r (by grind) (addB bt1 bt2 (by decide +kernel)).1 (addB bt1 bt2 (by decide +kernel)).2
  have br := box1 (Nr.box nr B.R (B' := 1) (by have := small 84 (by decide +kernel); grind)) (by decide +kernel)
  have hhb : -1 ≤ cHalf ∧ cHalf ≤ 1 := by rw [v_half]; constructor <;> decide +kernel
  obtain ⟨hfw, hfw', ehfw, ihfw, nhfw⟩ := mulN is_cHalf hf (Nr.rfl' _) (Nr.rfl' _) (e := 1 * uu) tg.hf (by grind) hhb.1 hhb.2 bf1.1 bf1.2 (box64 bf1 (by decide +kernel)).1 (box64 bf1 (by decide +kernel)).2
  have bhfw := box1 (Nr.box nhfw B.HF (B' := 1) (by have := small 1 (by decide +kernel); grind)) (by decide +kernel)
  obtain ⟨h, h', eh, ih, nh⟩ := mulN ihfw hf nhfw (Nr.rfl' _) (e := 2 * uu) tg.h (by grind) bhfw.1 bhfw.2 bf1.1 bf1.2 (box64 bf1 (by decide +kernel)).1 (box64 bf1 (by decide +kernel)).2
  have bh := box1 (Nr.box nh B.HH (B' := 1) (by have := small 2 (by decide +kernel); grind)) (by decide +kernel)
  obtain ⟨rh, rh', erh, irh, nrh⟩ := addN ir ih nr nh (e := 87 * uu) tg.rh (by grind) (addB br bh (by decide +kernel)).1 (addB br bh (by decide +kernel)).2
  have brh := box1 (Nr.box nrh B.RH (B' := 1) (by have := small 87 (by decide +kernel); grind)) (by decide +kernel)
  obtain ⟨srh, srh', esrh, isrh, nsrh⟩ := mulN is_ irh ns nrh (e := 90 * uu) tg.srh (by grind) bs.1 bs.2 (box1 B.RH (by decide +kernel)).1 (box1 B.RH (by decide +kernel)).2 (box64 brh (by decide +kernel)).1 (box64 brh (by decide +kernel)).2
  have bsrh := box1 (Nr.box nsrh B.SRH (B' := 1) (by have := small 90 (by decide +kernel); grind)) (by decide +kernel)
  have hlo : -1 ≤ cLo ∧ cLo ≤ 1 := by have := b_cLo; constructor <;> grind
  obtain ⟨lk, lk', elk, ilk, nlk⟩ : ∃ z c, double.mul 4461442080421002358 kw = some z ∧ Is z c ∧ Nr c LK (1 * uu) := by
    have h1 := B.LK
    rw [← tg.lk] at h1
    obtain ⟨z, c, h, hz, hr⟩ := mul_spec is_cLo hk (by grind) (by grind)
    refine ⟨z, c, h, hz, ?_⟩
    have := rnd_near hr (by grind) (by grind)
    rw [tg.lk] at this
    unfold Nr at *
    constructor <;> grind
  have blk := box1 (Nr.box nlk B.LK (B' := 1) (by have := small 1 (by decide +kernel); grind)) (by decide +kernel)
  obtain ⟨inn, inn', einn, iinn, ninn⟩ := addN isrh ilk nsrh nlk (e := 92 * uu) tg.inn (by grind) (addB bsrh blk (by decide +kernel)).1 (addB bsrh blk (by decide +kernel)).2
  have binn : -2 ≤ inn' ∧ inn' ≤ 2 := by
    have h1 := B.SRH
    have h2 := B.LK
    have h3 := tg.inn
    have h4 := small 92 (by decide +kernel)
    unfold Nr at ninn
    constructor <;> grind
  obtain ⟨hi, hi', ehi, ihi, nhi⟩ : ∃ z c, double.mul kw 4604418534311723008 = some z ∧ Is z c ∧ Nr c HI (1 * uu) := by
    have h1 := absm bK.1 bK.2 (show -(7/10) ≤ cHi by have := b_cHi; grind) b_cHi.2
    obtain ⟨z, c, h, hz, hr⟩ := mul_spec hk is_cHi (by grind) (by grind)
    refine ⟨z, c, h, hz, ?_⟩
    have := rnd_near hr (by grind) (by grind)
    rw [tg.hi] at this
    unfold Nr at *
    constructor <;> grind
  have bhi : -29 ≤ hi' ∧ hi' ≤ 29 := by
    have h1 := absm bK.1 bK.2 (show -(7/10) ≤ cHi by have := b_cHi; grind) b_cHi.2
    have h2 := tg.hi
    have h4 := small 1 (by decide +kernel)
    unfold Nr at nhi
    constructor <;> grind
  obtain ⟨d1, d1', ed1, id1, nd1⟩ := subN ih iinn nh ninn (e := 95 * uu) tg.d1 (by grind) (subB bh binn (by decide +kernel)).1 (subB bh binn (by decide +kernel)).2
  have bd1 : -4 ≤ d1' ∧ d1' ≤ 4 := by
    have h1 := B.SRH
    have h2 := B.LK
    have h3 := tg.inn
    have h5 := tg.d1
    have h6 := B.HH
    have h4 := small 95 (by decide +kernel)
    unfold Nr at nd1
    constructor <;> grind
  obtain ⟨d2, d2', ed2, id2, nd2⟩ := subN id1 hf nd1 (Nr.rfl' _) (e := 96 * uu) tg.d2 (by grind) (subB bd1 bf1 (by decide +kernel)).1 (subB bd1 bf1 (by decide +kernel)).2
  have bd2 : -6 ≤ d2' ∧ d2' ≤ 6 := by
    have h1 := B.SRH
    have h2 := B.LK
    have h3 := tg.inn
    have h5 := tg.d1
    have h6 := B.HH
    have h7 := tg.d2
    have h4 := small 96 (by decide +kernel)
    unfold Nr at nd2
    constructor <;> grind
  obtain ⟨res, res', eres, ires, nres⟩ := subN ihi id2 nhi nd2 (e := 98 * uu) tg.res (by grind) (subB bhi bd2 (by decide +kernel)).1 (subB bhi bd2 (by decide +kernel)).2
  exact ⟨T, s, s2, s4, m7, a5, m5, a3, m3, a1, t1, m6, a4, m4, a2, t2, r, hfw, h, rh, srh, lk, inn, hi, d1, d2, res, res', eT, es, es2, es4, em7, ea5, em5, ea3, em3, ea1, et1, em6, ea4, em4, ea2, et2, er, ehfw, eh, erh, esrh, elk, einn, ehi, ed1, ed2, eres, ires, nres⟩
end Go.Proofs.Qxb6616692a
