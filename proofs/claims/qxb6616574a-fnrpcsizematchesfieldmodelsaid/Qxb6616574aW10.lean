import Derived.Test.Qxb6616574aW9
namespace Go.Proofs.Qxb6616574a
open Go.RowKit


/-- A slice: where it begins, its length and capacity, its elements. -/
structure Sl (α : Type) where
  a : Option Addr
  n : Nat
  c : Nat
  f : Nat → α
def Sl.val {α : Type} (x : Sl α) : Value := .slice x.a x.n x.c

theorem IH.In.below {w w' : World} {B : Nat} {x : IH} (h : x.In w B) (hb : Below B w w') : x.In w' B := ⟨h.1.below hb, h.2.below hb⟩
theorem IH.In.more {w : World} {B B' : Nat} {x : IH} (h : x.In w B) (hb : B ≤ B') : x.In w B' := ⟨h.1.more hb, h.2.more hb⟩
theorem Pr.In.below {w w' : World} {B : Nat} {x : Pr} (h : x.In w B) (hb : Below B w w') : x.In w' B := ⟨h.1.below hb, h.2.1.below hb, h.2.2.1, h.2.2.2.below hb⟩
theorem Pr.In.more {w : World} {B B' : Nat} {x : Pr} (h : x.In w B) (hb : B ≤ B') : x.In w B' := ⟨h.1.more hb, h.2.1.more hb, h.2.2.1, h.2.2.2.more hb⟩
theorem Sub.In.below {w w' : World} {B : Nat} {x : Sub} (h : x.In w B) (hb : Below B w w') : x.In w' B := ⟨h.1.below hb, h.2.below hb⟩
theorem Sub.In.more {w : World} {B B' : Nat} {x : Sub} (h : x.In w B) (hb : B ≤ B') : x.In w B' := ⟨h.1.more hb, h.2.more hb⟩

/-- A control message. -/
structure Ctl where
  h : Sl IH
  i : Sl Ids
  g : Sl Gr
  p : Sl Pr
  d : Sl Ids
def Ctl.cell (x : Ctl) (j : Nat) : Value := if j = 0 then x.h.val else if j = 1 then x.i.val else if j = 2 then x.g.val else if j = 3 then x.p.val else x.d.val
def Ctl.hsum (x : Ctl) (n : Nat) : Int := Pl.sum (fun k => Pl.field (x.h.f k).body) n
def Ctl.isum (x : Ctl) (n : Nat) : Int := Pl.sum (fun k => Pl.field (x.i.f k).size) n
def Ctl.gsum (x : Ctl) (n : Nat) : Int := Pl.sum (fun k => Pl.field (Pl.ostr (x.g.f k).q (x.g.f k).s)) n
def Ctl.psum (x : Ctl) (n : Nat) : Int := Pl.sum (fun k => Pl.field (x.p.f k).body) n
def Ctl.dsum (x : Ctl) (n : Nat) : Int := Pl.sum (fun k => Pl.field (x.d.f k).size) n
def Ctl.body (x : Ctl) : Int := x.hsum x.h.n + x.isum x.i.n + x.gsum x.g.n + x.psum x.p.n + x.dsum x.d.n
theorem Ctl.hsum_zero (x : Ctl) : x.hsum 0 = 0 := rfl
theorem Ctl.hsum_succ (x : Ctl) (k : Nat) : x.hsum (k + 1) = x.hsum k + Pl.field (x.h.f k).body := rfl
theorem Ctl.isum_zero (x : Ctl) : x.isum 0 = 0 := rfl
theorem Ctl.isum_succ (x : Ctl) (k : Nat) : x.isum (k + 1) = x.isum k + Pl.field (x.i.f k).size := rfl
theorem Ctl.gsum_zero (x : Ctl) : x.gsum 0 = 0 := rfl
theorem Ctl.gsum_succ (x : Ctl) (k : Nat) : x.gsum (k + 1) = x.gsum k + Pl.field (Pl.ostr (x.g.f k).q (x.g.f k).s) := rfl
theorem Ctl.psum_zero (x : Ctl) : x.psum 0 = 0 := rfl
theorem Ctl.psum_succ (x : Ctl) (k : Nat) : x.psum (k + 1) = x.psum k + Pl.field (x.p.f k).body := rfl
theorem Ctl.dsum_zero (x : Ctl) : x.dsum 0 = 0 := rfl
theorem Ctl.dsum_succ (x : Ctl) (k : Nat) : x.dsum (k + 1) = x.dsum k + Pl.field (x.d.f k).size := rfl

/-- What the five slices hold, in memory below B. -/
structure Ctl.In (w : World) (B : Nat) (x : Ctl) : Prop where
  hr : RowAt w B x.h.a x.h.n 2 (fun i j => (x.h.f i).cell j)
  he : ∀ i, i < x.h.n → (x.h.f i).In w B
  ir : RowAt w B x.i.a x.i.n 1 (fun i _ => (x.i.f i).val)
  ie : ∀ i, i < x.i.n → (x.i.f i).In w B
  gr : RowAt w B x.g.a x.g.n 1 (fun i _ => .pointer (x.g.f i).q)
  ge : ∀ i, i < x.g.n → StrIn w B (x.g.f i).q (x.g.f i).s
  pr : RowAt w B x.p.a x.p.n 3 (fun i j => (x.p.f i).cell j)
  pe : ∀ i, i < x.p.n → (x.p.f i).In w B
  dr : RowAt w B x.d.a x.d.n 1 (fun i _ => (x.d.f i).val)
  de : ∀ i, i < x.d.n → (x.d.f i).In w B

set_option maxHeartbeats 2000000 in
theorem ctlEncode_any (E b o : Nat) (z : Int) (x : Ctl) (w : World) (hE : EncS E w z) (hb : b < E)
    (hc : ∀ j, j < 5 → w.cell? ⟨b, o + j, none⟩ = some (x.cell j)) (hx : x.In w E) :
    Calls Try.prog 24 #[.pointer (some ⟨b, o, none⟩), .pointer (some ⟨E, 0, none⟩)] w (EncP E z x.body w) := by
  obtain ⟨z0, hz0, HE0, HB0⟩ : ∃ x, Hid (x = wrap64 (z + 0)) ∧ Hid (EncS E w x) ∧ Hid (Below E w w) := EncR.start hE
  clear hE
  have m0 := hx.hr.1
  have m1 := hx.ir.1
  have m2 := hx.gr.1
  have m3 := hx.pr.1
  have m4 := hx.dr.1
  unfold maxLen at m0 m1 m2 m3 m4
  have HX : Hid (x.In w E) := hx
  have c0 : w.cell? ⟨b, o, none⟩ = some (.slice x.h.a x.h.n x.h.c) := hc 0 (by omega)
  have c1 : w.cell? ⟨b, o + 1, none⟩ = some (.slice x.i.a x.i.n x.i.c) := hc 1 (by omega)
  have c2 : w.cell? ⟨b, o + 2, none⟩ = some (.slice x.g.a x.g.n x.g.c) := hc 2 (by omega)
  have c3 : w.cell? ⟨b, o + 3, none⟩ = some (.slice x.p.a x.p.n x.p.c) := hc 3 (by omega)
  have c4 : w.cell? ⟨b, o + 4, none⟩ = some (.slice x.d.a x.d.n x.d.c) := hc 4 (by omega)
  have HR0 : Hid (RowAt w E x.h.a x.h.n 2 (fun i j => (x.h.f i).cell j)) := hx.hr
  have HR1 : Hid (RowAt w E x.i.a x.i.n 1 (fun i _ => (x.i.f i).val)) := hx.ir
  have HR2 : Hid (RowAt w E x.g.a x.g.n 1 (fun i _ => .pointer (x.g.f i).q)) := hx.gr
  have HR3 : Hid (RowAt w E x.p.a x.p.n 3 (fun i j => (x.p.f i).cell j)) := hx.pr
  have HR4 : Hid (RowAt w E x.d.a x.d.n 1 (fun i _ => (x.d.f i).val)) := hx.dr
  clear hc hx
  go_enter Try.func24, Try.ntmps24
  go_wp2_with fail
  go_loopw [4, 14] (fun _ i wr => ∃ k : Nat, k ≤ x.h.n ∧ i = .int .i64 k ∧ Hid (EncR E z (0 + x.hsum k) w wr)) (fun _ i _ => x.h.n - (intOf i).toNat)
  case atStart => exact ⟨0, Nat.zero_le _, rfl, EncR.of ⟨z0, hz0, HE0.out, HB0.out⟩ (by rw [Ctl.hsum_zero, Int.add_zero])⟩
  case round =>
  obtain ⟨k, hk, rfl, hr⟩ := hrel
  obtain ⟨z1, hz1, HE1, HB1⟩ : ∃ x', Hid (x' = wrap64 (z + (0 + x.hsum k))) ∧ Hid (EncS E wr x') ∧ Hid (Below E w wr) := hr
  obtain ⟨w1, rfl⟩ : ∃ w1, w1 = wr := ⟨_, rfl⟩
  skip
  by_cases hlt : k < x.h.n
  case pos =>
    obtain ⟨rb, ro, ha, hrb, hrc⟩ := HR0.out.2 (by omega)
    have c0' : w1.cell? ⟨b, o, none⟩ = some (.slice (some ⟨rb, ro, none⟩) x.h.n x.h.c) := by rw [← ha]; exact (HB1.out.cell hb).trans c0
    have HRC : Hid _ := hrc
    clear ha hrc
    go_wp2_with fail
    refine (messageField_any E z1 1 _ 34 _ w1 HE1.out (by omega) cf34 (fun x' w' hE' hB' => ihEncode_any E rb (ro + k * 2) x' (x.h.f k) w' hE' hrb (((HB1.out.trans hB').cell hrb).trans (HRC.out k 0 hlt (by omega))) (((HB1.out.trans hB').cell hrb).trans (HRC.out k 1 hlt (by omega))) ((HX.out.he k hlt).below (HB1.out.trans hB')))).mono ?_
    rintro e w2 ⟨rfl, hr2⟩
    have HR : Hid (EncR E z (0 + x.hsum (k + 1)) w w2) := EncR.of (EncR.next hz1 HB1.out hr2) (by rw [Ctl.hsum_succ]; omega)
    clear hr2 c0'
    go_wp2
    go_roundw
    case rel => exact ⟨k + 1, by omega, by go_num, HR⟩
    case measure => simp [intOf]; omega
  obtain rfl : k = x.h.n := by omega
  clear hlt hk
  have c1w := (HB1.out.cell (p := ⟨b, o + 1, none⟩) hb).trans c1
  go_wp2_with fail
  go_loopw [5, 32] (fun _ i wr => ∃ k : Nat, k ≤ x.i.n ∧ i = .int .i64 k ∧ Hid (EncR E z (0 + x.hsum x.h.n + x.isum k) w wr)) (fun _ i _ => x.i.n - (intOf i).toNat)
  case atStart => exact ⟨0, Nat.zero_le _, rfl, EncR.of ⟨z1, hz1, HE1.out, HB1.out⟩ (by rw [Ctl.isum_zero, Int.add_zero])⟩
  case round =>
  obtain ⟨k, hk, rfl, hr⟩ := hrel
  obtain ⟨z2, hz2, HE2, HB2⟩ : ∃ x', Hid (x' = wrap64 (z + (0 + x.hsum x.h.n + x.isum k))) ∧ Hid (EncS E wr x') ∧ Hid (Below E w wr) := hr
  obtain ⟨w2, rfl⟩ : ∃ w2, w2 = wr := ⟨_, rfl⟩
  clear c1w
  by_cases hlt : k < x.i.n
  case pos =>
    obtain ⟨rb, ro, ha, hrb, hrc⟩ := HR1.out.2 (by omega)
    have c1' : w2.cell? ⟨b, o + 1, none⟩ = some (.slice (some ⟨rb, ro, none⟩) x.i.n x.i.c) := by rw [← ha]; exact (HB2.out.cell hb).trans c1
    have HRC : Hid _ := hrc
    clear ha hrc
    go_wp2_with fail
    refine (messageField_any E z2 2 _ 35 _ w2 HE2.out (by omega) cf35 (fun x' w' hE' hB' => iwEncode_any E rb (ro + k) x' (x.i.f k) w' hE' (by simpa using (((HB2.out.trans hB').cell hrb).trans (HRC.out k 0 hlt (by omega)))) ((HX.out.ie k hlt).below (HB2.out.trans hB')))).mono ?_
    rintro e w3 ⟨rfl, hr3⟩
    have HR : Hid (EncR E z (0 + x.hsum x.h.n + x.isum (k + 1)) w w3) := EncR.of (EncR.next hz2 HB2.out hr3) (by rw [Ctl.isum_succ]; omega)
    clear hr3 c1'
    go_wp2
    go_roundw
    case rel => exact ⟨k + 1, by omega, by go_num, HR⟩
    case measure => simp [intOf]; omega
  obtain rfl : k = x.i.n := by omega
  clear hlt hk
  have c2w := (HB2.out.cell (p := ⟨b, o + 2, none⟩) hb).trans c2
  go_wp2_with fail
  go_loopw [6, 50] (fun _ i wr => ∃ k : Nat, k ≤ x.g.n ∧ i = .int .i64 k ∧ Hid (EncR E z (0 + x.hsum x.h.n + x.isum x.i.n + x.gsum k) w wr)) (fun _ i _ => x.g.n - (intOf i).toNat)
  case atStart => exact ⟨0, Nat.zero_le _, rfl, EncR.of ⟨z2, hz2, HE2.out, HB2.out⟩ (by rw [Ctl.gsum_zero, Int.add_zero])⟩
  case round =>
  obtain ⟨k, hk, rfl, hr⟩ := hrel
  obtain ⟨z3, hz3, HE3, HB3⟩ : ∃ x', Hid (x' = wrap64 (z + (0 + x.hsum x.h.n + x.isum x.i.n + x.gsum k))) ∧ Hid (EncS E wr x') ∧ Hid (Below E w wr) := hr
  obtain ⟨w3, rfl⟩ : ∃ w3, w3 = wr := ⟨_, rfl⟩
  clear c2w
  by_cases hlt : k < x.g.n
  case pos =>
    obtain ⟨rb, ro, ha, hrb, hrc⟩ := HR2.out.2 (by omega)
    have c2' : w3.cell? ⟨b, o + 2, none⟩ = some (.slice (some ⟨rb, ro, none⟩) x.g.n x.g.c) := by rw [← ha]; exact (HB3.out.cell hb).trans c2
    have HRC : Hid _ := hrc
    clear ha hrc
    go_wp2_with fail
    refine (messageField_any E z3 3 _ 36 _ w3 HE3.out (by omega) cf36 (fun x' w' hE' hB' => grEncode_any E rb (ro + k) x' (x.g.f k) w' hE' (by simpa using (((HB3.out.trans hB').cell hrb).trans (HRC.out k 0 hlt (by omega)))) ((HX.out.ge k hlt).below (HB3.out.trans hB')))).mono ?_
    rintro e w4 ⟨rfl, hr4⟩
    have HR : Hid (EncR E z (0 + x.hsum x.h.n + x.isum x.i.n + x.gsum (k + 1)) w w4) := EncR.of (EncR.next hz3 HB3.out hr4) (by rw [Ctl.gsum_succ]; omega)
    clear hr4 c2'
    go_wp2
    go_roundw
    case rel => exact ⟨k + 1, by omega, by go_num, HR⟩
    case measure => simp [intOf]; omega
  obtain rfl : k = x.g.n := by omega
  clear hlt hk
  have c3w := (HB3.out.cell (p := ⟨b, o + 3, none⟩) hb).trans c3
  go_wp2_with fail
  go_loopw [7, 68] (fun _ i wr => ∃ k : Nat, k ≤ x.p.n ∧ i = .int .i64 k ∧ Hid (EncR E z (0 + x.hsum x.h.n + x.isum x.i.n + x.gsum x.g.n + x.psum k) w wr)) (fun _ i _ => x.p.n - (intOf i).toNat)
  case atStart => exact ⟨0, Nat.zero_le _, rfl, EncR.of ⟨z3, hz3, HE3.out, HB3.out⟩ (by rw [Ctl.psum_zero, Int.add_zero])⟩
  case round =>
  obtain ⟨k, hk, rfl, hr⟩ := hrel
  obtain ⟨z4, hz4, HE4, HB4⟩ : ∃ x', Hid (x' = wrap64 (z + (0 + x.hsum x.h.n + x.isum x.i.n + x.gsum x.g.n + x.psum k))) ∧ Hid (EncS E wr x') ∧ Hid (Below E w wr) := hr
  obtain ⟨w4, rfl⟩ : ∃ w4, w4 = wr := ⟨_, rfl⟩
  clear c3w
  by_cases hlt : k < x.p.n
  case pos =>
    obtain ⟨rb, ro, ha, hrb, hrc⟩ := HR3.out.2 (by omega)
    have c3' : w4.cell? ⟨b, o + 3, none⟩ = some (.slice (some ⟨rb, ro, none⟩) x.p.n x.p.c) := by rw [← ha]; exact (HB4.out.cell hb).trans c3
    have HRC : Hid _ := hrc
    clear ha hrc
    go_wp2_with fail
    refine (messageField_any E z4 4 _ 37 _ w4 HE4.out (by omega) cf37 (fun x' w' hE' hB' => prEncode_any E rb (ro + k * 3) x' (x.p.f k) w' hE' hrb (((HB4.out.trans hB').cell hrb).trans (HRC.out k 0 hlt (by omega))) (((HB4.out.trans hB').cell hrb).trans (HRC.out k 1 hlt (by omega))) (((HB4.out.trans hB').cell hrb).trans (HRC.out k 2 hlt (by omega))) ((HX.out.pe k hlt).below (HB4.out.trans hB')))).mono ?_
    rintro e w5 ⟨rfl, hr5⟩
    have HR : Hid (EncR E z (0 + x.hsum x.h.n + x.isum x.i.n + x.gsum x.g.n + x.psum (k + 1)) w w5) := EncR.of (EncR.next hz4 HB4.out hr5) (by rw [Ctl.psum_succ]; omega)
    clear hr5 c3'
    go_wp2
    go_roundw
    case rel => exact ⟨k + 1, by omega, by go_num, HR⟩
    case measure => simp [intOf]; omega
  obtain rfl : k = x.p.n := by omega
  clear hlt hk
  have c4w := (HB4.out.cell (p := ⟨b, o + 4, none⟩) hb).trans c4
  go_wp2_with fail
  go_loopw [8, 86] (fun _ i wr => ∃ k : Nat, k ≤ x.d.n ∧ i = .int .i64 k ∧ Hid (EncR E z (0 + x.hsum x.h.n + x.isum x.i.n + x.gsum x.g.n + x.psum x.p.n + x.dsum k) w wr)) (fun _ i _ => x.d.n - (intOf i).toNat)
  case atStart => exact ⟨0, Nat.zero_le _, rfl, EncR.of ⟨z4, hz4, HE4.out, HB4.out⟩ (by rw [Ctl.dsum_zero, Int.add_zero])⟩
  case round =>
  obtain ⟨k, hk, rfl, hr⟩ := hrel
  obtain ⟨z5, hz5, HE5, HB5⟩ : ∃ x', Hid (x' = wrap64 (z + (0 + x.hsum x.h.n + x.isum x.i.n + x.gsum x.g.n + x.psum x.p.n + x.dsum k))) ∧ Hid (EncS E wr x') ∧ Hid (Below E w wr) := hr
  obtain ⟨w5, rfl⟩ : ∃ w5, w5 = wr := ⟨_, rfl⟩
  clear c4w
  by_cases hlt : k < x.d.n
  case pos =>
    obtain ⟨rb, ro, ha, hrb, hrc⟩ := HR4.out.2 (by omega)
    have c4' : w5.cell? ⟨b, o + 4, none⟩ = some (.slice (some ⟨rb, ro, none⟩) x.d.n x.d.c) := by rw [← ha]; exact (HB5.out.cell hb).trans c4
    have HRC : Hid _ := hrc
    clear ha hrc
    go_wp2_with fail
    refine (messageField_any E z5 5 _ 38 _ w5 HE5.out (by omega) cf38 (fun x' w' hE' hB' => idEncode_any E rb (ro + k) x' (x.d.f k) w' hE' (by simpa using (((HB5.out.trans hB').cell hrb).trans (HRC.out k 0 hlt (by omega)))) ((HX.out.de k hlt).below (HB5.out.trans hB')))).mono ?_
    rintro e w6 ⟨rfl, hr6⟩
    have HR : Hid (EncR E z (0 + x.hsum x.h.n + x.isum x.i.n + x.gsum x.g.n + x.psum x.p.n + x.dsum (k + 1)) w w6) := EncR.of (EncR.next hz5 HB5.out hr6) (by rw [Ctl.dsum_succ]; omega)
    clear hr6 c4'
    go_wp2
    go_roundw
    case rel => exact ⟨k + 1, by omega, by go_num, HR⟩
    case measure => simp [intOf]; omega
  obtain rfl : k = x.d.n := by omega
  clear hlt hk
  go_wp2
  go_end0
  exact ⟨rfl, EncR.of ⟨z5, hz5, HE5.out, HB5.out⟩ (by rw [Ctl.body]; omega)⟩

end Go.Proofs.Qxb6616574a
