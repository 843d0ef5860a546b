import Derived.Test.Qxb6616574aW6
import Derived.Deep.DeepCutAuto
namespace Go.Proofs.Qxb6616574a
open Go.RowKit

/-- A message. -/
structure Msg where
  f : Bs
  d : Bs
  q : Bs
  t : ByteArray
  g : Bs
  k : Bs
def Msg.cell (x : Msg) (j : Nat) : Value := if j = 0 then x.f.val else if j = 1 then x.d.val else if j = 2 then x.q.val else if j = 3 then .string x.t else if j = 4 then x.g.val else x.k.val
def Msg.Ok (x : Msg) : Prop := x.f.n ≤ maxLen ∧ x.d.n ≤ maxLen ∧ x.q.n ≤ maxLen ∧ x.t.size ≤ maxLen ∧ x.g.n ≤ maxLen ∧ x.k.n ≤ maxLen
def Msg.body (x : Msg) : Int := Pl.obs x.f + Pl.obs x.d + Pl.obs x.q + Pl.field x.t.size + Pl.obs x.g + Pl.obs x.k

theorem Pl.obs_yes {b : Bs} (h : b.a.isSome = true) : Pl.obs b = Pl.field b.n := by unfold Pl.obs; rw [if_pos h]
theorem Pl.obs_no {b : Bs} (h : b.a.isSome = false) : Pl.obs b = 0 := by unfold Pl.obs; rw [h]; rfl

set_option maxHeartbeats 2000000 in
theorem msgEncode_any (E b o : Nat) (z : Int) (x : Msg) (w : World) (hE : EncS E w z) (hb : b < E)
    (hc : ∀ j, j < 6 → w.cell? ⟨b, o + j, none⟩ = some (x.cell j)) (hx : x.Ok) :
    Calls Try.prog 23 #[.pointer (some ⟨b, o, none⟩), .pointer (some ⟨E, 0, none⟩)] w (EncP E z x.body w) := by
  obtain ⟨z0, hz0, HE0, HB0⟩ : ∃ x, Hid (x = wrap64 (z + 0)) ∧ Hid (EncS E w x) ∧ Hid (Below E w w) := EncR.start hE
  clear hE
  obtain ⟨o0, o1, o2, o3, o4, o5⟩ := hx
  have HO : Hid (x.f.n ≤ maxLen ∧ x.d.n ≤ maxLen ∧ x.q.n ≤ maxLen ∧ x.t.size ≤ maxLen ∧ x.g.n ≤ maxLen ∧ x.k.n ≤ maxLen) := ⟨o0, o1, o2, o3, o4, o5⟩
  clear o0 o1 o2 o3 o4 o5
  have HCel : Hid (∀ w', Below E w w' → ∀ j, j < 6 → w'.cell? ⟨b, o + j, none⟩ = some (x.cell j)) := fun w' hB j hj => (hB.cell hb).trans (hc j hj)
  have hnn := fun (w : World) a n c => run_neq_slice_nil_any (P := Try.prog) w 37 5 a n c 0 0 Try.underlying37
  have c0 : w.cell? ⟨b, o, none⟩ = some (.slice x.f.a x.f.n x.f.c) := hc 0 (by omega)
  clear hc
  go_enter Try.func23, Try.ntmps23
  go_upto_if 8 with fail
  go_cut [] (fun wc => Hid (EncR E z (0 + Pl.obs x.f) w wc))
  case first =>
    go_wp2_with fail
    · have hq : x.f.a.isSome = true := by assumption
      refine (bytesField_any E z0 1 _ _ _ HO.out.1 w HE0.out (by omega)).mono ?_
      rintro e wn ⟨rfl, hr⟩
      have HR : Hid (EncR E z (0 + Pl.obs x.f) w wn) := EncR.of (EncR.next hz0 HB0.out hr) (by rw [Pl.obs_yes hq])
      clear hr
      go_wp2_with fail
      go_meet
      exact HR
    · have hq : x.f.a.isSome = false := by assumption
      go_meet
      exact EncR.of ⟨z0, hz0, HE0.out, HB0.out⟩ (by rw [Pl.obs_no hq, Int.add_zero])
  case rest =>
  obtain ⟨w1, rfl⟩ : ∃ w1, w1 = wc := ⟨_, rfl⟩
  obtain ⟨z1, hz1, HE1, HB1⟩ : ∃ x', Hid (x' = wrap64 (z + (0 + Pl.obs x.f))) ∧ Hid (EncS E w1 x') ∧ Hid (Below E w w1) := hcut
  clear c0
  have c1 : w1.cell? ⟨b, o + 1, none⟩ = some (.slice x.d.a x.d.n x.d.c) := HCel.out w1 HB1.out 1 (by omega)
  go_upto_if 19 with fail
  go_cut [] (fun wc => Hid (EncR E z (0 + Pl.obs x.f + Pl.obs x.d) w wc))
  case first =>
    go_wp2_with fail
    · have hq : x.d.a.isSome = true := by assumption
      refine (bytesField_any E z1 2 _ _ _ HO.out.2.1 w1 HE1.out (by omega)).mono ?_
      rintro e wn ⟨rfl, hr⟩
      have HR : Hid (EncR E z (0 + Pl.obs x.f + Pl.obs x.d) w wn) := EncR.of (EncR.next hz1 HB1.out hr) (by rw [Pl.obs_yes hq])
      clear hr
      go_wp2_with fail
      go_meet
      exact HR
    · have hq : x.d.a.isSome = false := by assumption
      go_meet
      exact EncR.of ⟨z1, hz1, HE1.out, HB1.out⟩ (by rw [Pl.obs_no hq, Int.add_zero])
  case rest =>
  obtain ⟨w2, rfl⟩ : ∃ w2, w2 = wc := ⟨_, rfl⟩
  obtain ⟨z2, hz2, HE2, HB2⟩ : ∃ x', Hid (x' = wrap64 (z + (0 + Pl.obs x.f + Pl.obs x.d))) ∧ Hid (EncS E w2 x') ∧ Hid (Below E w w2) := hcut
  clear c1
  have c2 : w2.cell? ⟨b, o + 2, none⟩ = some (.slice x.q.a x.q.n x.q.c) := HCel.out w2 HB2.out 2 (by omega)
  go_upto_if 30 with fail
  go_cut [] (fun wc => Hid (EncR E z (0 + Pl.obs x.f + Pl.obs x.d + Pl.obs x.q) w wc))
  case first =>
    go_wp2_with fail
    · have hq : x.q.a.isSome = true := by assumption
      refine (bytesField_any E z2 3 _ _ _ HO.out.2.2.1 w2 HE2.out (by omega)).mono ?_
      rintro e wn ⟨rfl, hr⟩
      have HR : Hid (EncR E z (0 + Pl.obs x.f + Pl.obs x.d + Pl.obs x.q) w wn) := EncR.of (EncR.next hz2 HB2.out hr) (by rw [Pl.obs_yes hq])
      clear hr
      go_wp2_with fail
      go_meet
      exact HR
    · have hq : x.q.a.isSome = false := by assumption
      go_meet
      exact EncR.of ⟨z2, hz2, HE2.out, HB2.out⟩ (by rw [Pl.obs_no hq, Int.add_zero])
  case rest =>
  obtain ⟨w3, rfl⟩ : ∃ w3, w3 = wc := ⟨_, rfl⟩
  obtain ⟨z3, hz3, HE3, HB3⟩ : ∃ x', Hid (x' = wrap64 (z + (0 + Pl.obs x.f + Pl.obs x.d + Pl.obs x.q))) ∧ Hid (EncS E w3 x') ∧ Hid (Below E w w3) := hcut
  clear c2
  have c3 : w3.cell? ⟨b, o + 3, none⟩ = some (.string x.t) := HCel.out w3 HB3.out 3 (by omega)
  go_wp2_with fail
  refine (stringField_any E z3 4 x.t HO.out.2.2.2.1 w3 HE3.out (by omega)).mono ?_
  rintro e w4 ⟨rfl, hr4⟩
  obtain ⟨z4, hz4, HE4, HB4⟩ : ∃ x, Hid (x = wrap64 (z + _)) ∧ Hid (EncS E w4 x) ∧ Hid (Below E w w4) := EncR.next hz3 HB3.out hr4
  clear hr4
  clear c3
  have c4 : w4.cell? ⟨b, o + 4, none⟩ = some (.slice x.g.a x.g.n x.g.c) := HCel.out w4 HB4.out 4 (by omega)
  go_upto_if 47 with fail
  go_cut [] (fun wc => Hid (EncR E z (0 + Pl.obs x.f + Pl.obs x.d + Pl.obs x.q + Pl.field x.t.size + Pl.obs x.g) w wc))
  case first =>
    go_wp2_with fail
    · have hq : x.g.a.isSome = true := by assumption
      refine (bytesField_any E z4 5 _ _ _ HO.out.2.2.2.2.1 w4 HE4.out (by omega)).mono ?_
      rintro e wn ⟨rfl, hr⟩
      have HR : Hid (EncR E z (0 + Pl.obs x.f + Pl.obs x.d + Pl.obs x.q + Pl.field x.t.size + Pl.obs x.g) w wn) := EncR.of (EncR.next hz4 HB4.out hr) (by rw [Pl.obs_yes hq])
      clear hr
      go_wp2_with fail
      go_meet
      exact HR
    · have hq : x.g.a.isSome = false := by assumption
      go_meet
      exact EncR.of ⟨z4, hz4, HE4.out, HB4.out⟩ (by rw [Pl.obs_no hq, Int.add_zero])
  case rest =>
  obtain ⟨w5, rfl⟩ : ∃ w5, w5 = wc := ⟨_, rfl⟩
  obtain ⟨z5, hz5, HE5, HB5⟩ : ∃ x', Hid (x' = wrap64 (z + (0 + Pl.obs x.f + Pl.obs x.d + Pl.obs x.q + Pl.field x.t.size + Pl.obs x.g))) ∧ Hid (EncS E w5 x') ∧ Hid (Below E w w5) := hcut
  clear c4
  have c5 : w5.cell? ⟨b, o + 5, none⟩ = some (.slice x.k.a x.k.n x.k.c) := HCel.out w5 HB5.out 5 (by omega)
  go_wp2_with fail
  · have hq : x.k.a.isSome = true := by assumption
    refine (bytesField_any E z5 6 _ _ _ HO.out.2.2.2.2.2 w5 HE5.out (by omega)).mono ?_
    rintro e w6 ⟨rfl, hr6⟩
    obtain ⟨z6, hz6, HE6, HB6⟩ : ∃ x, Hid (x = wrap64 (z + _)) ∧ Hid (EncS E w6 x) ∧ Hid (Below E w w6) := EncR.next hz5 HB5.out hr6
    clear hr6
    go_wp2
    go_end0
    exact ⟨rfl, EncR.of ⟨z6, hz6, HE6.out, HB6.out⟩ (by rw [Msg.body, Pl.obs_yes hq]; omega)⟩
  · have hq : x.k.a.isSome = false := by assumption
    go_wp2
    go_end0
    exact ⟨rfl, EncR.of ⟨z5, hz5, HE5.out, HB5.out⟩ (by rw [Msg.body, Pl.obs_no hq]; omega)⟩

end Go.Proofs.Qxb6616574a
