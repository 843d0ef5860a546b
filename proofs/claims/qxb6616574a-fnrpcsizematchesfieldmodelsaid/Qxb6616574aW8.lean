import Derived.Test.Qxb6616574aW7
namespace Go.Proofs.Qxb6616574a
open Go.RowKit

/-- A slice of []byte. -/
structure Ids where
  a : Option Addr
  n : Nat
  c : Nat
  f : Nat → Bs
def Ids.val (x : Ids) : Value := .slice x.a x.n x.c
def Ids.In (w : World) (B : Nat) (x : Ids) : Prop := RowAt w B x.a x.n 1 (fun i _ => (x.f i).val) ∧ ∀ i, i < x.n → (x.f i).n ≤ maxLen
def Ids.size (x : Ids) : Int := Pl.sum (fun i => Pl.field (x.f i).n) x.n
theorem Ids.In.below {w w' : World} {B : Nat} {x : Ids} (h : x.In w B) (hb : Below B w w') : x.In w' B := ⟨h.1.below hb, h.2⟩
theorem Ids.In.more {w : World} {B B' : Nat} {x : Ids} (h : x.In w B) (hb : B ≤ B') : x.In w B' := ⟨h.1.more hb, h.2⟩

theorem idsV_any (E : Nat) (z num : Int) (x : Ids) (w : World) (hE : EncS E w z) (hn : num = 1 ∨ num = 2 ∨ num = 3 ∨ num = 4 ∨ num = 5 ∨ num = 6) (hx : x.In w E) :
    Calls Try.prog 43 #[.pointer (some ⟨E, 0, none⟩), .int .i64 num, .slice x.a x.n x.c] w (EncP E z x.size w) :=
  ids_any E z num x.a x.n x.c x.f w hE hn hx.1 hx.2

theorem Pl.ostr_none (s : ByteArray) : Pl.ostr none s = 0 := rfl
theorem Pl.ostr_some (a : Addr) (s : ByteArray) : Pl.ostr (some a) s = Pl.field s.size := rfl

/-- A peer. -/
structure Peer where
  p : Bs
  r : Bs
def Peer.cell (x : Peer) (j : Nat) : Value := if j = 0 then x.p.val else x.r.val
def Peer.Ok (x : Peer) : Prop := x.p.n ≤ maxLen ∧ x.r.n ≤ maxLen
def Peer.body (x : Peer) : Int := Pl.obs x.p + Pl.obs x.r

set_option maxHeartbeats 1000000 in
theorem peerEncode_any (E b o : Nat) (z : Int) (x : Peer) (w : World) (hE : EncS E w z) (hb : b < E)
    (c0 : w.cell? ⟨b, o, none⟩ = some x.p.val) (c1 : w.cell? ⟨b, o + 1, none⟩ = some x.r.val) (hx : x.Ok) :
    Calls Try.prog 44 #[.pointer (some ⟨b, o, none⟩), .pointer (some ⟨E, 0, none⟩)] w (EncP E z x.body w) := by
  obtain ⟨z0, hz0, HE0, HB0⟩ : ∃ x, Hid (x = wrap64 (z + 0)) ∧ Hid (EncS E w x) ∧ Hid (Below E w w) := EncR.start hE
  clear hE
  have HO : Hid (x.p.n ≤ maxLen ∧ x.r.n ≤ maxLen) := hx
  clear hx
  unfold Bs.val at c0 c1
  have hnn := fun (w : World) a n c => run_neq_slice_nil_any (P := Try.prog) w 37 5 a n c 0 0 Try.underlying37
  go_enter Try.func44, Try.ntmps44
  go_wp2_with fail
  · have hq : x.p.a.isSome = true := by assumption
    go_wp2_with fail
    refine (bytesField_any E z0 1 _ _ _ HO.out.1 w HE0.out (by omega)).mono ?_
    rintro e w1 ⟨rfl, hr1⟩
    obtain ⟨z1, hz1, HE1, HB1⟩ : ∃ x, Hid (x = wrap64 (z + _)) ∧ Hid (EncS E w1 x) ∧ Hid (Below E w w1) := EncR.next hz0 HB0.out hr1
    clear hr1
    have c1' := (HB1.out.cell (p := ⟨b, o + 1, none⟩) hb).trans c1
    go_wp2_with fail
    · have hq2 : x.r.a.isSome = true := by assumption
      go_wp2_with fail
      refine (bytesField_any E z1 2 _ _ _ HO.out.2 w1 HE1.out (by omega)).mono ?_
      rintro e w2 ⟨rfl, hr2⟩
      obtain ⟨z2, hz2, HE2, HB2⟩ : ∃ x, Hid (x = wrap64 (z + _)) ∧ Hid (EncS E w2 x) ∧ Hid (Below E w w2) := EncR.next hz1 HB1.out hr2
      clear hr2
      go_wp2
      go_end0
      exact ⟨rfl, EncR.of ⟨z2, hz2, HE2.out, HB2.out⟩ (by rw [Peer.body, Pl.obs_yes hq, Pl.obs_yes hq2] <;> omega)⟩
    · have hq2 : x.r.a.isSome = false := by assumption
      go_wp2
      go_end0
      exact ⟨rfl, EncR.of ⟨z1, hz1, HE1.out, HB1.out⟩ (by rw [Peer.body, Pl.obs_yes hq, Pl.obs_no hq2] <;> omega)⟩
  · have hq : x.p.a.isSome = false := by assumption
    go_wp2_with fail
    refine (bytesField_any E z0 2 _ _ _ HO.out.2 w HE0.out (by omega)).mono ?_
    rintro e w1 ⟨rfl, hr1⟩
    obtain ⟨z1, hz1, HE1, HB1⟩ : ∃ x, Hid (x = wrap64 (z + _)) ∧ Hid (EncS E w1 x) ∧ Hid (Below E w w1) := EncR.next hz0 HB0.out hr1
    clear hr1
    have hq2 : x.r.a.isSome = true := by assumption
    go_wp2
    go_end0
    exact ⟨rfl, EncR.of ⟨z1, hz1, HE1.out, HB1.out⟩ (by rw [Peer.body, Pl.obs_no hq, Pl.obs_yes hq2] <;> omega)⟩
  · have hq : x.p.a.isSome = false := by assumption
    have hq2 : x.r.a.isSome = false := by assumption
    go_wp2
    go_end0
    exact ⟨rfl, EncR.of ⟨z0, hz0, HE0.out, HB0.out⟩ (by rw [Peer.body, Pl.obs_no hq, Pl.obs_no hq2, Int.add_zero])⟩

/-- An IHAVE. -/
structure IH where
  q : Option Addr
  s : ByteArray
  m : Ids
def IH.cell (x : IH) (j : Nat) : Value := if j = 0 then .pointer x.q else x.m.val
def IH.In (w : World) (B : Nat) (x : IH) : Prop := StrIn w B x.q x.s ∧ x.m.In w B
def IH.body (x : IH) : Int := Pl.ostr x.q x.s + x.m.size

set_option maxHeartbeats 1000000 in
theorem ihEncode_any (E b o : Nat) (z : Int) (x : IH) (w : World) (hE : EncS E w z) (hb : b < E)
    (c0 : w.cell? ⟨b, o, none⟩ = some (.pointer x.q)) (c1 : w.cell? ⟨b, o + 1, none⟩ = some x.m.val) (hx : x.In w E) :
    Calls Try.prog 34 #[.pointer (some ⟨b, o, none⟩), .pointer (some ⟨E, 0, none⟩)] w (EncP E z x.body w) := by
  obtain ⟨z0, hz0, HE0, HB0⟩ : ∃ x, Hid (x = wrap64 (z + 0)) ∧ Hid (EncS E w x) ∧ Hid (Below E w w) := EncR.start hE
  clear hE
  obtain ⟨q, s, m⟩ := x
  obtain ⟨hq, hm⟩ := hx
  simp only [Ids.val] at hm hq c0 c1
  have HQ : Hid (StrIn w E q s) := hq
  have HM : Hid (m.In w E) := hm
  clear hm hq
  cases q with
  | none =>
    go_enter Try.func34, Try.ntmps34
    go_wp2_with fail
    refine (idsV_any E z0 2 m w HE0.out (by omega) HM.out).mono ?_
    rintro e w1 ⟨rfl, hr1⟩
    obtain ⟨z1, hz1, HE1, HB1⟩ : ∃ x, Hid (x = wrap64 (z + _)) ∧ Hid (EncS E w1 x) ∧ Hid (Below E w w1) := EncR.next hz0 HB0.out hr1
    clear hr1
    go_wp2
    go_end0
    exact ⟨rfl, EncR.of ⟨z1, hz1, HE1.out, HB1.out⟩ (by rw [IH.body, Pl.ostr_none])⟩
  | some a =>
    have q1 := (HQ.out a rfl).2.1
    go_enter Try.func34, Try.ntmps34
    go_wp2_with fail
    refine (stringField_any E z0 1 s (HQ.out a rfl).2.2 w HE0.out (by omega)).mono ?_
    rintro e w1 ⟨rfl, hr1⟩
    obtain ⟨z1, hz1, HE1, HB1⟩ : ∃ x, Hid (x = wrap64 (z + _)) ∧ Hid (EncS E w1 x) ∧ Hid (Below E w w1) := EncR.next hz0 HB0.out hr1
    clear hr1
    have c1' := (HB1.out.cell (p := ⟨b, o + 1, none⟩) hb).trans c1
    go_wp2_with fail
    refine (idsV_any E z1 2 m w1 HE1.out (by omega) (HM.out.below HB1.out)).mono ?_
    rintro e w2 ⟨rfl, hr2⟩
    obtain ⟨z2, hz2, HE2, HB2⟩ : ∃ x, Hid (x = wrap64 (z + _)) ∧ Hid (EncS E w2 x) ∧ Hid (Below E w w2) := EncR.next hz1 HB1.out hr2
    clear hr2
    go_wp2
    go_end0
    exact ⟨rfl, EncR.of ⟨z2, hz2, HE2.out, HB2.out⟩ (by rw [IH.body, Pl.ostr_some]; simp only [] <;> omega)⟩

set_option maxHeartbeats 1000000 in
theorem iwEncode_any (E b o : Nat) (z : Int) (x : Ids) (w : World) (hE : EncS E w z)
    (c0 : w.cell? ⟨b, o, none⟩ = some x.val) (hx : x.In w E) :
    Calls Try.prog 35 #[.pointer (some ⟨b, o, none⟩), .pointer (some ⟨E, 0, none⟩)] w (EncP E z x.size w) := by
  obtain ⟨z0, hz0, HE0, HB0⟩ : ∃ x, Hid (x = wrap64 (z + 0)) ∧ Hid (EncS E w x) ∧ Hid (Below E w w) := EncR.start hE
  clear hE
  unfold Ids.val at c0
  have HM : Hid (x.In w E) := hx
  clear hx
  go_enter Try.func35, Try.ntmps35
  go_wp2_with fail
  refine (idsV_any E z0 1 x w HE0.out (by omega) HM.out).mono ?_
  rintro e w1 ⟨rfl, hr1⟩
  obtain ⟨z1, hz1, HE1, HB1⟩ : ∃ x, Hid (x = wrap64 (z + _)) ∧ Hid (EncS E w1 x) ∧ Hid (Below E w w1) := EncR.next hz0 HB0.out hr1
  clear hr1
  go_wp2
  go_end0
  exact ⟨rfl, EncR.of ⟨z1, hz1, HE1.out, HB1.out⟩ (by omega)⟩

set_option maxHeartbeats 1000000 in
theorem idEncode_any (E b o : Nat) (z : Int) (x : Ids) (w : World) (hE : EncS E w z)
    (c0 : w.cell? ⟨b, o, none⟩ = some x.val) (hx : x.In w E) :
    Calls Try.prog 38 #[.pointer (some ⟨b, o, none⟩), .pointer (some ⟨E, 0, none⟩)] w (EncP E z x.size w) := by
  obtain ⟨z0, hz0, HE0, HB0⟩ : ∃ x, Hid (x = wrap64 (z + 0)) ∧ Hid (EncS E w x) ∧ Hid (Below E w w) := EncR.start hE
  clear hE
  unfold Ids.val at c0
  have HM : Hid (x.In w E) := hx
  clear hx
  go_enter Try.func38, Try.ntmps38
  go_wp2_with fail
  refine (idsV_any E z0 1 x w HE0.out (by omega) HM.out).mono ?_
  rintro e w1 ⟨rfl, hr1⟩
  obtain ⟨z1, hz1, HE1, HB1⟩ : ∃ x, Hid (x = wrap64 (z + _)) ∧ Hid (EncS E w1 x) ∧ Hid (Below E w w1) := EncR.next hz0 HB0.out hr1
  clear hr1
  go_wp2
  go_end0
  exact ⟨rfl, EncR.of ⟨z1, hz1, HE1.out, HB1.out⟩ (by omega)⟩

/-- A GRAFT. -/
structure Gr where
  q : Option Addr
  s : ByteArray

set_option maxHeartbeats 1000000 in
theorem grEncode_any (E b o : Nat) (z : Int) (x : Gr) (w : World) (hE : EncS E w z)
    (c0 : w.cell? ⟨b, o, none⟩ = some (.pointer x.q)) (hx : StrIn w E x.q x.s) :
    Calls Try.prog 36 #[.pointer (some ⟨b, o, none⟩), .pointer (some ⟨E, 0, none⟩)] w (EncP E z (Pl.ostr x.q x.s) w) := by
  obtain ⟨z0, hz0, HE0, HB0⟩ : ∃ x, Hid (x = wrap64 (z + 0)) ∧ Hid (EncS E w x) ∧ Hid (Below E w w) := EncR.start hE
  clear hE
  obtain ⟨q, s⟩ := x
  simp only [] at hx c0
  have HQ : Hid (StrIn w E q s) := hx
  clear hx
  cases q with
  | none =>
    go_enter Try.func36, Try.ntmps36
    go_wp2
    go_end0
    exact ⟨rfl, EncR.of ⟨z0, hz0, HE0.out, HB0.out⟩ (by rw [Pl.ostr_none])⟩
  | some a =>
    have q1 := (HQ.out a rfl).2.1
    go_enter Try.func36, Try.ntmps36
    go_wp2_with fail
    refine (stringField_any E z0 1 s (HQ.out a rfl).2.2 w HE0.out (by omega)).mono ?_
    rintro e w1 ⟨rfl, hr1⟩
    obtain ⟨z1, hz1, HE1, HB1⟩ : ∃ x, Hid (x = wrap64 (z + _)) ∧ Hid (EncS E w1 x) ∧ Hid (Below E w w1) := EncR.next hz0 HB0.out hr1
    clear hr1
    go_wp2
    go_end0
    exact ⟨rfl, EncR.of ⟨z1, hz1, HE1.out, HB1.out⟩ (by rw [Pl.ostr_some] <;> omega)⟩

end Go.Proofs.Qxb6616574a
