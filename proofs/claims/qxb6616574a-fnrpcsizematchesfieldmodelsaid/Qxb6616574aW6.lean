import Derived.Test.Qxb6616574aW5
import Derived.Deep.DeepCutAuto
namespace Go.Proofs.Qxb6616574a
open Go.RowKit

/-- A *string: nil, or a string of memory below B. -/
def StrIn (w : World) (B : Nat) (q : Option Addr) (s : ByteArray) : Prop := ∀ a, q = some a → a.block < B ∧ w.cell? a = some (.string s) ∧ s.size ≤ maxLen
/-- A *bool. -/
def BoolIn (w : World) (B : Nat) (q : Option Addr) (v : Bool) : Prop := ∀ a, q = some a → a.block < B ∧ w.cell? a = some (.bool v)
/-- A *uint64. -/
def NumIn (w : World) (B : Nat) (q : Option Addr) (v : Int) : Prop := ∀ a, q = some a → a.block < B ∧ w.cell? a = some (.int .u64 v) ∧ 0 ≤ v ∧ v < 18446744073709551616

theorem StrIn.below {w w' : World} {B : Nat} {q : Option Addr} {s : ByteArray} (h : StrIn w B q s) (hb : Below B w w') : StrIn w' B q s :=
  fun a ha => ⟨(h a ha).1, (hb.cell (h a ha).1).trans (h a ha).2.1, (h a ha).2.2⟩
theorem BoolIn.below {w w' : World} {B : Nat} {q : Option Addr} {s : Bool} (h : BoolIn w B q s) (hb : Below B w w') : BoolIn w' B q s :=
  fun a ha => ⟨(h a ha).1, (hb.cell (h a ha).1).trans (h a ha).2⟩
theorem NumIn.below {w w' : World} {B : Nat} {q : Option Addr} {s : Int} (h : NumIn w B q s) (hb : Below B w w') : NumIn w' B q s :=
  fun a ha => ⟨(h a ha).1, (hb.cell (h a ha).1).trans (h a ha).2.1, (h a ha).2.2⟩
theorem StrIn.more {w : World} {B B' : Nat} {q : Option Addr} {s : ByteArray} (h : StrIn w B q s) (hb : B ≤ B') : StrIn w B' q s :=
  fun a ha => ⟨Nat.lt_of_lt_of_le (h a ha).1 hb, (h a ha).2⟩
theorem BoolIn.more {w : World} {B B' : Nat} {q : Option Addr} {s : Bool} (h : BoolIn w B q s) (hb : B ≤ B') : BoolIn w B' q s :=
  fun a ha => ⟨Nat.lt_of_lt_of_le (h a ha).1 hb, (h a ha).2⟩
theorem NumIn.more {w : World} {B B' : Nat} {q : Option Addr} {s : Int} (h : NumIn w B q s) (hb : B ≤ B') : NumIn w B' q s :=
  fun a ha => ⟨Nat.lt_of_lt_of_le (h a ha).1 hb, (h a ha).2⟩

/-- The field of an optional string; of optional bytes. -/
def Pl.ostr (q : Option Addr) (s : ByteArray) : Int := if q.isSome then Pl.field s.size else 0
def Pl.obs (b : Bs) : Int := if b.a.isSome then Pl.field b.n else 0

/-- An element of the subscriptions. -/
structure Sub where
  p : Option Addr
  q : Option Addr
  v : Bool
  s : ByteArray
def Sub.cell (x : Sub) (j : Nat) : Value := if j = 0 then .pointer x.p else .pointer x.q
def Sub.In (w : World) (B : Nat) (x : Sub) : Prop := BoolIn w B x.p x.v ∧ StrIn w B x.q x.s
def Sub.body (x : Sub) : Int := (if x.p.isSome then 2 else 0) + Pl.ostr x.q x.s

set_option maxHeartbeats 1000000 in
theorem subEncode_any (E b o : Nat) (z : Int) (x : Sub) (w : World) (hE : EncS E w z) (hb : b < E)
    (c0 : w.cell? ⟨b, o, none⟩ = some (.pointer x.p)) (c1 : w.cell? ⟨b, o + 1, none⟩ = some (.pointer x.q)) (hx : x.In w E) :
    Calls Try.prog 22 #[.pointer (some ⟨b, o, none⟩), .pointer (some ⟨E, 0, none⟩)] w (EncP E z x.body w) := by
  obtain ⟨z0, hz0, HE0, HB0⟩ : ∃ x, Hid (x = wrap64 (z + 0)) ∧ Hid (EncS E w x) ∧ Hid (Below E w w) := EncR.start hE
  clear hE
  obtain ⟨p, q, v, s⟩ := x
  obtain ⟨hp, hq⟩ := hx
  simp only [] at hp hq c0 c1
  have HQ : Hid (StrIn w E q s) := hq
  have HP : Hid (BoolIn w E p v) := hp
  clear hp hq
  cases p with
  | none =>
    cases q with
    | none =>
      go_enter Try.func22, Try.ntmps22
      go_wp2
      go_end0
      exact ⟨rfl, EncR.of ⟨z0, hz0, HE0.out, HB0.out⟩ (by simp [Sub.body, Pl.ostr])⟩
    | some a =>
      have q1 := (HQ.out a rfl).2.1
      go_enter Try.func22, Try.ntmps22
      go_wp2_with fail
      refine (stringField_any E z0 2 s (HQ.out a rfl).2.2 w HE0.out (by omega)).mono ?_
      rintro e w1 ⟨rfl, hr1⟩
      obtain ⟨z1, hz1, HE1, HB1⟩ : ∃ x, Hid (x = wrap64 (z + _)) ∧ Hid (EncS E w1 x) ∧ Hid (Below E w w1) := EncR.next hz0 HB0.out hr1
      clear hr1
      go_wp2
      go_end0
      exact ⟨rfl, EncR.of ⟨z1, hz1, HE1.out, HB1.out⟩ (by simp [Sub.body, Pl.ostr])⟩
  | some pa =>
    have q0 := (HP.out pa rfl).2
    cases q with
    | none =>
      go_enter Try.func22, Try.ntmps22
      go_wp2_with fail
      refine (boolField_any E z0 1 v w HE0.out (by omega)).mono ?_
      rintro e w1 ⟨rfl, hr1⟩
      obtain ⟨z1, hz1, HE1, HB1⟩ : ∃ x, Hid (x = wrap64 (z + _)) ∧ Hid (EncS E w1 x) ∧ Hid (Below E w w1) := EncR.next hz0 HB0.out hr1
      clear hr1
      have c1' : w1.cell? ⟨b, o + 1, none⟩ = some (.pointer none) := (HB1.out.cell hb).trans c1
      go_wp2
      go_end0
      exact ⟨rfl, EncR.of ⟨z1, hz1, HE1.out, HB1.out⟩ (by simp [Sub.body, Pl.ostr])⟩
    | some a =>
      have q1 := (HQ.out a rfl).2.1
      go_enter Try.func22, Try.ntmps22
      go_wp2_with fail
      refine (boolField_any E z0 1 v w HE0.out (by omega)).mono ?_
      rintro e w1 ⟨rfl, hr1⟩
      obtain ⟨z1, hz1, HE1, HB1⟩ : ∃ x, Hid (x = wrap64 (z + _)) ∧ Hid (EncS E w1 x) ∧ Hid (Below E w w1) := EncR.next hz0 HB0.out hr1
      clear hr1
      have c1' : w1.cell? ⟨b, o + 1, none⟩ = some (.pointer (some a)) := (HB1.out.cell hb).trans c1
      have q1' := (HB1.out.cell (HQ.out a rfl).1).trans q1
      go_wp2_with fail
      refine (stringField_any E z1 2 s (HQ.out a rfl).2.2 w1 HE1.out (by omega)).mono ?_
      rintro e w2 ⟨rfl, hr2⟩
      obtain ⟨z2, hz2, HE2, HB2⟩ : ∃ x, Hid (x = wrap64 (z + _)) ∧ Hid (EncS E w2 x) ∧ Hid (Below E w w2) := EncR.next hz1 HB1.out hr2
      clear hr2
      go_wp2
      go_end0
      exact ⟨rfl, EncR.of ⟨z2, hz2, HE2.out, HB2.out⟩ (by simp [Sub.body, Pl.ostr])⟩

end Go.Proofs.Qxb6616574a
