import Derived.Test.Qxb6616574aW2
namespace Go.Proofs.Qxb6616574a
open Go.RowKit


set_option maxHeartbeats 400000 in
theorem tag_any (E : Nat) (z num typ : Int) (w : World) (hE : EncS E w z) (hn : num = 1 ∨ num = 2 ∨ num = 3 ∨ num = 4 ∨ num = 5 ∨ num = 6) (ht : typ = 0 ∨ typ = 2) :
    Calls Try.prog 28 #[.pointer (some ⟨E, 0, none⟩), .int .i64 num, .int .i64 typ] w (EncP E z 1 w) := by
  obtain ⟨z0, hz0, HE0, HB0⟩ : ∃ x, Hid (x = wrap64 (z + 0)) ∧ Hid (EncS E w x) ∧ Hid (Below E w w) := EncR.start hE
  clear hE
  rcases ht with rfl | rfl
  all_goals
    rcases hn with rfl | rfl | rfl | rfl | rfl | rfl
    all_goals
      go_enter Try.func28, Try.ntmps28
      go_wp2_with fail
      refine (uvarint_any E z0 _ w (by decide) (by decide) HE0.out).mono ?_
      rintro e w1 ⟨rfl, hr1⟩
      obtain ⟨z1, hz1, HE1, HB1⟩ : ∃ x, Hid (x = wrap64 (z + _)) ∧ Hid (EncS E w1 x) ∧ Hid (Below E w w1) := EncR.next hz0 HB0.out hr1
      clear hr1
      go_wp2
      go_end0
      exact ⟨rfl, EncR.of ⟨z1, hz1, HE1.out, HB1.out⟩ (by decide)⟩


set_option maxHeartbeats 400000 in
theorem varintField_any (E : Nat) (z num v : Int) (w : World) (hE : EncS E w z) (hn : num = 1 ∨ num = 2 ∨ num = 3 ∨ num = 4 ∨ num = 5 ∨ num = 6) (h0 : 0 ≤ v) (hv : v < 18446744073709551616) :
    Calls Try.prog 40 #[.pointer (some ⟨E, 0, none⟩), .int .i64 num, .int .u64 v] w (EncP E z (1 + Pl.vl v) w) := by
  obtain ⟨z0, hz0, HE0, HB0⟩ : ∃ x, Hid (x = wrap64 (z + 0)) ∧ Hid (EncS E w x) ∧ Hid (Below E w w) := EncR.start hE
  clear hE
  have HN : Hid _ := hn
  clear hn
  go_enter Try.func40, Try.ntmps40
  go_wp2_with fail
  refine (tag_any E z0 num 0 w HE0.out HN.out (.inl rfl)).mono ?_
  rintro e w1 ⟨rfl, hr1⟩
  obtain ⟨z1, hz1, HE1, HB1⟩ : ∃ x, Hid (x = wrap64 (z + _)) ∧ Hid (EncS E w1 x) ∧ Hid (Below E w w1) := EncR.next hz0 HB0.out hr1
  clear hr1
  go_wp2_with fail
  refine (uvarint_any E z1 v w1 h0 hv HE1.out).mono ?_
  rintro e w2 ⟨rfl, hr2⟩
  obtain ⟨z2, hz2, HE2, HB2⟩ : ∃ x, Hid (x = wrap64 (z + _)) ∧ Hid (EncS E w2 x) ∧ Hid (Below E w w2) := EncR.next hz1 HB1.out hr2
  clear hr2
  go_wp2
  go_end0
  exact ⟨rfl, EncR.of ⟨z2, hz2, HE2.out, HB2.out⟩ (by omega)⟩

set_option maxHeartbeats 400000 in
theorem boolField_any (E : Nat) (z num : Int) (b : Bool) (w : World) (hE : EncS E w z) (hn : num = 1 ∨ num = 2 ∨ num = 3 ∨ num = 4 ∨ num = 5 ∨ num = 6) :
    Calls Try.prog 31 #[.pointer (some ⟨E, 0, none⟩), .int .i64 num, .bool b] w (EncP E z 2 w) := by
  obtain ⟨z0, hz0, HE0, HB0⟩ : ∃ x, Hid (x = wrap64 (z + 0)) ∧ Hid (EncS E w x) ∧ Hid (Below E w w) := EncR.start hE
  clear hE
  have HN : Hid _ := hn
  clear hn
  cases b
  all_goals
    go_enter Try.func31, Try.ntmps31
    go_wp2_with fail
    refine (varintField_any E z0 num _ w HE0.out HN.out (by decide) (by decide)).mono ?_
    rintro e w1 ⟨rfl, hr1⟩
    obtain ⟨z1, hz1, HE1, HB1⟩ : ∃ x, Hid (x = wrap64 (z + _)) ∧ Hid (EncS E w1 x) ∧ Hid (Below E w w1) := EncR.next hz0 HB0.out hr1
    clear hr1
    go_wp2
    go_end0
    exact ⟨rfl, EncR.of ⟨z1, hz1, HE1.out, HB1.out⟩ (by decide)⟩

/-- A length-delimited field. -/
def Pl.field (n : Int) : Int := 1 + Pl.vl (n % 18446744073709551616) + n

theorem Pl.field_nat (n : Nat) (h : n ≤ 2 ^ 63 - 1) : Pl.field n = 0 + 1 + Pl.vl n + n := by
  unfold Pl.field
  rw [Int.emod_eq_of_lt (by omega) (by omega)]
  omega

set_option maxHeartbeats 400000 in
theorem stringField_any (E : Nat) (z num : Int) (s : ByteArray) (hs : s.size ≤ maxLen) (w : World) (hE : EncS E w z) (hn : num = 1 ∨ num = 2 ∨ num = 3 ∨ num = 4 ∨ num = 5 ∨ num = 6) :
    Calls Try.prog 32 #[.pointer (some ⟨E, 0, none⟩), .int .i64 num, .string s] w (EncP E z (Pl.field s.size) w) := by
  obtain ⟨z0, hz0, HE0, HB0⟩ : ∃ x, Hid (x = wrap64 (z + 0)) ∧ Hid (EncS E w x) ∧ Hid (Below E w w) := EncR.start hE
  clear hE
  have HN : Hid _ := hn
  clear hn
  unfold maxLen at hs
  rw [Pl.field_nat _ hs]
  go_enter Try.func32, Try.ntmps32
  go_wp2_with fail
  refine (tag_any E z0 num 2 w HE0.out HN.out (.inr rfl)).mono ?_
  rintro e w1 ⟨rfl, hr1⟩
  obtain ⟨z1, hz1, HE1, HB1⟩ : ∃ x, Hid (x = wrap64 (z + _)) ∧ Hid (EncS E w1 x) ∧ Hid (Below E w w1) := EncR.next hz0 HB0.out hr1
  clear hr1
  go_wp2_with fail
  refine (uvarint_any E z1 s.size w1 (by omega) (by omega) HE1.out).mono ?_
  rintro e w2 ⟨rfl, hr2⟩
  obtain ⟨z2, hz2, HE2, HB2⟩ : ∃ x, Hid (x = wrap64 (z + _)) ∧ Hid (EncS E w2 x) ∧ Hid (Below E w w2) := EncR.next hz1 HB1.out hr2
  clear hr2
  go_wp2_with fail
  refine (rawString_any E z2 s w2 HE2.out).mono ?_
  rintro e w3 ⟨rfl, hr3⟩
  obtain ⟨z3, hz3, HE3, HB3⟩ : ∃ x, Hid (x = wrap64 (z + _)) ∧ Hid (EncS E w3 x) ∧ Hid (Below E w w3) := EncR.next hz2 HB2.out hr3
  clear hr3
  go_wp2
  go_end0
  exact ⟨rfl, EncR.of ⟨z3, hz3, HE3.out, HB3.out⟩ (rfl)⟩

set_option maxHeartbeats 400000 in
theorem bytesField_any (E : Nat) (z num : Int) (a : Option Addr) (n c : Nat) (hs : n ≤ maxLen) (w : World) (hE : EncS E w z) (hn : num = 1 ∨ num = 2 ∨ num = 3 ∨ num = 4 ∨ num = 5 ∨ num = 6) :
    Calls Try.prog 33 #[.pointer (some ⟨E, 0, none⟩), .int .i64 num, .slice a n c] w (EncP E z (Pl.field n) w) := by
  obtain ⟨z0, hz0, HE0, HB0⟩ : ∃ x, Hid (x = wrap64 (z + 0)) ∧ Hid (EncS E w x) ∧ Hid (Below E w w) := EncR.start hE
  clear hE
  have HN : Hid _ := hn
  clear hn
  unfold maxLen at hs
  rw [Pl.field_nat _ hs]
  go_enter Try.func33, Try.ntmps33
  go_wp2_with fail
  refine (tag_any E z0 num 2 w HE0.out HN.out (.inr rfl)).mono ?_
  rintro e w1 ⟨rfl, hr1⟩
  obtain ⟨z1, hz1, HE1, HB1⟩ : ∃ x, Hid (x = wrap64 (z + _)) ∧ Hid (EncS E w1 x) ∧ Hid (Below E w w1) := EncR.next hz0 HB0.out hr1
  clear hr1
  go_wp2_with fail
  refine (uvarint_any E z1 n w1 (by omega) (by omega) HE1.out).mono ?_
  rintro e w2 ⟨rfl, hr2⟩
  obtain ⟨z2, hz2, HE2, HB2⟩ : ∃ x, Hid (x = wrap64 (z + _)) ∧ Hid (EncS E w2 x) ∧ Hid (Below E w w2) := EncR.next hz1 HB1.out hr2
  clear hr2
  go_wp2_with fail
  refine (raw_any E z2 a n c w2 HE2.out).mono ?_
  rintro e w3 ⟨rfl, hr3⟩
  obtain ⟨z3, hz3, HE3, HB3⟩ : ∃ x, Hid (x = wrap64 (z + _)) ∧ Hid (EncS E w3 x) ∧ Hid (Below E w w3) := EncR.next hz2 HB2.out hr3
  clear hr3
  go_wp2
  go_end0
  exact ⟨rfl, EncR.of ⟨z3, hz3, HE3.out, HB3.out⟩ (rfl)⟩

end Go.Proofs.Qxb6616574a
