import Derived.Test.Qxb6616574aW3
namespace Go.Proofs.Qxb6616574a
open Go.RowKit


theorem hid_next {z n z1 m z2 : Int} (h1 : Hid (z1 = wrap64 (z + n))) (h2 : Hid (z2 = wrap64 (z1 + m))) : Hid (z2 = wrap64 (z + (n + m))) := by
  have h1 := h1.out
  have h2 := h2.out
  subst h1 h2
  exact wrap_add _ _ _

theorem u64_diff (N z1 z2 : Int) (h2 : z2 = wrap64 (z1 + N)) : IntKind.u64.wrap (IntKind.i64.wrap (z2 - z1)) = N % 18446744073709551616 := by
  subst h2
  rw [IntKind.wrap_u64, wrapEq]
  unfold wrap64
  omega

theorem varintLen_diff (N z1 z2 : Int) (h2 : z2 = wrap64 (z1 + N)) (w : World) :
    Calls Try.prog 29 #[.int .u64 (IntKind.u64.wrap (IntKind.i64.wrap (z2 - z1)))] w fun e w' => e = .returned (.int .i64 (Pl.vl (N % 18446744073709551616))) ∧ w' = w := by
  rw [u64_diff N z1 z2 h2]
  exact varintLen_any _ (by omega) (by omega) w

set_option maxHeartbeats 2000000 in
theorem messageField_any (E : Nat) (z num N : Int) (f : Nat) (recv : Value) (w : World) (hE : EncS E w z) (hn : num = 1 ∨ num = 2 ∨ num = 3 ∨ num = 4 ∨ num = 5 ∨ num = 6)
    (hcf : ∀ args w, (callFunc f args).run Try.prog w = .ok (.enter f args) w)
    (hbody : ∀ x w', EncS E w' x → Below E w w' → Calls Try.prog f #[recv, .pointer (some ⟨E, 0, none⟩)] w' (EncP E x N w')) :
    Calls Try.prog 21 #[.pointer (some ⟨E, 0, none⟩), .int .i64 num, .func (.func f) #[recv] #[]] w (EncP E z (Pl.field N) w) := by
  obtain ⟨z0, hz0, HE0, HB0⟩ : ∃ x, Hid (x = wrap64 (z + 0)) ∧ Hid (EncS E w x) ∧ Hid (Below E w w) := EncR.start hE
  clear hE
  have HN : Hid _ := hn
  have HC : Hid (∀ x w', EncS E w' x → Below E w w' → Calls Try.prog f #[recv, .pointer (some ⟨E, 0, none⟩)] w' (EncP E x N w')) := hbody
  clear hn hbody
  obtain ⟨t, ht⟩ : ∃ t, t = Pl.vl (N % 18446744073709551616) := ⟨_, rfl⟩
  have HT : Hid (Pl.field N = 0 + 1 + N + t) := by show _ = _; rw [ht, Pl.field]; omega
  rw [HT.out]
  go_enter Try.func21, Try.ntmps21
  go_wp2_with fail
  refine (tag_any E z0 num 2 w HE0.out HN.out (.inr rfl)).mono ?_
  rintro e w1 ⟨rfl, hr1⟩
  obtain ⟨z1, hz1, HE1, HB1⟩ : ∃ x, Hid (x = wrap64 (z + _)) ∧ Hid (EncS E w1 x) ∧ Hid (Below E w w1) := EncR.next hz0 HB0.out hr1
  clear hr1
  have q1 := HE1.out.c1
  have q2 := HE1.out.c2
  have HTT : Hid (t = Pl.vl (N % 18446744073709551616)) := ht
  clear ht
  go_wp2_with fail
  refine (HC.out z1 w1 HE1.out HB1.out).mono ?_
  rintro e w2 ⟨rfl, hr⟩
  obtain ⟨z2, hz2, HE2, HB2⟩ : ∃ x, Hid (x = wrap64 (z1 + N)) ∧ Hid (EncS E w2 x) ∧ Hid (Below E w1 w2) := hr
  clear q1 q2 hcf
  have q1 := HE2.out.c1
  have q2 := HE2.out.f1
  have HV : Hid (∀ w, Calls Try.prog 29 #[.int .u64 (IntKind.u64.wrap (IntKind.i64.wrap (z2 - z1)))] w fun e w' => e = .returned (.int .i64 t) ∧ w' = w) := by
    rw [HTT.out]; exact varintLen_diff N z1 z2 hz2.out
  go_wp2_with fail
  go_region_with ((go_at_call 29; refine (HV.out _).mono ?_; rintro e w' ⟨rfl, rfl⟩))
  all_goals go_wp2
  all_goals (refine bodyPost_ret (results_none rfl _ _ _) rfl ?_)
  all_goals (rw [wrapEq]; exact ⟨rfl, EncR.next (n := 0 + 1 + N) (hid_next hz1 hz2) (HB1.out.trans HB2.out) (EncR.set HE2.out).drew⟩)
end Go.Proofs.Qxb6616574a
