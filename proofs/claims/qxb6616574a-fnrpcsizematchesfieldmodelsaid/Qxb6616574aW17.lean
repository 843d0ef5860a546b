import Derived.Test.Qxb6616574aW11
namespace Go.Proofs.Qxb6616574a
open Go.RowKit

set_option maxHeartbeats 1000000 in
theorem varLen_any (v : Int) (_h0 : 0 ≤ v) (_h1 : v < 18446744073709551616) (w : World) :
    Calls Try.prog 25 #[.int .u64 v] w fun e w' => e = .returned (.int .i64 (Pl.vl v)) ∧ w' = w := by
  obtain ⟨t, ht⟩ : ∃ t, t = Pl.vl v := ⟨_, rfl⟩
  have HT : Hid (t = Pl.vl v) := ht
  rw [← ht]
  clear ht
  go_enter Try.func25, Try.ntmps25
  go_wp2
  all_goals go_ret
  · exact ⟨ret_int (by rw [HT.out, Pl.vl1 v (by omega)]), rfl⟩
  · exact ⟨ret_int (by rw [HT.out, Pl.vl2 v (by omega) (by omega)]), rfl⟩
  · exact ⟨ret_int (by rw [HT.out, Pl.vl3 v (by omega) (by omega)]), rfl⟩
  · exact ⟨ret_int (by rw [HT.out, Pl.vl4 v (by omega) (by omega)]), rfl⟩
  · exact ⟨ret_int (by rw [HT.out, Pl.vl5 v (by omega) (by omega)]), rfl⟩
  · exact ⟨ret_int (by rw [HT.out, Pl.vl6 v (by omega) (by omega)]), rfl⟩
  · exact ⟨ret_int (by rw [HT.out, Pl.vl7 v (by omega) (by omega)]), rfl⟩
  · exact ⟨ret_int (by rw [HT.out, Pl.vl8 v (by omega) (by omega)]), rfl⟩
  · exact ⟨ret_int (by rw [HT.out, Pl.vl9 v (by omega) (by omega)]), rfl⟩
  · exact ⟨ret_int (by rw [HT.out, Pl.vl10 v (by omega)]), rfl⟩

/-- A number as an int holds it; a name that the walk does not open. -/
def Pl.w (n : Int) : Int := wrap64 n
theorem Pl.w_add (a b : Int) : wrap64 (Pl.w a + Pl.w b) = Pl.w (a + b) := by unfold Pl.w wrap64; omega
theorem Pl.w_add_num (a b : Int) : wrap64 (Pl.w a + b) = Pl.w (a + b) := by unfold Pl.w wrap64; omega
theorem Pl.w_nat (n : Nat) (h : n ≤ 2 ^ 63 - 1) : (n : Int) = Pl.w n := by unfold Pl.w wrap64; omega
theorem Pl.w_zero : (0 : Int) = Pl.w 0 := by unfold Pl.w wrap64; omega
theorem Pl.w_u64 (a : Int) : IntKind.u64.wrap (Pl.w a) = a % 18446744073709551616 := by rw [IntKind.wrap_u64]; unfold Pl.w wrap64; omega
theorem Pl.w_field (N t : Int) (ht : t = Pl.vl (N % 18446744073709551616)) : wrap64 (wrap64 (1 + t) + Pl.w N) = Pl.w (Pl.field N) := by
  subst ht; unfold Pl.field Pl.w wrap64; omega

set_option maxHeartbeats 1000000 in
theorem field_any (x N : Int) (hx : x = Pl.w N) (w : World) :
    Calls Try.prog 17 #[.int .i64 x] w fun e w' => e = .returned (.int .i64 (Pl.w (Pl.field N))) ∧ w' = w := by
  subst hx
  obtain ⟨t, ht⟩ : ∃ t, t = Pl.vl (N % 18446744073709551616) := ⟨_, rfl⟩
  have HF : Hid (wrap64 (wrap64 (1 + t) + Pl.w N) = Pl.w (Pl.field N)) := Pl.w_field N t ht
  have HV : Hid (∀ w, Calls Try.prog 25 #[.int .u64 (IntKind.u64.wrap (Pl.w N))] w fun e w' => e = .returned (.int .i64 t) ∧ w' = w) := by
    rw [Pl.w_u64, ht]; exact varLen_any _ (by omega) (by omega)
  clear ht
  go_enter Try.func17, Try.ntmps17
  go_wp2_with fail
  refine (HV.out _).mono ?_
  rintro e w' ⟨rfl, rfl⟩
  go_wp2
  go_ret
  exact ⟨ret_int HF.out, rfl⟩

set_option maxHeartbeats 1000000 in
theorem optBytes_any (b : Bs) (hb : b.n ≤ maxLen) (w : World) :
    Calls Try.prog 26 #[.slice b.a b.n b.c] w fun e w' => e = .returned (.int .i64 (Pl.w (Pl.obs b))) ∧ w' = w := by
  unfold maxLen at hb
  have hnn := fun (w : World) a n c => Lib.run_eql_slice_nil (P := Try.prog) w 37 5 a n c 0 0 Try.underlying37
  cases hq : b.a with
  | none =>
    have HO : Hid (Pl.w 0 = Pl.w (Pl.obs b)) := by show _ = _; rw [Pl.obs_no (by rw [hq]; rfl)]
    clear hq
    go_enter Try.func26, Try.ntmps26
    go_wp2_with fail
    go_ret
    exact ⟨ret_int (Pl.w_zero.trans HO.out), rfl⟩
  | some a =>
    have HO : Hid (Pl.w (Pl.field b.n) = Pl.w (Pl.obs b)) := by show _ = _; rw [Pl.obs_yes (by rw [hq]; rfl)]
    clear hq
    go_enter Try.func26, Try.ntmps26
    go_wp2_with fail
    refine (field_any b.n b.n (Pl.w_nat _ hb) _).mono ?_
    rintro e w' ⟨rfl, rfl⟩
    go_wp2
    go_ret
    exact ⟨ret_int HO.out, rfl⟩

set_option maxHeartbeats 1000000 in
theorem optStr_any (q : Option Addr) (s : ByteArray) (B : Nat) (w : World) (hq : StrIn w B q s) :
    Calls Try.prog 20 #[.pointer q] w fun e w' => e = .returned (.int .i64 (Pl.w (Pl.ostr q s))) ∧ w' = w := by
  cases q with
  | none =>
    have HO : Hid (Pl.w 0 = Pl.w (Pl.ostr none s)) := rfl
    clear hq
    go_enter Try.func20, Try.ntmps20
    go_wp2_with fail
    go_ret
    exact ⟨ret_int (Pl.w_zero.trans HO.out), rfl⟩
  | some a =>
    have HO : Hid (Pl.w (Pl.field s.size) = Pl.w (Pl.ostr (some a) s)) := rfl
    obtain ⟨_, h1, h2⟩ := hq a rfl
    unfold maxLen at h2
    go_enter Try.func20, Try.ntmps20
    go_wp2_with fail
    refine (field_any s.size s.size (Pl.w_nat _ h2) _).mono ?_
    rintro e w' ⟨rfl, rfl⟩
    go_wp2
    go_ret
    exact ⟨ret_int HO.out, rfl⟩

set_option maxHeartbeats 1000000 in
theorem idsLen_any (x : Ids) (B : Nat) (w : World) (hx : x.In w B) :
    Calls Try.prog 27 #[.slice x.a x.n x.c] w fun e w' => e = .returned (.int .i64 (Pl.w x.size)) ∧ w' = w := by
  obtain ⟨a, n, c, f⟩ := x
  obtain ⟨⟨hm, hr⟩, hs⟩ := hx
  simp only [] at hm hr hs
  unfold maxLen at hm
  have HS : Hid (∀ i, i < n → (f i).n ≤ maxLen) := hs
  clear hs
  obtain ⟨S, hS⟩ : ∃ S, S = Pl.sum (fun i => Pl.field (f i).n) := ⟨_, rfl⟩
  have HS0 : Hid (S 0 = 0) := by rw [hS]; rfl
  have HSS : Hid (∀ k, S (k + 1) = S k + Pl.field (f k).n) := by rw [hS]; exact fun _ => rfl
  have HSZ : Hid (S n = Ids.size ⟨a, n, c, f⟩) := by rw [hS]; rfl
  clear hS
  rw [← HSZ.out]
  clear HSZ
  by_cases h0 : 0 < n
  · obtain ⟨b, off, rfl, hb, hc⟩ := hr h0
    have HCel : Hid (∀ i, i < n → w.cell? ⟨b, off + i, none⟩ = some (.slice (f i).a (f i).n (f i).c)) := fun i hi => by simpa [Bs.val] using hc i 0 hi (by omega)
    clear hr hc
    go_enter Try.func27, Try.ntmps27
    go_wp2_with fail
    go_loop [3, 4, 7] (fun s _ i => ∃ k : Nat, k ≤ n ∧ i = .int .i64 k ∧ s = .int .i64 (Pl.w (S k))) (fun _ _ i => n - (intOf i).toNat)
    case atStart => exact ⟨0, Nat.zero_le _, rfl, by rw [HS0.out, ← Pl.w_zero]⟩
    case round =>
    obtain ⟨k, hk, rfl, rfl⟩ := hrel
    by_cases hlt : k < n
    case pos =>
      have hcell := HCel.out k hlt
      have hfn := HS.out k hlt
      unfold maxLen at hfn
      go_wp2_with fail
      refine (field_any (f k).n (f k).n (Pl.w_nat _ hfn) _).mono ?_
      rintro e w' ⟨rfl, rfl⟩
      go_wp2
      refine ⟨⟨k + 1, by omega, by go_num, ?_⟩, by simp [intOf]; omega⟩
      rw [Pl.w_add, HSS.out]
    obtain rfl : n = k := by omega
    go_wp2
    go_ret
    exact ⟨rfl, rfl⟩
  · obtain rfl : n = 0 := by omega
    clear hr
    have HZ : Hid (0 = Pl.w (S 0)) := by show _ = _; rw [HS0.out]; exact Pl.w_zero
    go_enter Try.func27, Try.ntmps27
    go_wp2_with fail
    refine wp_loop_rounds 1 ?_
    rw [rounds_succ]
    go_wp2
    go_ret
    exact ⟨ret_int HZ.out, rfl⟩

set_option maxHeartbeats 2000000 in
theorem msgBody_any (b o : Nat) (x : Msg) (w : World) (hc : ∀ j, j < 6 → w.cell? ⟨b, o + j, none⟩ = some (x.cell j)) (hx : x.Ok) :
    Calls Try.prog 18 #[.pointer (some ⟨b, o, none⟩)] w fun e w' => e = .returned (.int .i64 (Pl.w x.body)) ∧ ∃ n, w' = w.drewN n := by
  obtain ⟨o0, o1, o2, o3, o4, o5⟩ := hx
  have f0 : Hid (∀ w, Calls Try.prog 26 #[.slice x.f.a x.f.n x.f.c] w fun e w' => e = .returned (.int .i64 (Pl.w (Pl.obs x.f))) ∧ w' = w) := optBytes_any x.f o0
  have f1 : Hid (∀ w, Calls Try.prog 26 #[.slice x.d.a x.d.n x.d.c] w fun e w' => e = .returned (.int .i64 (Pl.w (Pl.obs x.d))) ∧ w' = w) := optBytes_any x.d o1
  have f2 : Hid (∀ w, Calls Try.prog 26 #[.slice x.q.a x.q.n x.q.c] w fun e w' => e = .returned (.int .i64 (Pl.w (Pl.obs x.q))) ∧ w' = w) := optBytes_any x.q o2
  have f3 : Hid (∀ w, Calls Try.prog 17 #[.int .i64 (x.t.size : Int)] w fun e w' => e = .returned (.int .i64 (Pl.w (Pl.field x.t.size))) ∧ w' = w) := field_any _ _ (Pl.w_nat _ (by unfold maxLen at o3; exact o3))
  have f4 : Hid (∀ w, Calls Try.prog 26 #[.slice x.g.a x.g.n x.g.c] w fun e w' => e = .returned (.int .i64 (Pl.w (Pl.obs x.g))) ∧ w' = w) := optBytes_any x.g o4
  have f5 : Hid (∀ w, Calls Try.prog 26 #[.slice x.k.a x.k.n x.k.c] w fun e w' => e = .returned (.int .i64 (Pl.w (Pl.obs x.k))) ∧ w' = w) := optBytes_any x.k o5
  have c0 : w.cell? ⟨b, o, none⟩ = some (.slice x.f.a x.f.n x.f.c) := hc 0 (by omega)
  have c1 : w.cell? ⟨b, o + 1, none⟩ = some (.slice x.d.a x.d.n x.d.c) := hc 1 (by omega)
  have c2 : w.cell? ⟨b, o + 2, none⟩ = some (.slice x.q.a x.q.n x.q.c) := hc 2 (by omega)
  have c3 : w.cell? ⟨b, o + 3, none⟩ = some (.string x.t) := hc 3 (by omega)
  have c4 : w.cell? ⟨b, o + 4, none⟩ = some (.slice x.g.a x.g.n x.g.c) := hc 4 (by omega)
  have c5 : w.cell? ⟨b, o + 5, none⟩ = some (.slice x.k.a x.k.n x.k.c) := hc 5 (by omega)
  clear hc o0 o1 o2 o3 o4 o5
  go_enter Try.func18, Try.ntmps18
  go_wp2
  go_quiet (first
    | (go_at_call_of 26 (x.f.n); exact Calls.quiet_of_same (f0.out _))
    | (go_at_call_of 26 (x.d.n); exact Calls.quiet_of_same (f1.out _))
    | (go_at_call_of 26 (x.q.n); exact Calls.quiet_of_same (f2.out _))
    | (go_at_call_of 26 (x.g.n); exact Calls.quiet_of_same (f4.out _))
    | (go_at_call_of 26 (x.k.n); exact Calls.quiet_of_same (f5.out _))
    | (go_at_call 17; exact Calls.quiet_of_same (f3.out _)))
  go_wp2
  go_ret
  exact ⟨ret_int (by simp only [Pl.w_add]; rfl), _, rfl⟩
end Go.Proofs.Qxb6616574a
