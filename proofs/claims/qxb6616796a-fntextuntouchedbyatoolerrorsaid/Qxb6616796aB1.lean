import Derived.Test.Qxb6616796aB0
namespace Go.Proofs.Qxb6616796a
open Go.RowKit

/-- What partsBytes answers: where it is small, every length is. -/
def PbP (t : Int) (x : Pts) (w : World) (e : Ending) (w' : World) : Prop :=
  ∃ r : Int, e = .returned (.int .i64 r) ∧ w = w' ∧ 0 ≤ r ∧ r ≤ 1048577 ∧ Hid (r ≤ 1048576 → t ≤ 1048576 ∧ x.Small)

def PbR (t : Int) (f : Nat → Pt) (k : Nat) (r : Int) : Prop := 0 ≤ r ∧ r ≤ 1048577 ∧ (r ≤ 1048576 → t ≤ 1048576 ∧ ∀ i, i < k → (f i).Small)

set_option maxRecDepth 100000 in
set_option maxHeartbeats 4000000 in
theorem partsBytes_any (t : Int) (x : Pts) (w : World) (h0 : 0 ≤ t) (h1 : t ≤ 1048577) (hx : x.In w w.heap.size) : Calls Try.prog 7 #[.int .i64 t, .slice x.a x.n x.c] w (PbP t x w) := by
  obtain ⟨a, n, c, f⟩ := x
  obtain ⟨⟨hm, hr⟩, hel⟩ := hx
  unfold maxLen at hm
  dsimp only at hm hr hel
  have HEL : Hid (∀ i, i < n → (f i).In w w.heap.size) := hel
  clear hel
  by_cases hn : 0 < n
  case neg =>
    obtain rfl : n = 0 := by omega
    clear hr HEL
    go_enter Try.func7, Try.ntmps7
    go_wp2_with fail
    refine wp_loop_rounds 1 ?_
    rw [rounds_succ]
    go_wp2_with fail
    go_ret
    exact ⟨_, rfl, rfl, h0, h1, fun h => ⟨h, fun i hi => absurd hi (by simp)⟩⟩
  obtain ⟨b, off, rfl, hb, hc⟩ := hr hn
  have HC : Hid _ := hc
  clear hr hc
  have HST : Hid (PbR t f 0 t) := ⟨h0, h1, fun h => ⟨h, fun i hi => absurd hi (by omega)⟩⟩
  go_enter Try.func7, Try.ntmps7
  go_wp2_with fail
  go_loopw [0, 5] (fun v i wr => ∃ (k : Nat) (r : Int), k ≤ n ∧ v = .int .i64 r ∧ i = .int .i64 k ∧ w = wr ∧ Hid (PbR t f k r)) (fun _ i _ => n - (intOf i).toNat)
  case atStart => exact ⟨0, t, Nat.zero_le _, rfl, rfl, rfl, HST⟩
  case round =>
  obtain ⟨k, r, hk, rfl, rfl, rfl, HR⟩ := hrel
  clear HST h0 h1
  have p0 := HR.out.1
  have u0 := HR.out.2.1
  by_cases hlt : k < n
  case neg =>
    obtain rfl : n = k := by omega
    clear hlt hk
    go_wp2_with fail
    go_ret
    exact ⟨_, rfl, rfl, p0, u0, HR.out.2.2⟩
  have hin := HEL.out k hlt
  obtain ⟨z0, z1, z2, z3, z4, z7, i5, i6, hap⟩ := hin
  have z5 := i5.row.1
  have z6 := i6.row.1
  have HAP : Hid _ := hap
  clear i5 i6 hap
  unfold maxLen at z0 z1 z2 z3 z4 z5 z6 z7
  have y0 : w.cell? ⟨b, off + k * 9, none⟩ = some (.string (f k).ty) := HC.out k 0 hlt (by omega)
  have y1 : w.cell? ⟨b, off + k * 9 + 1, none⟩ = some (.string (f k).tx) := HC.out k 1 hlt (by omega)
  have y2 : w.cell? ⟨b, off + k * 9 + 2, none⟩ = some (.string (f k).st) := HC.out k 2 hlt (by omega)
  have y3 : w.cell? ⟨b, off + k * 9 + 3, none⟩ = some (.string (f k).tn) := HC.out k 3 hlt (by omega)
  have y4 : w.cell? ⟨b, off + k * 9 + 4, none⟩ = some (.string (f k).tc) := HC.out k 4 hlt (by omega)
  have y5 : w.cell? ⟨b, off + k * 9 + 5, none⟩ = some (.slice (f k).inp.a (f k).inp.n (f k).inp.c) := HC.out k 5 hlt (by omega)
  have y6 : w.cell? ⟨b, off + k * 9 + 6, none⟩ = some (.slice (f k).out.a (f k).out.n (f k).out.c) := HC.out k 6 hlt (by omega)
  have y7 : w.cell? ⟨b, off + k * 9 + 7, none⟩ = some (.string (f k).et) := HC.out k 7 hlt (by omega)
  have y8 : w.cell? ⟨b, off + k * 9 + 8, none⟩ = some (.pointer (f k).q) := HC.out k 8 hlt (by omega)
  cases hq : (f k).q with
  | none =>
    rw [hq] at y8
    clear HAP
    go_wp2_with fail
    refine (addLen_any r 64 _ (by omega) (by omega) (by omega)).mono ?_
    rintro e w' ⟨r1, rfl, rfl, p1, u1, s1⟩
    go_wp2_with fail
    refine (addLen_any r1 (f k).ty.size _ (by omega) (by omega) (by omega)).mono ?_
    rintro e w' ⟨r2, rfl, rfl, p2, u2, s2⟩
    go_wp2_with fail
    refine (addLen_any r2 (f k).tx.size _ (by omega) (by omega) (by omega)).mono ?_
    rintro e w' ⟨r3, rfl, rfl, p3, u3, s3⟩
    go_wp2_with fail
    refine (addLen_any r3 (f k).st.size _ (by omega) (by omega) (by omega)).mono ?_
    rintro e w' ⟨r4, rfl, rfl, p4, u4, s4⟩
    go_wp2_with fail
    refine (addLen_any r4 (f k).tn.size _ (by omega) (by omega) (by omega)).mono ?_
    rintro e w' ⟨r5, rfl, rfl, p5, u5, s5⟩
    go_wp2_with fail
    refine (addLen_any r5 (f k).tc.size _ (by omega) (by omega) (by omega)).mono ?_
    rintro e w' ⟨r6, rfl, rfl, p6, u6, s6⟩
    go_wp2_with fail
    refine (addLen_any r6 (f k).inp.n _ (by omega) (by omega) (by omega)).mono ?_
    rintro e w' ⟨r7, rfl, rfl, p7, u7, s7⟩
    go_wp2_with fail
    refine (addLen_any r7 (f k).out.n _ (by omega) (by omega) (by omega)).mono ?_
    rintro e w' ⟨r8, rfl, rfl, p8, u8, s8⟩
    go_wp2_with fail
    refine (addLen_any r8 (f k).et.size _ (by omega) (by omega) (by omega)).mono ?_
    rintro e w' ⟨r9, rfl, rfl, p9, u9, s9⟩
    have HF : Hid (PbR t f (k + 1) r9) := by
      refine ⟨p9, u9, fun hh => ?_⟩
      have g9 := s9.out (by omega)
      have g8 := s8.out (by omega)
      have g7 := s7.out (by omega)
      have g6 := s6.out (by omega)
      have g5 := s5.out (by omega)
      have g4 := s4.out (by omega)
      have g3 := s3.out (by omega)
      have g2 := s2.out (by omega)
      have g1 := s1.out (by omega)
      obtain ⟨e1, e2⟩ := HR.out.2.2 g1.1
      refine ⟨e1, fun i hi => ?_⟩
      by_cases hik : i = k
      · subst hik
        exact ⟨by have := g7.2; omega, by have := g8.2; omega, by have := g3.2; omega⟩
      · exact e2 i (by omega)
    clear HR s1 s2 s3 s4 s5 s6 s7 s8 s9
    by_cases hov : 1048576 < r9
    · go_wp2_with fail
      go_ret
      exact ⟨_, rfl, rfl, p9, u9, fun hh => by omega⟩
    · go_wp2_with fail
      exact ⟨⟨k + 1, r9, by omega, rfl, by go_num, by first | rfl | trivial, HF⟩, by simp [intOf]; omega⟩
  | some q =>
    rw [hq] at y8
    obtain ⟨b2, o2, rfl, hb2, hc2, hap⟩ := HAP.out _ hq
    have z9 := hap.id
    have z10 := hap.re
    unfold maxLen at z9 z10
    have x0 : w.cell? ⟨b2, o2, none⟩ = some (.string (f k).ap.id) := hc2 0 (by omega)
    have x2 : w.cell? ⟨b2, o2 + 2, none⟩ = some (.string (f k).ap.re) := hc2 2 (by omega)
    clear HAP hap hc2
    go_wp2_with fail
    refine (addLen_any r 64 _ (by omega) (by omega) (by omega)).mono ?_
    rintro e w' ⟨r1, rfl, rfl, p1, u1, s1⟩
    go_wp2_with fail
    refine (addLen_any r1 (f k).ty.size _ (by omega) (by omega) (by omega)).mono ?_
    rintro e w' ⟨r2, rfl, rfl, p2, u2, s2⟩
    go_wp2_with fail
    refine (addLen_any r2 (f k).tx.size _ (by omega) (by omega) (by omega)).mono ?_
    rintro e w' ⟨r3, rfl, rfl, p3, u3, s3⟩
    go_wp2_with fail
    refine (addLen_any r3 (f k).st.size _ (by omega) (by omega) (by omega)).mono ?_
    rintro e w' ⟨r4, rfl, rfl, p4, u4, s4⟩
    go_wp2_with fail
    refine (addLen_any r4 (f k).tn.size _ (by omega) (by omega) (by omega)).mono ?_
    rintro e w' ⟨r5, rfl, rfl, p5, u5, s5⟩
    go_wp2_with fail
    refine (addLen_any r5 (f k).tc.size _ (by omega) (by omega) (by omega)).mono ?_
    rintro e w' ⟨r6, rfl, rfl, p6, u6, s6⟩
    go_wp2_with fail
    refine (addLen_any r6 (f k).inp.n _ (by omega) (by omega) (by omega)).mono ?_
    rintro e w' ⟨r7, rfl, rfl, p7, u7, s7⟩
    go_wp2_with fail
    refine (addLen_any r7 (f k).out.n _ (by omega) (by omega) (by omega)).mono ?_
    rintro e w' ⟨r8, rfl, rfl, p8, u8, s8⟩
    go_wp2_with fail
    refine (addLen_any r8 (f k).et.size _ (by omega) (by omega) (by omega)).mono ?_
    rintro e w' ⟨r9, rfl, rfl, p9, u9, s9⟩
    go_wp2_with fail
    refine (addLen_any r9 32 _ (by omega) (by omega) (by omega)).mono ?_
    rintro e w' ⟨r10, rfl, rfl, p10, u10, s10⟩
    go_wp2_with fail
    refine (addLen_any r10 (f k).ap.id.size _ (by omega) (by omega) (by omega)).mono ?_
    rintro e w' ⟨r11, rfl, rfl, p11, u11, s11⟩
    go_wp2_with fail
    refine (addLen_any r11 (f k).ap.re.size _ (by omega) (by omega) (by omega)).mono ?_
    rintro e w' ⟨r12, rfl, rfl, p12, u12, s12⟩
    have HF : Hid (PbR t f (k + 1) r12) := by
      refine ⟨p12, u12, fun hh => ?_⟩
      have g12 := s12.out (by omega)
      have g11 := s11.out (by omega)
      have g10 := s10.out (by omega)
      have g9 := s9.out (by omega)
      have g8 := s8.out (by omega)
      have g7 := s7.out (by omega)
      have g6 := s6.out (by omega)
      have g5 := s5.out (by omega)
      have g4 := s4.out (by omega)
      have g3 := s3.out (by omega)
      have g2 := s2.out (by omega)
      have g1 := s1.out (by omega)
      obtain ⟨e1, e2⟩ := HR.out.2.2 g1.1
      refine ⟨e1, fun i hi => ?_⟩
      by_cases hik : i = k
      · subst hik
        exact ⟨by have := g7.2; omega, by have := g8.2; omega, by have := g3.2; omega⟩
      · exact e2 i (by omega)
    clear HR s1 s2 s3 s4 s5 s6 s7 s8 s9 s10 s11 s12
    by_cases hov : 1048576 < r12
    · go_wp2_with fail
      go_ret
      exact ⟨_, rfl, rfl, p12, u12, fun hh => by omega⟩
    · go_wp2_with fail
      exact ⟨⟨k + 1, r12, by omega, rfl, by go_num, by first | rfl | trivial, HF⟩, by simp [intOf]; omega⟩

end Go.Proofs.Qxb6616796a
