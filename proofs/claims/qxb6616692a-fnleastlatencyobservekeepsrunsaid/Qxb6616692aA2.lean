import Derived.Test.Qxb6616692aA1
namespace Go.Proofs.Qxb6616692a
open Go.RowKit

theorem run_store_float {P : Program} (w : World) (a : Addr) (m : Mode) (k : FloatKind) (b : Nat) : (store a (.float k b) m).run P w = stored P w a (.float k b) m := run_store P w a _ m rfl
attribute [local go_sem] run_store_float

/-- What one observation makes of the estimate: (least, slowest, slowestInFlight). 'g': the limit has grown. -/
def obs (g : Bool) (least slow sif lat inf : Int) : Int × Int × Int :=
  if least = 0 ∨ lat < least then (lat, 0, 0)
  else if lat ≤ least then (least, 0, 0)
  else if (if g then 0 else slow) < lat then (least, lat, inf)
  else if 2 * inf ≤ (if g then 0 else sif) ∧ tst lat (if g then 0 else slow) least = true then (lat, 0, 0)
  else (least, if g then 0 else slow, if g then 0 else sif)

/-- LP at a triple. -/
def LP3 (E : Nat) (w : World) (R o : Nat) (r : Int × Int × Int) (e : Ending) (w' : World) : Prop := LP E w R o r.1 o r.2.1 r.2.2 e w'
theorem LP3.mk {E R o : Nat} {a s f : Int} {r : Int × Int × Int} {w w' : World} (hr : r = (a, s, f)) (hl : LL w' R E o a o s f) (hk : KB E w w') (hb : Below E w w') : LP3 E w R o r (.returned (.tuple #[])) w' := by
  subst hr; exact ⟨rfl, hl, hk, hb⟩
theorem below_set {E : Nat} {w w1 : World} (hb : Below E w w1) (c : Nat) (v : Value) : Below E w (w1.setCell ⟨E, c, none⟩ v) := hb.setCell (Nat.le_refl E) _

set_option maxRecDepth 100000 in
set_option maxHeartbeats 4000000 in
theorem observe_true (R E o : Nat) (least lat inf : Int) (lim : Nat) (slow sif : Int) (w : World) (h : LL w R E o least lim slow sif) (hg : (FloatKind.f64.format.order o lim == some .gt) = true)
    (_hl0 : 0 ≤ least) (_hi : 1 ≤ inf) (_hi2 : inf ≤ 4294967296) :
    Calls Try.prog 29 #[.pointer (some ⟨E, 0, none⟩), .int .i64 lat, .int .i64 inf] w (LP3 E w R o (obs true least slow sif lat inf)) := by
  obtain ⟨c0, c1, c2, c3, c4⟩ := h.cells
  have HL : Hid (LL w R E o least lim slow sif) := h
  clear h
  go_enter Try.func29, Try.ntmps29
  go_wp2_with (first | (go_at_call 28; refine (loadLimit_any R o w HL.out.of).mono ?_; rintro e w' ⟨rfl, rfl⟩))
  refine (endRun_any R E o least lim slow sif w HL.out).mono ?_
  rintro e w1 ⟨rfl, HL1, HK1, HB1⟩
  clear c0 c1 c2 c3 c4
  obtain ⟨c0, c1, c2, c3, c4⟩ := HL1.out.cells
  have f1 := HL1.out.free 1
  have f2 := HL1.out.free 2
  have f3 := HL1.out.free 3
  have f4 := HL1.out.free 4
  by_cases h1 : least = 0
  case pos =>
    have hb1 : (least == 0) = true := beq_iff_eq.2 h1
    have HO : Hid (obs true least slow sif lat inf = (lat, 0, 0)) := by
      show _ = _
      unfold obs; rw [if_pos (Or.inl h1)]
    clear h1
    go_wp2_with fail
    refine (endRun_any R E o lat o 0 0 _ ((HL1.out.set2 o).set1 lat)).mono ?_
    rintro e w2 ⟨rfl, HL2, HK2, HB2⟩
    go_wp2
    (first | go_end0 | refine bodyPost_ret (results_none rfl _ _ _) rfl ?_)
    exact LP3.mk HO.out HL2.out (((HK1.out.set 2 _).set 1 _).trans HK2.out) ((below_set (below_set HB1.out 2 _) 1 _).trans HB2.out)
  have hb1 : (least == 0) = false := beq_eq_false_iff_ne.2 h1
  by_cases h2 : lat < least
  case pos =>
    have HO : Hid (obs true least slow sif lat inf = (lat, 0, 0)) := by
      show _ = _
      unfold obs; rw [if_pos (Or.inr h2)]
    go_wp2_with fail
    refine (endRun_any R E o lat o 0 0 _ ((HL1.out.set2 o).set1 lat)).mono ?_
    rintro e w2 ⟨rfl, HL2, HK2, HB2⟩
    go_wp2
    (first | go_end0 | refine bodyPost_ret (results_none rfl _ _ _) rfl ?_)
    exact LP3.mk HO.out HL2.out (((HK1.out.set 2 _).set 1 _).trans HK2.out) ((below_set (below_set HB1.out 2 _) 1 _).trans HB2.out)
  have HN : Hid (¬ (least = 0 ∨ lat < least)) := by show ¬ _; omega
  by_cases h3 : lat ≤ least
  case pos =>
    have HO : Hid (obs true least slow sif lat inf = (least, 0, 0)) := by
      show _ = _
      unfold obs; rw [if_neg HN.out, if_pos h3]
    go_wp2_with fail
    refine (endRun_any R E o least o 0 0 _ (HL1.out.set2 o)).mono ?_
    rintro e w2 ⟨rfl, HL2, HK2, HB2⟩
    go_wp2
    (first | go_end0 | refine bodyPost_ret (results_none rfl _ _ _) rfl ?_)
    exact LP3.mk HO.out HL2.out ((HK1.out.set 2 _).trans HK2.out) ((below_set HB1.out 2 _).trans HB2.out)
  by_cases h4 : 0 < lat
  case pos =>
    have HO : Hid (obs true least slow sif lat inf = (least, lat, inf)) := by
      show _ = _
      unfold obs; rw [if_neg HN.out, if_neg h3, if_pos (by simpa using h4)]
    go_wp2_with fail
    (first | go_end0 | refine bodyPost_ret (results_none rfl _ _ _) rfl ?_)
    exact LP3.mk HO.out (((HL1.out.set2 o).set3 lat).set4 inf) (((HK1.out.set 2 _).set 3 _).set 4 _) (below_set (below_set (below_set HB1.out 2 _) 3 _) 4 _)
  exact absurd h4 (by omega)

set_option maxRecDepth 100000 in
set_option maxHeartbeats 4000000 in
theorem observe_false (R E o : Nat) (least lat inf : Int) (lim : Nat) (slow sif : Int) (w : World) (h : LL w R E o least lim slow sif) (hg : (FloatKind.f64.format.order o lim == some .gt) = false)
    (_hl0 : 0 ≤ least) (_hi : 1 ≤ inf) (_hi2 : inf ≤ 4294967296) :
    Calls Try.prog 29 #[.pointer (some ⟨E, 0, none⟩), .int .i64 lat, .int .i64 inf] w (LP3 E w R o (obs false least slow sif lat inf)) := by
  obtain ⟨c0, c1, c2, c3, c4⟩ := h.cells
  have HL : Hid (LL w R E o least lim slow sif) := h
  clear h
  have HK1 : Hid (KB E w w) := KB.refl _ _
  have HB1 : Hid (Below E w w) := Below.refl _ _
  have f2' := HL.out.free 2
  go_enter Try.func29, Try.ntmps29
  go_wp2_with fail
  refine (loadLimit_any R o w HL.out.of).mono ?_
  rintro e w1 ⟨rfl, hww⟩
  subst hww
  obtain ⟨w1, rfl⟩ : ∃ w1, w1 = w := ⟨_, rfl⟩
  have HL1 := HL
  clear c0 c1 c2 c3 c4 f2'
  obtain ⟨c0, c1, c2, c3, c4⟩ := HL1.out.cells
  have f1 := HL1.out.free 1
  have f2 := HL1.out.free 2
  have f3 := HL1.out.free 3
  have f4 := HL1.out.free 4
  by_cases h1 : least = 0
  case pos =>
    have hb1 : (least == 0) = true := beq_iff_eq.2 h1
    have HO : Hid (obs false least slow sif lat inf = (lat, 0, 0)) := by
      show _ = _
      unfold obs; rw [if_pos (Or.inl h1)]
    clear h1
    go_wp2_with fail
    refine (endRun_any R E o lat o slow sif _ ((HL1.out.set2 o).set1 lat)).mono ?_
    rintro e w2 ⟨rfl, HL2, HK2, HB2⟩
    go_wp2
    (first | go_end0 | refine bodyPost_ret (results_none rfl _ _ _) rfl ?_)
    exact LP3.mk HO.out HL2.out (((HK1.out.set 2 _).set 1 _).trans HK2.out) ((below_set (below_set HB1.out 2 _) 1 _).trans HB2.out)
  have hb1 : (least == 0) = false := beq_eq_false_iff_ne.2 h1
  by_cases h2 : lat < least
  case pos =>
    have HO : Hid (obs false least slow sif lat inf = (lat, 0, 0)) := by
      show _ = _
      unfold obs; rw [if_pos (Or.inr h2)]
    go_wp2_with fail
    refine (endRun_any R E o lat o slow sif _ ((HL1.out.set2 o).set1 lat)).mono ?_
    rintro e w2 ⟨rfl, HL2, HK2, HB2⟩
    go_wp2
    (first | go_end0 | refine bodyPost_ret (results_none rfl _ _ _) rfl ?_)
    exact LP3.mk HO.out HL2.out (((HK1.out.set 2 _).set 1 _).trans HK2.out) ((below_set (below_set HB1.out 2 _) 1 _).trans HB2.out)
  have HN : Hid (¬ (least = 0 ∨ lat < least)) := by show ¬ _; omega
  by_cases h3 : lat ≤ least
  case pos =>
    have HO : Hid (obs false least slow sif lat inf = (least, 0, 0)) := by
      show _ = _
      unfold obs; rw [if_neg HN.out, if_pos h3]
    go_wp2_with fail
    refine (endRun_any R E o least o slow sif _ (HL1.out.set2 o)).mono ?_
    rintro e w2 ⟨rfl, HL2, HK2, HB2⟩
    go_wp2
    (first | go_end0 | refine bodyPost_ret (results_none rfl _ _ _) rfl ?_)
    exact LP3.mk HO.out HL2.out ((HK1.out.set 2 _).trans HK2.out) ((below_set HB1.out 2 _).trans HB2.out)
  by_cases h4 : slow < lat
  case pos =>
    have HO : Hid (obs false least slow sif lat inf = (least, lat, inf)) := by
      show _ = _
      unfold obs; rw [if_neg HN.out, if_neg h3, if_pos (by simpa using h4)]
    go_wp2_with fail
    (first | go_end0 | refine bodyPost_ret (results_none rfl _ _ _) rfl ?_)
    exact LP3.mk HO.out (((HL1.out.set2 o).set3 lat).set4 inf) (((HK1.out.set 2 _).set 3 _).set 4 _) (below_set (below_set (below_set HB1.out 2 _) 3 _) 4 _)
  have hm9 := fun (n : Int) (w : World) => m9_run (P := Try.prog) 23 n w
  have HN4 : Hid (¬ (if false = true then (0 : Int) else slow) < lat) := by show ¬ _; simpa using h4
  have HN3 : Hid (¬ lat ≤ least) := h3
  by_cases h5 : 2 * inf ≤ sif
  case neg =>
    have HO : Hid (obs false least slow sif lat inf = (least, slow, sif)) := by
      show _ = _
      unfold obs; rw [if_neg HN.out, if_neg HN3.out, if_neg HN4.out, if_neg (by simp; omega)]; rfl
    have hd5 : decide (2 * inf ≤ sif) = false := decide_eq_false h5
    go_wp2_with fail
    go_quiet (fail)
    go_wp2_with fail
    (first | go_end0 | refine bodyPost_ret (results_none rfl _ _ _) rfl ?_)
    exact LP3.mk HO.out ((HL1.out.set2 o).drewN _) ((HK1.out.set 2 _).drewN _) (below_drewN (below_set HB1.out 2 _) _)
  cases h6 : (FloatKind.f64.format.order (floatOfInt .f64 lat) (m9 slow) == some .gt || FloatKind.f64.format.order (floatOfInt .f64 lat) (m9 slow) == some .eq) with
  | false =>
    have ht : tst lat slow least = false := by unfold tst fge; rw [show (Ieee.double.order (floatOfInt .f64 lat) (m9 slow) == some .gt || Ieee.double.order (floatOfInt .f64 lat) (m9 slow) == some .eq) = false from h6]; rfl
    have HO : Hid (obs false least slow sif lat inf = (least, slow, sif)) := by
      show _ = _
      unfold obs; rw [if_neg HN.out, if_neg HN3.out, if_neg HN4.out, if_neg (by simp [ht])]; rfl
    clear ht
    go_wp2_with fail
    go_quiet (fail)
    go_wp2_with fail
    (first | go_end0 | refine bodyPost_ret (results_none rfl _ _ _) rfl ?_)
    exact LP3.mk HO.out ((HL1.out.set2 o).drewN _) ((HK1.out.set 2 _).drewN _) (below_drewN (below_set HB1.out 2 _) _)
  | true =>
    cases h7 : (FloatKind.f64.format.order (m9 slow) (floatOfInt .f64 least) == some .gt) with
    | false =>
      have ht : tst lat slow least = false := by unfold tst fgt; rw [show (Ieee.double.order (m9 slow) (floatOfInt .f64 least) == some .gt) = false from h7, Bool.and_false]
      have HO : Hid (obs false least slow sif lat inf = (least, slow, sif)) := by
        show _ = _
        unfold obs; rw [if_neg HN.out, if_neg HN3.out, if_neg HN4.out, if_neg (by simp [ht])]; rfl
      clear ht
      go_wp2_with fail
      go_quiet (fail)
      go_wp2_with fail
      (first | go_end0 | refine bodyPost_ret (results_none rfl _ _ _) rfl ?_)
      exact LP3.mk HO.out ((HL1.out.set2 o).drewN _) ((HK1.out.set 2 _).drewN _) (below_drewN (below_set HB1.out 2 _) _)
    | true =>
      have ht : tst lat slow least = true := by unfold tst fge fgt; rw [show (Ieee.double.order (floatOfInt .f64 lat) (m9 slow) == some .gt || Ieee.double.order (floatOfInt .f64 lat) (m9 slow) == some .eq) = true from h6, show (Ieee.double.order (m9 slow) (floatOfInt .f64 least) == some .gt) = true from h7]; rfl
      have HO : Hid (obs false least slow sif lat inf = (lat, 0, 0)) := by
        show _ = _
        unfold obs; rw [if_neg HN.out, if_neg HN3.out, if_neg HN4.out, if_pos ⟨by simpa using h5, by simpa using ht⟩]
      clear ht
      go_wp2_with fail
      go_quiet (fail)
      go_wp2_with fail
      refine (learn_any R E o least lat o slow sif _ ((HL1.out.set2 o).drewN _)).mono ?_
      rintro e w2 ⟨rfl, HL2, HK2, HB2⟩
      go_wp2
      (first | go_end0 | refine bodyPost_ret (results_none rfl _ _ _) rfl ?_)
      exact LP3.mk HO.out HL2.out (((HK1.out.set 2 _).drewN _).trans HK2.out) ((below_drewN (below_set HB1.out 2 _) _).trans HB2.out)

end Go.Proofs.Qxb6616692a
