import Derived.Test.Qxb6616692aA2
namespace Go.Proofs.Qxb6616692a
open Go.RowKit

theorem observe_any (R E o : Nat) (least lat inf : Int) (lim : Nat) (slow sif : Int) (w : World) (h : LL w R E o least lim slow sif) (hl0 : 0 ≤ least) (hi : 1 ≤ inf) (hi2 : inf ≤ 4294967296) :
    Calls Try.prog 29 #[.pointer (some ⟨E, 0, none⟩), .int .i64 lat, .int .i64 inf] w (LP3 E w R o (obs (fgt o lim) least slow sif lat inf)) := by
  cases hg : fgt o lim with
  | true => exact observe_true R E o least lat inf lim slow sif w h hg hl0 hi hi2
  | false => exact observe_false R E o least lat inf lim slow sif w h hg hl0 hi hi2

set_option maxHeartbeats 1000000 in
theorem zzObserve_any (R E o : Nat) (least lat inf : Int) (lim : Nat) (slow sif a s f : Int) (w : World) (h : LL w R E o least lim slow sif) (hl0 : 0 ≤ least) (hi : 1 ≤ inf) (hi2 : inf ≤ 4294967296) (ho : obs (fgt o lim) least slow sif lat inf = (a, s, f)) :
    Calls Try.prog 18 #[.pointer (some ⟨E, 0, none⟩), .int .i64 lat, .int .i64 inf] w (LP E w R o a o s f) := by
  have HO : Hid (Calls Try.prog 29 #[.pointer (some ⟨E, 0, none⟩), .int .i64 lat, .int .i64 inf] w (LP3 E w R o (a, s, f))) := by rw [← ho]; exact observe_any R E o least lat inf lim slow sif w h hl0 hi hi2
  clear h hl0 hi hi2 ho
  go_enter Try.func18, Try.ntmps18
  go_wp2_with fail
  refine (Calls.mono HO.out ?_)
  rintro e w1 ⟨rfl, HL, HK, HB⟩
  go_wp2
  go_end0
  exact ⟨rfl, HL, HK, HB⟩

set_option maxHeartbeats 1000000 in
theorem state_any (R E o : Nat) (least : Int) (lim : Nat) (slow sif : Int) (w : World) (h : LL w R E o least lim slow sif) :
    Calls Try.prog 19 #[.pointer (some ⟨E, 0, none⟩)] w fun e w' => e = .returned (.tuple #[.int .i64 least, .float .f64 lim, .int .i64 slow, .int .i64 sif]) ∧ ∃ n, w' = w.drewN n := by
  obtain ⟨c0, c1, c2, c3, c4⟩ := h.cells
  clear h
  go_enter Try.func19, Try.ntmps19
  go_wp2
  go_quiet (fail)
  go_wp2
  refine bodyPost_ret (v := .tuple #[.int .i64 least, .float .f64 lim, .int .i64 slow, .int .i64 sif]) (by simp [results, Try.results19, go_sem]) rfl ⟨rfl, _, rfl⟩

theorem cell_set_same {w : World} {a : Addr} {u v : Value} (hc : w.cell? a = some u) : (w.setCell a v).cell? a = some v := by
  obtain ⟨b, o, sp⟩ := a
  have hsp : sp = none := World.cell?_spot hc
  subst hsp
  unfold World.cell? at hc
  split at hc
  · rename_i c T fz hh
    have : o < c.size := (Array.getElem?_eq_some_iff.1 hc).1
    simp [World.cell?, World.setCell, Array.getElem?_modify, hh, this]
  · cases hc
theorem frozen_set {w : World} (a b : Addr) (v : Value) : (w.setCell a v).frozen? b = w.frozen? b := World.frozen?_setCell ..

theorem LL.setOf {w : World} {R E o : Nat} {least : Int} {lim : Nat} {slow sif : Int} (h : LL w R E o least lim slow sif) (x : Nat) : LL (w.setCell ⟨R, 2, none⟩ (.int .u64 x)) R E x least lim slow sif :=
  ⟨h.ne, cell_set_same h.of, (frozen_set _ _ _).trans h.fz, (Below.heap_setCell _ _ _ _ (Ne.symm h.ne)).trans h.e⟩

set_option maxHeartbeats 1000000 in
theorem setOf_any (R E o x : Nat) (least : Int) (lim : Nat) (slow sif : Int) (w : World) (h : LL w R E o least lim slow sif) :
    Calls Try.prog 20 #[.pointer (some ⟨E, 0, none⟩), .float .f64 x] w fun e w' => e = .returned (.tuple #[]) ∧ Hid (LL w' R E x least lim slow sif) ∧ Hid (∀ B, B ≤ R → Below B w w') := by
  obtain ⟨c0, c1, c2, c3, c4⟩ := h.cells
  have HL : Hid _ := h
  clear h
  go_enter Try.func20, Try.ntmps20
  go_wp2_with fail
  refine (aStore_any R 2 x _ _ HL.out.of HL.out.fz).mono ?_
  rintro e w' ⟨rfl, hww⟩
  have HR : Hid (LL w' R E x least lim slow sif) := by rw [← hww]; exact (HL.out.setOf x).drew
  have HB : Hid (∀ B, B ≤ R → Below B w w') := by rw [← hww]; exact fun B h1 => ((Below.refl _ _).setCell h1 _).drew
  clear hww
  go_wp2
  go_end0
  exact ⟨rfl, HR, HB⟩

set_option maxHeartbeats 1000000 in
theorem same_any (a : Nat) (w : World) :
    Calls Try.prog 13 #[.float .f64 a, .float .f64 a] w fun e w' => e = .returned (.bool true) ∧ w = w' := by
  cases h1 : (FloatKind.f64.format.order a a != some .eq) with
  | true =>
    go_enter Try.func13, Try.ntmps13
    go_wp2
    go_ret
    exact ⟨rfl, rfl⟩
  | false =>
    cases h2 : (FloatKind.f64.format.order a 0 == some .eq) with
    | false =>
      go_enter Try.func13, Try.ntmps13
      go_wp2
      go_ret
      exact ⟨rfl, rfl⟩
    | true =>
      obtain ⟨r, hr, hrr⟩ := zero_quo a h2
      have hq := fun w => quo_run (P := Try.prog) 23 a r hr w
      have hrr' : (FloatKind.f64.format.order r r == some .eq) = true := hrr
      clear hrr hr
      go_enter Try.func13, Try.ntmps13
      go_wp2
      go_ret
      exact ⟨rfl, rfl⟩

/-! ### the plain law -/
theorem obs_cases (g : Bool) (least slow sif lat inf : Int) (h0 : 0 ≤ least) (h1 : 0 ≤ lat) (hi : 1 ≤ inf) :
    ∃ a s f, obs g least slow sif lat inf = (a, s, f) ∧ obs false a s f lat inf = (a, s, f) ∧
      (((least = 0 ∨ lat ≤ least) ∧ a = lat ∧ s = 0 ∧ f = 0) ∨
       (least ≠ 0 ∧ least < lat ∧ a = least ∧ s = lat ∧ f = inf) ∨
       (least ≠ 0 ∧ least < lat ∧ g = false ∧ lat ≤ slow ∧ a = lat ∧ s = 0 ∧ f = 0) ∨
       (least ≠ 0 ∧ least < lat ∧ g = false ∧ lat ≤ slow ∧ a = least ∧ s = slow ∧ f = sif)) := by
  have lat0 : obs false lat 0 0 lat inf = (lat, 0, 0) := by
    unfold obs
    by_cases h : lat = 0
    · rw [if_pos (Or.inl h)]
    · rw [if_neg (by omega), if_pos (by omega)]
  by_cases c1 : least = 0 ∨ lat < least
  · exact ⟨lat, 0, 0, by unfold obs; rw [if_pos c1], lat0, .inl ⟨by omega, rfl, rfl, rfl⟩⟩
  by_cases c2 : lat ≤ least
  · obtain rfl : lat = least := by omega
    exact ⟨lat, 0, 0, by unfold obs; rw [if_neg c1, if_pos c2], lat0, .inl ⟨by omega, rfl, rfl, rfl⟩⟩
  by_cases c3 : (if g then 0 else slow) < lat
  · refine ⟨least, lat, inf, by unfold obs; rw [if_neg c1, if_neg c2, if_pos c3], ?_, .inr (.inl ⟨by omega, by omega, rfl, rfl, rfl⟩)⟩
    unfold obs
    rw [if_neg c1, if_neg c2, if_neg (by simp), if_neg (by simp; omega)]
    rfl
  have hg : g = false := by
    cases g with
    | true => exact absurd c3 (by simp; omega)
    | false => rfl
  subst hg
  have c3' : lat ≤ slow := by simpa using c3
  by_cases c4 : 2 * inf ≤ (if false = true then 0 else sif) ∧ tst lat (if false = true then 0 else slow) least = true
  · exact ⟨lat, 0, 0, by unfold obs; rw [if_neg c1, if_neg c2, if_neg c3, if_pos c4], lat0, .inr (.inr (.inl ⟨by omega, by omega, rfl, c3', rfl, rfl, rfl⟩))⟩
  · have e : obs false least slow sif lat inf = (least, slow, sif) := by unfold obs; rw [if_neg c1, if_neg c2, if_neg c3, if_neg c4]; rfl
    exact ⟨least, slow, sif, e, e, .inr (.inr (.inr ⟨by omega, by omega, rfl, c3', rfl, rfl, rfl⟩))⟩

end Go.Proofs.Qxb6616692a
