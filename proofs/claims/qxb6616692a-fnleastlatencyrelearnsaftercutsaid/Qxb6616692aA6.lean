import Derived.Test.Qxb6616692aA5
namespace Go.Proofs.Qxb6616692a
open Go.RowKit

/-- The inputs of which law 7 speaks. -/
def Ok7 (least l1 n1 l2 n2 : Int) : Prop :=
  1 ≤ least ∧ least < l1 ∧ least < l2 ∧ l2 ≤ l1 ∧ 1 ≤ n1 ∧ n1 ≤ 4294967296 ∧ 1 ≤ n2 ∧ n2 ≤ 4294967296 ∧ 2 * n2 ≤ n1 ∧ (FloatKind.f64.format.order (m9 l1) (floatOfInt .f64 least) == some .gt) = true ∧
    (FloatKind.f64.format.order (floatOfInt .f64 l2) (m9 l1) == some .gt || FloatKind.f64.format.order (floatOfInt .f64 l2) (m9 l1) == some .eq) = true

set_option maxRecDepth 100000 in
set_option maxHeartbeats 4000000 in
theorem law7_out (least : Int) (limit0 : Nat) (l1 n1 : Int) (limitMid : Nat) (l2 n2 : Int) (w : World) (h : ¬ Ok7 least l1 n1 l2 n2) :
    Calls Try.prog 7 #[.int .i64 least, .float .f64 limit0, .int .i64 l1, .int .i64 n1, .float .f64 limitMid, .int .i64 l2, .int .i64 n2] w fun e w' => e = .returned (.bool true) ∧ Below w.heap.size w w' := by
  have HN : Hid (¬ Ok7 least l1 n1 l2 n2) := h
  clear h
  by_cases h0 : least < 1
  · go_enter Try.func7, Try.ntmps7
    go_wp2_with fail
    go_ret
    exact ⟨rfl, Below.refl _ _⟩
  by_cases h1 : l1 ≤ least
  · go_enter Try.func7, Try.ntmps7
    go_wp2_with fail
    go_ret
    exact ⟨rfl, Below.refl _ _⟩
  by_cases h2 : l2 ≤ least
  · go_enter Try.func7, Try.ntmps7
    go_wp2_with fail
    go_ret
    exact ⟨rfl, Below.refl _ _⟩
  by_cases h3 : l1 < l2
  · go_enter Try.func7, Try.ntmps7
    go_wp2_with fail
    go_ret
    exact ⟨rfl, Below.refl _ _⟩
  by_cases h4 : n1 < 1
  · go_enter Try.func7, Try.ntmps7
    go_wp2_with fail
    go_ret
    exact ⟨rfl, Below.refl _ _⟩
  by_cases h5 : 4294967296 < n1
  · go_enter Try.func7, Try.ntmps7
    go_wp2_with fail
    go_ret
    exact ⟨rfl, Below.refl _ _⟩
  by_cases h6 : n2 < 1
  · go_enter Try.func7, Try.ntmps7
    go_wp2_with fail
    go_ret
    exact ⟨rfl, Below.refl _ _⟩
  by_cases h7 : 4294967296 < n2
  · go_enter Try.func7, Try.ntmps7
    go_wp2_with fail
    go_ret
    exact ⟨rfl, Below.refl _ _⟩
  by_cases h8 : n1 < 2 * n2
  · have hd8 : decide (n1 < 2 * n2) = true := decide_eq_true h8
    go_enter Try.func7, Try.ntmps7
    go_wp2_with fail
    go_ret
    exact ⟨rfl, Below.refl _ _⟩
  have hd8 : decide (n1 < 2 * n2) = false := decide_eq_false h8
  have hm9 := fun (n : Int) (w : World) => m9_run (P := Try.prog) 23 n w
  cases h9 : (FloatKind.f64.format.order (m9 l1) (floatOfInt .f64 least) == some .gt) with
  | false =>
    go_enter Try.func7, Try.ntmps7
    go_wp2_with fail
    go_ret
    exact ⟨rfl, Below.refl _ _⟩
  | true =>
    cases h10 : (FloatKind.f64.format.order (floatOfInt .f64 l2) (m9 l1) == some .gt || FloatKind.f64.format.order (floatOfInt .f64 l2) (m9 l1) == some .eq) with
    | false =>
      go_enter Try.func7, Try.ntmps7
      go_wp2_with fail
      go_ret
      exact ⟨rfl, Below.refl _ _⟩
    | true =>
      exact absurd (⟨by omega, by omega, by omega, by omega, by omega, by omega, by omega, by omega, by omega, h9, h10⟩ : Ok7 least l1 n1 l2 n2) HN.out

/-- What the two observations give. -/
def OB7 (least : Int) (limit0 : Nat) (l1 n1 : Int) (limitMid : Nat) (l2 n2 a s f : Int) : Prop :=
  (∀ R E w, LL w R E limit0 least limit0 0 0 → Calls Try.prog 18 #[.pointer (some ⟨E, 0, none⟩), .int .i64 l1, .int .i64 n1] w (LP E w R limit0 least limit0 l1 n1)) ∧
  (∀ R E w, LL w R E limitMid least limit0 l1 n1 → Calls Try.prog 18 #[.pointer (some ⟨E, 0, none⟩), .int .i64 l2, .int .i64 n2] w (LP E w R limitMid a limitMid s f))

theorem ob7 (least : Int) (limit0 : Nat) (l1 n1 : Int) (limitMid : Nat) (l2 n2 : Int) (h : Ok7 least l1 n1 l2 n2) (a s f : Int)
    (hr : if fgt limitMid limit0 then a = least ∧ s = l2 ∧ f = n2 else a = l2 ∧ s = 0 ∧ f = 0) : OB7 least limit0 l1 n1 limitMid l2 n2 a s f := by
  obtain ⟨h0, h1, h2, h3, h4, h5, h6, h7, h8, h9, h10⟩ := h
  have ht : tst l2 l1 least = true := by unfold tst fge fgt; rw [show (Ieee.double.order (floatOfInt .f64 l2) (m9 l1) == some .gt || Ieee.double.order (floatOfInt .f64 l2) (m9 l1) == some .eq) = true from h10, show (Ieee.double.order (m9 l1) (floatOfInt .f64 least) == some .gt) = true from h9]; rfl
  refine ⟨fun R E w hl => zzObserve_any R E limit0 least l1 n1 limit0 0 0 least l1 n1 w hl (by omega) h4 h5 ?_, fun R E w hl => zzObserve_any R E limitMid least l2 n2 limit0 l1 n1 a s f w hl (by omega) h6 h7 ?_⟩
  · rw [fgt_self]
    unfold obs
    rw [if_neg (by omega), if_neg (by omega), if_pos (by simp; omega)]
  · unfold obs
    cases hg : fgt limitMid limit0 with
    | true =>
      rw [hg, if_pos rfl] at hr
      obtain ⟨rfl, rfl, rfl⟩ := hr
      rw [if_neg (by omega), if_neg (by omega), if_pos (by simp; omega)]
    | false =>
      rw [hg, if_neg (by simp)] at hr
      obtain ⟨rfl, rfl, rfl⟩ := hr
      rw [if_neg (by omega), if_neg (by omega), if_neg (by simp; omega), if_pos ⟨by simp; omega, by simpa using ht⟩]

set_option maxRecDepth 100000 in
set_option maxHeartbeats 4000000 in
theorem law7_true (least : Int) (limit0 : Nat) (l1 n1 : Int) (limitMid : Nat) (l2 n2 : Int) (w : World) (h : Ok7 least l1 n1 l2 n2) (hg : (FloatKind.f64.format.order limitMid limit0 == some .gt) = true) (HO : Hid (OB7 least limit0 l1 n1 limitMid l2 n2 least l2 n2)) :
    Calls Try.prog 7 #[.int .i64 least, .float .f64 limit0, .int .i64 l1, .int .i64 n1, .float .f64 limitMid, .int .i64 l2, .int .i64 n2] w fun e w' => e = .returned (.bool true) ∧ Below w.heap.size w w' := by
  obtain ⟨h0, h1, h2, h3, h4, h5, h6, h7, h8, h9, h10⟩ := h
  have hd8 : decide (n1 < 2 * n2) = false := decide_eq_false (by omega)
  have hm9 := fun (n : Int) (w : World) => m9_run (P := Try.prog) 23 n w
  go_enter Try.func7, Try.ntmps7
  go_wp2_with fail
  refine (new_any limit0 least limit0 0 0 w).mono ?_
  rintro e w1 ⟨R, E, rfl, HN⟩
  go_wp2_with fail
  refine (HO.out.1 R E w1 HN.out.1).mono ?_
  rintro e w2 ⟨rfl, HL2, HK2, HB2⟩
  go_wp2_with fail
  refine (state_any2 R E limit0 least limit0 l1 n1 w2 HL2.out).mono ?_
  rintro e w3 ⟨rfl, HL3⟩
  go_wp2_with fail
  refine (setOf_any R E limit0 limitMid least limit0 l1 n1 w3 HL3.out.1).mono ?_
  rintro e w4 ⟨rfl, HL4, HB4⟩
  go_wp2_with fail
  refine (HO.out.2 R E w4 HL4.out).mono ?_
  rintro e w5 ⟨rfl, HL5, HK5, HB5⟩
  go_wp2_with fail
  refine (state_any2 R E limitMid least limitMid l2 n2 w5 HL5.out).mono ?_
  rintro e w6 ⟨rfl, HL6⟩
  have HB : Hid (Below w.heap.size w w6) := HN.out.2.2.2.trans (((HB2.out.trans HL3.out.2).mono HN.out.2.2.1).trans ((HB4.out _ HN.out.2.1).trans ((HB5.out.trans HL6.out.2).mono HN.out.2.2.1)))
  clear HN HL2 HK2 HB2 HL3 HL4 HB4 HL5 HK5 HB5 HL6 HO
  go_wp2_with fail
  refine (same_any limitMid _).mono ?_
  rintro e w7 ⟨rfl, rfl⟩
  go_wp2_with fail
  go_ret
  exact ⟨rfl, HB.out⟩

set_option maxRecDepth 100000 in
set_option maxHeartbeats 4000000 in
theorem law7_false (least : Int) (limit0 : Nat) (l1 n1 : Int) (limitMid : Nat) (l2 n2 : Int) (w : World) (h : Ok7 least l1 n1 l2 n2) (hg : (FloatKind.f64.format.order limitMid limit0 == some .gt) = false) (HO : Hid (OB7 least limit0 l1 n1 limitMid l2 n2 l2 0 0)) :
    Calls Try.prog 7 #[.int .i64 least, .float .f64 limit0, .int .i64 l1, .int .i64 n1, .float .f64 limitMid, .int .i64 l2, .int .i64 n2] w fun e w' => e = .returned (.bool true) ∧ Below w.heap.size w w' := by
  obtain ⟨h0, h1, h2, h3, h4, h5, h6, h7, h8, h9, h10⟩ := h
  have hd8 : decide (n1 < 2 * n2) = false := decide_eq_false (by omega)
  have hm9 := fun (n : Int) (w : World) => m9_run (P := Try.prog) 23 n w
  go_enter Try.func7, Try.ntmps7
  go_wp2_with fail
  refine (new_any limit0 least limit0 0 0 w).mono ?_
  rintro e w1 ⟨R, E, rfl, HN⟩
  go_wp2_with fail
  refine (HO.out.1 R E w1 HN.out.1).mono ?_
  rintro e w2 ⟨rfl, HL2, HK2, HB2⟩
  go_wp2_with fail
  refine (state_any2 R E limit0 least limit0 l1 n1 w2 HL2.out).mono ?_
  rintro e w3 ⟨rfl, HL3⟩
  go_wp2_with fail
  refine (setOf_any R E limit0 limitMid least limit0 l1 n1 w3 HL3.out.1).mono ?_
  rintro e w4 ⟨rfl, HL4, HB4⟩
  go_wp2_with fail
  refine (HO.out.2 R E w4 HL4.out).mono ?_
  rintro e w5 ⟨rfl, HL5, HK5, HB5⟩
  go_wp2_with fail
  refine (state_any2 R E limitMid l2 limitMid 0 0 w5 HL5.out).mono ?_
  rintro e w6 ⟨rfl, HL6⟩
  have HB : Hid (Below w.heap.size w w6) := HN.out.2.2.2.trans (((HB2.out.trans HL3.out.2).mono HN.out.2.2.1).trans ((HB4.out _ HN.out.2.1).trans ((HB5.out.trans HL6.out.2).mono HN.out.2.2.1)))
  clear HN HL2 HK2 HB2 HL3 HL4 HB4 HL5 HK5 HB5 HL6 HO
  go_wp2_with fail
  refine (same_any limitMid _).mono ?_
  rintro e w7 ⟨rfl, rfl⟩
  go_wp2_with fail
  go_ret
  exact ⟨rfl, HB.out⟩

theorem law7_any (least : Int) (limit0 : Nat) (l1 n1 : Int) (limitMid : Nat) (l2 n2 : Int) (w : World) :
    Calls Try.prog 7 #[.int .i64 least, .float .f64 limit0, .int .i64 l1, .int .i64 n1, .float .f64 limitMid, .int .i64 l2, .int .i64 n2] w fun e w' => e = .returned (.bool true) ∧ Below w.heap.size w w' := by
  by_cases h : Ok7 least l1 n1 l2 n2
  · cases hg : fgt limitMid limit0 with
    | true => exact law7_true least limit0 l1 n1 limitMid l2 n2 w h hg (ob7 _ _ _ _ _ _ _ h _ _ _ (by rw [hg, if_pos rfl]; exact ⟨rfl, rfl, rfl⟩))
    | false => exact law7_false least limit0 l1 n1 limitMid l2 n2 w h hg (ob7 _ _ _ _ _ _ _ h _ _ _ (by rw [hg, if_neg (by simp)]; exact ⟨rfl, rfl, rfl⟩))
  · exact law7_out least limit0 l1 n1 limitMid l2 n2 w h
end Go.Proofs.Qxb6616692a
