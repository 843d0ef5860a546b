import Derived.Test.Qxb6616796aB1
import Derived.Test.Qxb6616796aB4
import Derived.Test.Qxb6616796aB5
import Derived.Test.Qxb6616796aZ6
namespace Go.Proofs.Qxb6616796a
open Go.RowKit

theorem grown_below {B : Nat} {w w1 w2 : World} {g : Nat} (h : Below B w w1) (hg : w1.grownBy w2 (some g)) (hb : B ≤ g) (hB : B ≤ w1.heap.size) : Below B w w2 :=
  h.trans ⟨hg.os, hg.tape, hg.output, hg.size, fun i hi => hg.block i (Nat.lt_of_lt_of_le hi hB) (fun e => by cases e; omega)⟩

theorem lastStep_congr {T T' : Nat → ByteArray} : ∀ {n : Nat}, (∀ i, i < n → T i = T' i) → lastStep T n = lastStep T' n
  | 0, _ => rfl
  | n + 1, h => by
    show (if T n = ss then n + 1 else lastStep T n) = (if T' n = ss then n + 1 else lastStep T' n)
    rw [h n (by omega), lastStep_congr (fun i hi => h i (by omega))]
theorem lastStep_app {T T' : Nat → ByteArray} {n : Nat} : ∀ {m : Nat}, (∀ i, i < m → T' i ≠ ss) → lastStep (fun i => if i < n then T i else T' (i - n)) (n + m) = lastStep T n
  | 0, _ => lastStep_congr (fun i hi => if_pos hi)
  | m + 1, h => by
    show lastStep _ (n + m + 1) = _
    rw [lastStep_no (by rw [if_neg (by omega), show n + m - n = m by omega]; exact h m (by omega))]
    exact lastStep_app (fun i hi => h i (by omega))
theorem lastStep_put {T T' : Nat → ByteArray} {n : Nat} (h : T' 0 = ss) : lastStep (fun i => if i < n then T i else T' (i - n)) (n + 1) = n + 1 := by
  show (if (if n < n then T n else T' (n - n)) = ss then n + 1 else _) = n + 1
  rw [if_pos (by rw [if_neg (Nat.lt_irrefl _), Nat.sub_self]; exact h)]

/-- What the law leaves. -/
def L3P (w : World) (e : Ending) (w' : World) : Prop := e = .returned (.bool true) ∧ Hid (Below w.heap.size w w')

/-- The cells of a row that the law reads. -/
theorem Owns.cell {w : World} {base g n c : Nat} {T X : Nat → ByteArray} (h : Owns w base g n c T X) : ∀ i, i < n → w.cell? ⟨g, i * 15, none⟩ = some (.string (T i)) := by
  intro i hi
  obtain ⟨xs, h, k⟩ := h
  rw [h.cellAt (i * 15) (by omega)]
  exact k.ty i hi

set_option maxRecDepth 100000 in
set_option maxHeartbeats 8000000 in
theorem law3_body (P Q : Pts) (w : World) (hP : P.In w w.heap.size) (hQ : Q.In w w.heap.size) : Calls Try.prog 3 #[.slice P.a P.n P.c, .slice Q.a Q.n Q.c] w (L3P w) := by
  have HP : Hid _ := hP
  have HQ : Hid _ := hQ
  have hmP := hP.row.1
  have hmQ := hQ.row.1
  unfold maxLen at hmP hmQ
  clear hP hQ
  by_cases hpn : 65536 < P.n
  · go_enter Try.func3, Try.ntmps3
    go_wp2_with fail
    refine (bytes6_any P Q w HP.out HQ.out).mono ?_
    rintro e w' ⟨b, rfl, rfl⟩
    cases b
    all_goals (go_wp2_with fail; go_ret; exact ⟨rfl, Below.refl _ _⟩)
  by_cases hqn : 65536 < Q.n
  · go_enter Try.func3, Try.ntmps3
    go_wp2_with fail
    refine (bytes6_any P Q w HP.out HQ.out).mono ?_
    rintro e w' ⟨b, rfl, rfl⟩
    cases b
    all_goals (go_wp2_with fail; go_ret; exact ⟨rfl, Below.refl _ _⟩)
  obtain ⟨i0, hi, hz0, hz1, hz2⟩ := info_parts Try.infoP
  have HI : Hid _ := hi
  have HZ : Hid _ := And.intro hz0 (And.intro hz1 hz2)
  clear hi hz0 hz1 hz2
  go_enter Try.func3, Try.ntmps3
  go_wp2_with fail
  refine (bytes6_any P Q w HP.out HQ.out).mono ?_
  rintro e w' ⟨b, rfl, rfl⟩
  cases b
  · go_wp2_with fail
    go_ret
    exact ⟨rfl, Below.refl _ _⟩
  go_wp2_with fail
  refine (partsBytes_any 0 P w (by omega) (by omega) HP.out).mono ?_
  rintro e w' ⟨r1, rfl, rfl, p1, u1, s1⟩
  go_wp2_with fail
  refine (partsBytes_any r1 Q w p1 u1 HQ.out).mono ?_
  rintro e w' ⟨r2, rfl, rfl, p2, u2, s2⟩
  by_cases hr2 : 1048576 < r2
  · go_wp2_with fail
    go_ret
    exact ⟨rfl, Below.refl _ _⟩
  have HSQ : Hid Q.Small := (s2.out (by omega)).2
  have HSP : Hid P.Small := (s1.out (s2.out (by omega)).1).2
  clear s1 s2
  go_wp2_with fail
  refine (hasStepStart_any Q w HQ.out).mono ?_
  rintro e w' ⟨r, rfl, rfl, HNS⟩
  cases r
  case true =>
    go_wp2_with fail
    go_ret
    exact ⟨rfl, Below.refl _ _⟩
  have HN : Hid _ := HNS.out rfl
  clear HNS hr2 p1 p2 u1 u2
  have hpn' : P.n ≤ 65536 := by omega
  have hqn' : Q.n ≤ 65536 := by omega
  go_wp2_with fail
  refine (toParts_any P w.heap.size w HP.out (Nat.le_refl _) HSP.out hpn').mono ?_
  rintro e w1 ⟨g1, c1, rfl, H1⟩
  go_wp2_with fail
  have HB1 : Hid (Below w.heap.size w w1) := H1.out.2
  refine (toParts_any Q w.heap.size w1 (HQ.out.below HB1.out) HB1.out.size HSQ.out hqn').mono ?_
  rintro e w2 ⟨g2, c2, rfl, H2⟩
  have HO1 : Hid (Owns w2 w.heap.size g1 P.n c1 (fun i => (P.f i).ty) (fun i => (P.f i).tx)) := H1.out.1.below H2.out.2 H1.out.1.base.2
  have HO2 : Hid (Owns w2 w.heap.size g2 Q.n c2 (fun i => (Q.f i).ty) (fun i => (Q.f i).tx)) := H2.out.1.less HB1.out.size
  have HB2 : Hid (Below w.heap.size w w2) := HB1.out.trans (H2.out.2.mono HB1.out.size)
  clear H1 H2 HB1
  obtain ⟨xs, hx, kx⟩ := HO1.out
  obtain ⟨ys, hy, ky⟩ := HO2.out
  have hgb : w.heap.size ≤ g1 := (hx.lt g1 rfl).1
  have HX : Hid (w2.ownsRow w.heap.size 33 15 (.slice (some ⟨g1, 0, none⟩) P.n c1) P.n xs) := hx
  have HY : Hid (ys.length = Q.n * 15 ∧ ∀ j u, ys[j]? = some u → w2.cell? ((⟨g2, 0, none⟩ : Addr).add j) = some u) := ⟨hy.1, hy.cells rfl⟩
  have HKX : Hid (TT xs P.n _ _) := kx
  have HKY : Hid (TT ys Q.n _ _) := ky
  clear hx hy kx ky
  go_wp2_with (at_builtin; refine wpList_append_own _ rfl (.tmp 33) (.tmp 35) 26 rfl w.heap.size 33 i0 z33 15 224 Try.underlying26 HI.out HZ.out.1 HZ.out.2.1 HZ.out.2.2 rfl (by decide) _ _ _ rfl HX.out ⟨g2, 0, none⟩ Q.n c2 ys rfl HY.out.1 HY.out.2 HKY.out.one (by unfold maxLen; omega) (by omega) HB2.out.size ?_)
  intro v w3 hown hgrow hnil
  obtain ⟨g3, c3, rfl, ho⟩ := Owns.of hown (HKX.out.app HKY.out) hnil
  have HO3 : Hid (Owns w3 w.heap.size g3 (P.n + Q.n) c3 _ _) := ho
  have HB3 : Hid (Below w.heap.size w w3) := grown_below HB2.out hgrow hgb HB2.out.size
  clear hown hgrow hnil ho HX HY HKX HKY HO1 HO2 hgb HB2
  go_wp2_with fail
  refine (toParts_any P w.heap.size w3 (HP.out.below HB3.out) HB3.out.size HSP.out hpn').mono ?_
  rintro e w4 ⟨g4, c4, rfl, H4⟩
  have HB4 : Hid (Below w3.heap.size w3 w4) := H4.out.2
  obtain ⟨xs, hx, kx⟩ := H4.out.1
  have hgb : w3.heap.size ≤ g4 := (hx.lt g4 rfl).1
  have HX : Hid (w4.ownsRow w3.heap.size 33 15 (.slice (some ⟨g4, 0, none⟩) P.n c4) P.n xs) := hx
  have HKX : Hid (TT xs P.n _ _) := kx
  clear hx kx H4
  go_wp2_with (at_builtin; refine wpList_append_own _ rfl (.tmp 38) (.tmp 40) 26 rfl w3.heap.size 33 i0 z33 15 224 Try.underlying26 HI.out HZ.out.1 HZ.out.2.1 HZ.out.2.2 rfl (by decide) _ _ _ rfl (World.ownsRow.alloc HX.out _) ⟨w4.heap.size, 0, none⟩ 1 1 (pcs ss { data := #[] } { data := #[] } { data := #[] } { data := #[] } (.slice none 0 0) (.slice none 0 0) { data := #[] } (.pointer none)).toList rfl rfl (new_cells w4 _ 33) (TT.single _ _ _ _ _ _ _ _ _ _ _ _ _).one (by unfold maxLen; omega) (by omega) (by have := HB4.out.size; simp; omega) ?_)
  intro v w5 hown hgrow hnil
  obtain ⟨g5, c5, rfl, ho⟩ := Owns.of hown (HKX.out.app (TT.single ss { data := #[] } _ _ _ _ _ _ _ _ _ _ _)) hnil
  have HO5 : Hid (Owns w5 w3.heap.size g5 (P.n + 1) c5 _ _) := ho
  have HB5 : Hid (Below w3.heap.size w3 w5) := grown_below (HB4.out.alloc HB4.out.size _) hgrow hgb (by have := HB4.out.size; simp; omega)
  clear hown hgrow hnil ho HX HKX hgb HB4
  go_wp2_with fail
  have HB35 : Hid (Below w.heap.size w w5) := HB3.out.trans (HB5.out.mono HB3.out.size)
  refine (toParts_any Q w.heap.size w5 (HQ.out.below HB35.out) HB35.out.size HSQ.out hqn').mono ?_
  rintro e w6 ⟨g6, c6, rfl, H6⟩
  have HB6 : Hid (Below w3.heap.size w3 w6) := HB5.out.trans (H6.out.2.mono HB5.out.size)
  have HO6 : Hid (Owns w6 w3.heap.size g6 Q.n c6 _ _) := H6.out.1.less HB5.out.size
  have HO56 : Hid (Owns w6 w3.heap.size g5 (P.n + 1) c5 _ _) := HO5.out.below H6.out.2 HO5.out.base.2
  clear HO5 H6 HB35 HB5
  obtain ⟨xs, hx, kx⟩ := HO56.out
  obtain ⟨ys, hy, ky⟩ := HO6.out
  have hgb : w3.heap.size ≤ g5 := (hx.lt g5 rfl).1
  have HX : Hid (w6.ownsRow w3.heap.size 33 15 (.slice (some ⟨g5, 0, none⟩) (P.n + 1) c5) (P.n + 1) xs) := hx
  have HY : Hid (ys.length = Q.n * 15 ∧ ∀ j u, ys[j]? = some u → w6.cell? ((⟨g6, 0, none⟩ : Addr).add j) = some u) := ⟨hy.1, hy.cells rfl⟩
  have HKX : Hid (TT xs (P.n + 1) _ _) := kx
  have HKY : Hid (TT ys Q.n _ _) := ky
  clear hx hy kx ky
  go_wp2_with (at_builtin; refine wpList_append_own _ rfl (.tmp 42) (.tmp 44) 26 rfl w3.heap.size 33 i0 z33 15 224 Try.underlying26 HI.out HZ.out.1 HZ.out.2.1 HZ.out.2.2 rfl (by decide) _ _ _ rfl HX.out ⟨g6, 0, none⟩ Q.n c6 ys rfl HY.out.1 HY.out.2 HKY.out.one (by unfold maxLen; omega) (by omega) HB6.out.size ?_)
  intro v w7 hown hgrow hnil
  obtain ⟨g7, c7, rfl, ho⟩ := Owns.of hown (HKX.out.app HKY.out) hnil
  have HO7 : Hid (Owns w7 w3.heap.size g7 ((P.n + 1) + Q.n) c7 _ _) := ho
  have HB7 : Hid (Below w3.heap.size w3 w7) := grown_below HB6.out hgrow hgb HB6.out.size
  clear hown hgrow hnil ho HX HY HKX HKY HO56 HO6 hgb HB6
  have HO37 : Hid (Owns w7 w.heap.size g3 (P.n + Q.n) c3 _ _) := HO3.out.below HB7.out HO3.out.base.2
  have HBW7 : Hid (Below w.heap.size w w7) := HB3.out.trans (HB7.out.mono HB3.out.size)
  obtain ⟨A, hA⟩ : ∃ A, A = lastStep (fun i => (P.f i).ty) P.n := ⟨_, rfl⟩
  have HA : Hid (A = lastStep (fun i => (P.f i).ty) P.n ∧ lastStep (fun i => if i < P.n then (P.f i).ty else (Q.f (i - P.n)).ty) (P.n + Q.n) = A ∧
    lastStep (fun i => if i < P.n + 1 then if i < P.n then (P.f i).ty else ss else (Q.f (i - (P.n + 1))).ty) (P.n + 1 + Q.n) = P.n + 1) :=
    ⟨hA, (lastStep_app HN.out).trans hA.symm, (lastStep_app (T := fun i => if i < P.n then (P.f i).ty else ss) HN.out).trans (lastStep_put (T' := fun _ => ss) rfl)⟩
  have hAle : A ≤ 65536 := by have := lastStep_le (fun i => (P.f i).ty) P.n; omega
  clear HB7 HO3 HB3 hA HN
  go_wp2_with fail
  generalize hw8 : w7.alloc _ = w8
  have HB8 : Hid (Below w7.heap.size w7 w8) := by rw [← hw8]; exact (Below.refl _ _).alloc (Nat.le_refl _) _
  have hm8 : w8.cell? ⟨w7.heap.size, 9, none⟩ = some (.slice (some ⟨g3, 0, none⟩) (P.n + Q.n) c3) := by rw [← hw8]; exact cell_of_heap (heap_alloc_new _ _) rfl
  clear hw8
  refine (zzStepStart_any _ g3 (P.n + Q.n) c3 _ w8 hm8 (by omega) (HO37.out.below HB8.out HO37.out.base.2).cell).mono ?_
  rintro e w' ⟨he, rfl⟩
  rw [HA.out.2.1] at he
  subst he
  clear hm8 HO37
  go_wp2_with fail
  have HBW8 : Hid (Below w.heap.size w w8) := HBW7.out.trans (HB8.out.mono HBW7.out.size)
  refine (toParts_any P w.heap.size w8 (HP.out.below HBW8.out) HBW8.out.size HSP.out hpn').mono ?_
  rintro e w9 ⟨g9, c9, rfl, H9⟩
  have HB9 : Hid (Below w7.heap.size w7 w9) := HB8.out.trans (H9.out.2.mono HB8.out.size)
  have HO9 : Hid (Owns w9 w.heap.size g9 P.n c9 (fun i => (P.f i).ty) (fun i => (P.f i).tx)) := H9.out.1.less HBW8.out.size
  clear H9 HB8 HBW8
  go_wp2_with fail
  generalize hw10 : w9.alloc _ = w10
  have HB10 : Hid (Below w9.heap.size w9 w10) := by rw [← hw10]; exact (Below.refl _ _).alloc (Nat.le_refl _) _
  have hm10 : w10.cell? ⟨w9.heap.size, 9, none⟩ = some (.slice (some ⟨g9, 0, none⟩) P.n c9) := by rw [← hw10]; exact cell_of_heap (heap_alloc_new _ _) rfl
  clear hw10
  refine (zzStepStart_any _ g9 P.n c9 _ w10 hm10 (by omega) (HO9.out.below HB10.out HO9.out.base.2).cell).mono ?_
  rintro e w' ⟨he, rfl⟩
  rw [← HA.out.1] at he
  subst he
  have HB710 : Hid (Below w7.heap.size w7 w10) := HB9.out.trans (HB10.out.mono HB9.out.size)
  clear hm10 HO9 HB9 HB10
  go_wp2_with fail
  generalize hw11 : w10.alloc _ = w11
  have HB11 : Hid (Below w7.heap.size w7 w11) := by rw [← hw11]; exact HB710.out.alloc HB710.out.size _
  have hm11 : w11.cell? ⟨w10.heap.size, 9, none⟩ = some (.slice (some ⟨g7, 0, none⟩) (P.n + 1 + Q.n) c7) := by rw [← hw11]; exact cell_of_heap (heap_alloc_new _ _) rfl
  clear hw11
  refine (zzStepStart_any _ g7 (P.n + 1 + Q.n) c7 _ w11 hm11 (by omega) (HO7.out.below HB11.out HO7.out.base.2).cell).mono ?_
  rintro e w' ⟨he, rfl⟩
  rw [HA.out.2.2] at he
  subst he
  clear hm11 HO7
  go_wp2_with fail
  go_ret
  exact ⟨rfl, HBW7.out.trans (HB11.out.mono HBW7.out.size)⟩
end Go.Proofs.Qxb6616796a
