import Derived.Test.Qxb6616796aB1
import Derived.Test.Qxb6616796aD2
import Derived.Test.Qxb6616796aD3
import Derived.Test.Qxb6616796aZ14
namespace Go.Proofs.Qxb6616796a
open Go.RowKit

theorem grown_bel {B : Nat} {w w1 w2 : World} {g : Nat} (h : Below B w w1) (hg : w1.grownBy w2 (some g)) (hb : B ≤ g) (hB : B ≤ w1.heap.size) : Below B w w2 :=
  h.trans ⟨hg.os, hg.tape, hg.output, hg.size, fun i hi => hg.block i (Nat.lt_of_lt_of_le hi hB) (fun e => by cases e; omega)⟩

/-- The types and texts of the parts that the law lays. -/
def T5 (T : Nat → ByteArray) (n : Nat) : Nat → ByteArray := fun i => if i < n + 1 + 1 then (if i < n + 1 then (if i < n then T i else ss) else tt) else dt
def X5 (X : Nat → ByteArray) (t : ByteArray) (n : Nat) : Nat → ByteArray := fun i => if i < n + 1 + 1 then (if i < n + 1 then (if i < n then X i else { data := #[] }) else t) else { data := #[] }
def s0 : Sh := ⟨{ data := #[] }, { data := #[] }, { data := #[] }, none, 0, 0, none, 0, 0, { data := #[] }, none⟩
def s1 : Sh := ⟨isg, { data := #[] }, { data := #[99] }, none, 0, 0, none, 0, 0, { data := #[] }, none⟩
def S5 (S : Nat → Sh) (n : Nat) : Nat → Sh := fun i => if i < n + 1 + 1 then (if i < n + 1 then (if i < n then S i else s0) else s0) else s1

theorem T5_0 (T : Nat → ByteArray) (n : Nat) : T5 T n n = ss := by unfold T5; rw [if_pos (by omega), if_pos (by omega), if_neg (by omega)]
theorem T5_1 (T : Nat → ByteArray) (n : Nat) : T5 T n (n + 1) = tt := by simp [T5]
theorem T5_2 (T : Nat → ByteArray) (n : Nat) : T5 T n (n + 2) = dt := by simp [T5]
theorem X5_1 (X : Nat → ByteArray) (t : ByteArray) (n : Nat) : X5 X t n (n + 1) = t := by simp [X5]
theorem S5_2 (S : Nat → Sh) (n : Nat) : (S5 S n (n + 2)).st = isg := by simp [S5, s1]
theorem ne_of_size {a b : ByteArray} (h : a.size ≠ b.size) : ¬ a = b := fun e => h (by rw [e])
theorem step5 (T : Nat → ByteArray) (n : Nat) : lastStep (T5 T n) (n + 3) = n + 1 := by
  rw [lastStep_no (by rw [T5_2]; exact ne_of_size (by decide)), lastStep_no (by rw [T5_1]; exact ne_of_size (by decide))]
  show (if T5 T n n = ss then n + 1 else _) = n + 1
  rw [if_pos (T5_0 T n)]
theorem text5 (T X : Nat → ByteArray) (t : ByteArray) (n : Nat) : txt (T5 T n) (X5 X t n) (n + 3) = txt T X n ++ t.data.toList := by
  rw [txt_no (by rw [T5_2]; exact ne_of_size (by decide)), txt_yes (T5_1 T n), X5_1, txt_no (by rw [T5_0]; exact ne_of_size (by decide))]
  congr 1
  exact txt_congr (fun i hi => by simp [T5, show i < n + 1 + 1 by omega, show i < n + 1 by omega, hi]) (fun i hi => by simp [X5, show i < n + 1 + 1 by omega, show i < n + 1 by omega, hi])
theorem app_bytes (l : List UInt8) (t : ByteArray) : (⟨(l ++ t.data.toList).toArray⟩ : ByteArray) = (⟨l.toArray⟩ : ByteArray) ++ t := by
  apply ByteArray.ext
  rw [ByteArray.data_append]
  simp
theorem size5 {X : Nat → ByteArray} {t : ByteArray} {n : Nat} (h : ∀ i, i < n → (X i).size ≤ 1048576) (ht : t.size ≤ 1048576) : ∀ i, i < n + 3 → (X5 X t n i).size ≤ 1048576 := by
  intro i hi
  unfold X5
  by_cases h1 : i < n + 1 + 1
  · rw [if_pos h1]
    by_cases h2 : i < n + 1
    · rw [if_pos h2]
      by_cases h3 : i < n
      · rw [if_pos h3]; exact h i h3
      · rw [if_neg h3]; exact Nat.zero_le _
    · rw [if_neg h2]; exact ht
  · rw [if_neg h1]; exact Nat.zero_le _

/-- What the law leaves. -/
def L5P (w : World) (e : Ending) (w' : World) : Prop := e = .returned (.bool true) ∧ Hid (Below w.heap.size w w')

set_option maxRecDepth 100000 in
set_option maxHeartbeats 8000000 in
theorem law5_body (P : Pts) (t : ByteArray) (x : Bs) (et : ByteArray) (w : World) (hP : P.In w w.heap.size) (hx : x.In w w.heap.size) (ht : t.size ≤ maxLen) (he : et.size ≤ maxLen) : Calls Try.prog 5 #[.slice P.a P.n P.c, .string t, .slice x.a x.n x.c, .string et] w (L5P w) := by
  have HP : Hid _ := hP
  have HX : Hid _ := hx
  have hmP := hP.row.1
  have hmx := hx.row.1
  unfold maxLen at hmP hmx ht he
  clear hP hx
  by_cases hpn : 65536 < P.n
  · go_enter Try.func5, Try.ntmps5
    go_wp2_with fail
    refine (bytes14_any P t x.a x.n x.c et w HP.out).mono ?_
    rintro e w' ⟨b, rfl, rfl⟩
    cases b
    all_goals (go_wp2_with fail; go_ret; exact ⟨rfl, Below.refl _ _⟩)
  by_cases htn : 1048576 < t.size
  · go_enter Try.func5, Try.ntmps5
    go_wp2_with fail
    refine (bytes14_any P t x.a x.n x.c et w HP.out).mono ?_
    rintro e w' ⟨b, rfl, rfl⟩
    cases b
    all_goals (go_wp2_with fail; go_ret; exact ⟨rfl, Below.refl _ _⟩)
  by_cases hxn : 1048576 < x.n
  · go_enter Try.func5, Try.ntmps5
    go_wp2_with fail
    refine (bytes14_any P t x.a x.n x.c et w HP.out).mono ?_
    rintro e w' ⟨b, rfl, rfl⟩
    cases b
    all_goals (go_wp2_with fail; go_ret; exact ⟨rfl, Below.refl _ _⟩)
  by_cases hen : 1048576 < et.size
  · go_enter Try.func5, Try.ntmps5
    go_wp2_with fail
    refine (bytes14_any P t x.a x.n x.c et w HP.out).mono ?_
    rintro e w' ⟨b, rfl, rfl⟩
    cases b
    all_goals (go_wp2_with fail; go_ret; exact ⟨rfl, Below.refl _ _⟩)
  obtain ⟨i0, hi, hz0, hz1, hz2⟩ := info_parts Try.infoQ
  have HI : Hid _ := hi
  have HZ : Hid _ := And.intro hz0 (And.intro hz1 hz2)
  clear hi hz0 hz1 hz2
  go_enter Try.func5, Try.ntmps5
  go_wp2_with fail
  refine (bytes14_any P t x.a x.n x.c et w HP.out).mono ?_
  rintro e w' ⟨b, rfl, rfl⟩
  cases b
  · go_wp2_with fail
    go_ret
    exact ⟨rfl, Below.refl _ _⟩
  go_wp2_with fail
  refine (addLen_any 0 t.size w (by omega) (by omega) (by omega)).mono ?_
  rintro e w' ⟨r1, rfl, rfl, p1, u1, _⟩
  go_wp2_with fail
  refine (addLen_any r1 x.n w p1 u1 (by omega)).mono ?_
  rintro e w' ⟨r2, rfl, rfl, p2, u2, _⟩
  go_wp2_with fail
  refine (addLen_any r2 et.size w p2 u2 (by omega)).mono ?_
  rintro e w' ⟨r3, rfl, rfl, p3, u3, _⟩
  go_wp2_with fail
  refine (partsBytes_any r3 P w p3 u3 HP.out).mono ?_
  rintro e w' ⟨r4, rfl, rfl, p4, u4, s4⟩
  by_cases hr4 : 1048576 < r4
  · go_wp2_with fail
    go_ret
    exact ⟨rfl, Below.refl _ _⟩
  have HSP : Hid P.Small := (s4.out (by omega)).2
  clear s4 p1 p2 p3 p4 u1 u2 u3 u4
  have hpn' : P.n ≤ 65536 := by omega
  have ht' : t.size ≤ 1048576 := by omega
  have hx' : x.n ≤ 1048576 := by omega
  go_wp2_with fail
  refine (toParts_full P w.heap.size w HP.out (Nat.le_refl _) HSP.out hpn').mono ?_
  clear hr4
  rintro e w1 ⟨g1, c1, S, rfl, H1⟩
  have HB1 : Hid (Below w.heap.size w w1) := H1.out.2
  have HO1 : Hid (Ownz w1 w.heap.size g1 P.n c1 (fun i => (P.f i).ty) (fun i => (P.f i).tx) S) := H1.out.1
  clear H1
  obtain ⟨xs, hx, kx⟩ := HO1.out
  have hgb : w.heap.size ≤ g1 := (hx.lt g1 rfl).1
  have HXX : Hid (w1.ownsRow w.heap.size 33 15 (.slice (some ⟨g1, 0, none⟩) P.n c1) P.n xs) := hx
  have HKX : Hid (TU xs P.n _ _ _) := kx
  clear hx kx
  go_wp2_with (at_builtin; refine wpList_append_own _ rfl (.tmp 58) (.tmp 60) 26 rfl w.heap.size 33 i0 y33 15 224 Try.underlying26 HI.out HZ.out.1 HZ.out.2.1 HZ.out.2.2 rfl (by decide) _ _ _ rfl (World.ownsRow.alloc HXX.out _) ⟨w1.heap.size, 0, none⟩ 1 1 (pc ss { data := #[] } s0).toList rfl rfl (new_cellz w1 _ 33) (pc_one _ _ _) (by unfold maxLen; omega) (by omega) (by have := HB1.out.size; simp; omega) ?_)
  intro v w2 hown hgrow hnil
  obtain ⟨g2, c2, rfl, ho⟩ := Ownz.of hown (HKX.out.app (TU.single ss { data := #[] } s0)) hnil
  have HO2 : Hid (Ownz w2 w.heap.size g2 (P.n + 1) c2 _ _ _) := ho
  have HB2 : Hid (Below w.heap.size w w2) := grown_bel (HB1.out.alloc HB1.out.size _) hgrow hgb (by have := HB1.out.size; simp; omega)
  clear hown hgrow hnil ho HXX HKX hgb HB1 HO1
  obtain ⟨xs, hx, kx⟩ := HO2.out
  have hgb : w.heap.size ≤ g2 := (hx.lt g2 rfl).1
  have HXX : Hid (w2.ownsRow w.heap.size 33 15 (.slice (some ⟨g2, 0, none⟩) (P.n + 1) c2) (P.n + 1) xs) := hx
  have HKX : Hid (TU xs (P.n + 1) _ _ _) := kx
  clear hx kx
  go_wp2_with (at_builtin; refine wpList_append_own _ rfl (.tmp 62) (.tmp 65) 26 rfl w.heap.size 33 i0 y33 15 224 Try.underlying26 HI.out HZ.out.1 HZ.out.2.1 HZ.out.2.2 rfl (by decide) _ _ _ rfl (World.ownsRow.alloc HXX.out _) ⟨w2.heap.size, 0, none⟩ 1 1 (pc tt t s0).toList rfl rfl (new_cellz w2 _ 33) (pc_one _ _ _) (by unfold maxLen; omega) (by omega) (by have := HB2.out.size; simp; omega) ?_)
  intro v w3 hown hgrow hnil
  obtain ⟨g3, c3, rfl, ho⟩ := Ownz.of hown (HKX.out.app (TU.single tt t s0)) hnil
  have HO3 : Hid (Ownz w3 w.heap.size g3 ((P.n + 1) + 1) c3 _ _ _) := ho
  have HB3 : Hid (Below w.heap.size w w3) := grown_bel (HB2.out.alloc HB2.out.size _) hgrow hgb (by have := HB2.out.size; simp; omega)
  clear hown hgrow hnil ho HXX HKX hgb HB2 HO2
  obtain ⟨xs, hx, kx⟩ := HO3.out
  have hgb : w.heap.size ≤ g3 := (hx.lt g3 rfl).1
  have HXX : Hid (w3.ownsRow w.heap.size 33 15 (.slice (some ⟨g3, 0, none⟩) (P.n + 1 + 1) c3) (P.n + 1 + 1) xs) := hx
  have HKX : Hid (TU xs (P.n + 1 + 1) _ _ _) := kx
  clear hx kx
  go_wp2_with (at_builtin; refine wpList_append_own _ rfl (.tmp 67) (.tmp 69) 26 rfl w.heap.size 33 i0 y33 15 224 Try.underlying26 HI.out HZ.out.1 HZ.out.2.1 HZ.out.2.2 rfl (by decide) _ _ _ rfl (World.ownsRow.alloc HXX.out _) ⟨w3.heap.size, 0, none⟩ 1 1 (pc dt { data := #[] } s1).toList rfl rfl (new_cellz w3 _ 33) (pc_one _ _ _) (by unfold maxLen; omega) (by omega) (by have := HB3.out.size; simp; omega) ?_)
  intro v w4 hown hgrow hnil
  obtain ⟨g4, c4, rfl, ho⟩ := Ownz.of hown (HKX.out.app (TU.single dt { data := #[] } s1)) hnil
  have HO4 : Hid (Ownz w4 w.heap.size g4 ((P.n + 1 + 1) + 1) c4 _ _ _) := ho
  have HB4 : Hid (Below w.heap.size w w4) := grown_bel (HB3.out.alloc HB3.out.size _) hgrow hgb (by have := HB3.out.size; simp; omega)
  clear hown hgrow hnil ho HXX HKX hgb HB3 HO3
  have HO5 : Hid (Ownz w4 w.heap.size g4 (P.n + 3) c4 (T5 (fun i => (P.f i).ty) P.n) (X5 (fun i => (P.f i).tx) t P.n) (S5 S P.n)) := HO4.out
  have HSZ : Hid (∀ i, i < P.n → ((fun i => (P.f i).tx) i).size ≤ 1048576) := fun i hi => (HSP.out i hi).2.2
  clear HO4
  go_wp2_with fail
  simp only [show P.n + 1 + 1 + 1 = P.n + 3 from rfl]
  generalize hw5 : w4.alloc _ = w5
  have HB5 : Hid (Below w4.heap.size w4 w5) := by rw [← hw5]; exact (Below.refl _ _).alloc (Nat.le_refl _) _
  have hm5 : w5.cell? ⟨w4.heap.size, 9, none⟩ = some (.slice (some ⟨g4, 0, none⟩) (P.n + 3) c4) := by rw [← hw5]; exact cell_of_heap (heap_alloc_new _ _) rfl
  have hn5 : w5.cell? ⟨w4.heap.size, 10, none⟩ = some .nilFunc := by rw [← hw5]; exact cell_of_heap (heap_alloc_new _ _) rfl
  have hlt5 : w4.heap.size < w5.heap.size := by rw [← hw5]; simp
  clear hw5
  have hg4 : g4 < w4.heap.size := HO5.out.base.2
  have hbg : w.heap.size ≤ g4 := HO5.out.base.1
  have HR5 : Hid (Ownz w5 w.heap.size g4 (P.n + 3) c4 (T5 (fun i => (P.f i).ty) P.n) (X5 (fun i => (P.f i).tx) t P.n) (S5 S P.n)) := HO5.out.below HB5.out hg4
  have HBW5 : Hid (Below w.heap.size w w5) := HB4.out.trans (HB5.out.mono HB4.out.size)
  clear HO5 HB5 HB4
  obtain ⟨M, hM⟩ : ∃ M, M = w4.heap.size := ⟨_, rfl⟩
  rw [← hM] at hm5 hn5 hlt5 hg4
  rw [← hM]
  clear hM
  obtain ⟨A, hA⟩ : ∃ A : ByteArray, A = ⟨(txt (fun i => (P.f i).ty) (fun i => (P.f i).tx) P.n).toArray⟩ := ⟨_, rfl⟩
  have HL : Hid ((⟨(txt (T5 (fun i => (P.f i).ty) P.n) (X5 (fun i => (P.f i).tx) t P.n) (P.n + 3)).toArray⟩ : ByteArray) = A ++ t ∧ (⟨(txt (fun i => (P.f i).ty) (fun i => (P.f i).tx) P.n).toArray⟩ : ByteArray) = A) := ⟨by rw [hA, text5]; exact app_bytes _ _, hA.symm⟩
  have hAs : A.size ≤ 68719476736 := by
    have h1 := txt_len (T := fun i => (P.f i).ty) HSZ.out
    rw [hA]
    show (txt _ _ P.n).toArray.size ≤ _
    rw [List.size_toArray]
    refine Nat.le_trans h1 ?_
    omega
  clear hA
  refine (text_any M g4 (P.n + 3) c4 _ _ _ w5 hm5 HR5.out.row (by omega) (by omega) (size5 HSZ.out ht')).mono ?_
  rintro e w6 ⟨he, HB6⟩
  rw [HL.out.1] at he
  subst he
  have HBW6 : Hid (Below w.heap.size w w6) := HBW5.out.trans (HB6.out.mono HBW5.out.size)
  go_wp2_with fail
  refine (clone_any x w.heap.size w6 (HX.out.below HBW6.out) HBW6.out.size hx').mono ?_
  rintro e w7 ⟨a7, n7, c7, rfl, HB7⟩
  have HB57 : Hid (Below w5.heap.size w5 w7) := HB6.out.trans (HB7.out.mono HB6.out.size)
  have HR7 : Hid (Ownz w7 w.heap.size g4 (P.n + 3) c4 (T5 (fun i => (P.f i).ty) P.n) (X5 (fun i => (P.f i).tx) t P.n) (S5 S P.n)) := HR5.out.below HB57.out (by omega)
  have hm7 : w7.cell? ⟨M, 9, none⟩ = some (.slice (some ⟨g4, 0, none⟩) (P.n + 3) c4) := (HB57.out.cell (p := ⟨M, 9, none⟩) hlt5).trans hm5
  have hn7 : w7.cell? ⟨M, 10, none⟩ = some .nilFunc := (HB57.out.cell (p := ⟨M, 10, none⟩) hlt5).trans hn5
  have hs57 : w5.heap.size ≤ w7.heap.size := HB57.out.size
  have HBW7 : Hid (Below w.heap.size w w7) := HBW5.out.trans (HB57.out.mono HBW5.out.size)
  clear HR5 HB6 HB7 HBW5 HBW6 HB57 hm5 hn5
  go_wp2_with fail
  refine (setToolError_any M g4 P.n c4 _ _ _ a7 n7 c7 et w7 hm7 hn7 (by omega) HR7.out.row HR7.out.free (step5 _ _) (T5_1 _ _) (T5_2 _ _) (S5_2 _ _) (by omega) (by omega) (by omega)).mono ?_
  rintro e w8 ⟨rfl, H8⟩
  have hm8 : w8.cell? ⟨M, 9, none⟩ = some (.slice (some ⟨g4, 0, none⟩) (P.n + 3) c4) := (World.cell?_of_block (a := ⟨M, 9, none⟩) H8.out.2.1).trans hm7
  have HBW8 : Hid (Below w.heap.size w w8) := HBW7.out.trans (H8.out.2.2 _ hbg HBW7.out.size)
  have hs8 : w7.heap.size ≤ w8.heap.size := (H8.out.2.2 0 (Nat.zero_le _) (Nat.zero_le _)).size
  have HR8 : Hid (Row w8 g4 (P.n + 3) _ _ _) := H8.out.1
  clear H8 HBW7 HR7 hm7 hn7
  go_wp2_with fail
  refine (text_any M g4 (P.n + 3) c4 _ _ _ w8 hm8 HR8.out (by omega) (by omega) (size5 HSZ.out ht')).mono ?_
  rintro e w9 ⟨he, HB9⟩
  rw [HL.out.1] at he
  subst he
  have HBW9 : Hid (Below w.heap.size w w9) := HBW8.out.trans (HB9.out.mono HBW8.out.size)
  go_wp2_with fail
  refine (toParts_full P w.heap.size w9 (HP.out.below HBW9.out) HBW9.out.size HSP.out hpn').mono ?_
  rintro e w10 ⟨g10, c10, S10, rfl, H10⟩
  have HB810 : Hid (Below w8.heap.size w8 w10) := HB9.out.trans (H10.out.2.mono HB9.out.size)
  have HBW10 : Hid (Below w.heap.size w w10) := HBW9.out.trans (H10.out.2.mono HBW9.out.size)
  have HO10 : Hid (Ownz w10 w.heap.size g10 P.n c10 (fun i => (P.f i).ty) (fun i => (P.f i).tx) S10) := H10.out.1.less HBW9.out.size
  clear H10 HB9 HBW9 HBW8
  go_wp2_with fail
  generalize hw11 : w10.alloc _ = w11
  have HB11 : Hid (Below w10.heap.size w10 w11) := by rw [← hw11]; exact (Below.refl _ _).alloc (Nat.le_refl _) _
  have hm11 : w11.cell? ⟨w10.heap.size, 9, none⟩ = some (.slice (some ⟨g10, 0, none⟩) P.n c10) := by rw [← hw11]; exact cell_of_heap (heap_alloc_new _ _) rfl
  clear hw11
  have hg10 : g10 < w11.heap.size := Nat.lt_of_lt_of_le HO10.out.base.2 HB11.out.size
  refine (text_any w10.heap.size g10 P.n c10 _ _ _ w11 hm11 (HO10.out.below HB11.out HO10.out.base.2).row hg10 (by omega) HSZ.out).mono ?_
  rintro e w12 ⟨he, HB12⟩
  rw [HL.out.2] at he
  subst he
  have HB1012 : Hid (Below w10.heap.size w10 w12) := HB11.out.trans (HB12.out.mono HB11.out.size)
  have HB812 : Hid (Below w8.heap.size w8 w12) := HB810.out.trans (HB1012.out.mono HB810.out.size)
  have hm12 : w12.cell? ⟨M, 9, none⟩ = some (.slice (some ⟨g4, 0, none⟩) (P.n + 3) c4) := (HB812.out.cell (p := ⟨M, 9, none⟩) (show M < w8.heap.size by omega)).trans hm8
  have y12 : w12.cell? ⟨g4, (P.n + 2) * 15 + 2, none⟩ = some (.string oe) := (HB812.out.cell (p := ⟨g4, (P.n + 2) * 15 + 2, none⟩) (show g4 < w8.heap.size by omega)).trans ((HR8.out (P.n + 2) 2 (by omega) (by omega)).trans (by simp only [if_true]; rfl))
  have HBW12 : Hid (Below w.heap.size w w12) := HBW10.out.trans (HB1012.out.mono HBW10.out.size)
  clear HB11 HB12 HB810 HB812 HB1012 HBW10 HO10 HR8 hm11 hm8
  have hoe : (oe.toList == [111, 117, 116, 112, 117, 116, 45, 101, 114, 114, 111, 114]) = true := lit_yes rfl
  go_wp2_with fail
  go_ret
  exact ⟨rfl, HBW12⟩
end Go.Proofs.Qxb6616796a
