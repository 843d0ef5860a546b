import Derived.Test.Qxb6616574aW18
namespace Go.Proofs.Qxb6616574a
open Go.RowKit

set_option maxHeartbeats 2000000 in
theorem model_nopub_nil (sa : Option Addr) (sn sc : Nat) (sf : Nat → Sub) (ma : Option Addr) (mc : Nat) (w : World)
    (hsr : RowAt w w.heap.size sa sn 2 (fun i j => (sf i).cell j)) (hse : ∀ i, i < sn → (sf i).In w w.heap.size) :
    Calls Try.prog 9 #[.slice sa sn sc, .slice ma 0 mc, .pointer none] w fun e w' => e = .returned (.int .i64 (Pl.w (Pl.ssum sf sn))) ∧ Below w.heap.size w w' := by
  have HS : Hid (∀ w, RowAt w w.heap.size sa sn 2 (fun i j => (sf i).cell j) → (∀ i, i < sn → (sf i).In w w.heap.size) → Calls Try.prog 11 #[.slice sa sn sc] w fun e w' => e = .returned (.int .i64 (Pl.w (Pl.ssum sf sn))) ∧ w' = w) := fun w h1 h2 => subsModel_any sa sn sc sf _ w h1 h2
  have HSR : Hid (RowAt w w.heap.size sa sn 2 (fun i j => (sf i).cell j)) := hsr
  have HSE : Hid (∀ i, i < sn → (sf i).In w w.heap.size) := hse
  clear hsr hse
  go_enter Try.func9, Try.ntmps9
  go_wp2_with fail
  refine (HS.out _ HSR.out HSE.out).mono ?_
  rintro e w' ⟨rfl, hww⟩
  obtain rfl : w = w' := hww.symm
  go_wp2_with fail
  refine wp_loop_rounds 1 ?_
  rw [rounds_succ]
  go_wp2_with fail
  go_ret
  exact ⟨rfl, Below.refl _ _⟩

set_option maxHeartbeats 2000000 in
theorem model_pub_nil (sa : Option Addr) (sn sc : Nat) (sf : Nat → Sub) (pb po mn mc : Nat) (mf : Nat → Msg) (ab ao : Nat → Nat) (w : World)
    (hsr : RowAt w w.heap.size sa sn 2 (fun i j => (sf i).cell j)) (hse : ∀ i, i < sn → (sf i).In w w.heap.size)
    (hpb : pb < w.heap.size) (hmm : mn ≤ maxLen) (hmr : ∀ i, i < mn → w.cell? ⟨pb, po + i, none⟩ = some (.pointer (some ⟨ab i, ao i, none⟩)))
    (hme : ∀ i, i < mn → ab i < w.heap.size ∧ (∀ j, j < 6 → w.cell? ⟨ab i, ao i + j, none⟩ = some ((mf i).cell j)) ∧ (mf i).Ok) :
    Calls Try.prog 9 #[.slice sa sn sc, .slice (some ⟨pb, po, none⟩) mn mc, .pointer none] w fun e w' => e = .returned (.int .i64 (Pl.w (Pl.ssum sf sn + Pl.msum mf mn))) ∧ Below w.heap.size w w' := by
  have HS : Hid (∀ w, RowAt w w.heap.size sa sn 2 (fun i j => (sf i).cell j) → (∀ i, i < sn → (sf i).In w w.heap.size) → Calls Try.prog 11 #[.slice sa sn sc] w fun e w' => e = .returned (.int .i64 (Pl.w (Pl.ssum sf sn))) ∧ w' = w) := fun w h1 h2 => subsModel_any sa sn sc sf _ w h1 h2
  have HSR : Hid (RowAt w w.heap.size sa sn 2 (fun i j => (sf i).cell j)) := hsr
  have HSE : Hid (∀ i, i < sn → (sf i).In w w.heap.size) := hse
  clear hsr hse
  unfold maxLen at hmm
  have HMR : Hid (∀ i, i < mn → w.cell? ⟨pb, po + i, none⟩ = some (.pointer (some ⟨ab i, ao i, none⟩))) := hmr
  have HME : Hid (∀ i, i < mn → ab i < w.heap.size ∧ (∀ j, j < 6 → w.cell? ⟨ab i, ao i + j, none⟩ = some ((mf i).cell j)) ∧ (mf i).Ok) := hme
  clear hmr hme
  go_enter Try.func9, Try.ntmps9
  go_wp2_with fail
  refine (HS.out _ HSR.out HSE.out).mono ?_
  rintro e w' ⟨rfl, hww⟩
  obtain rfl : w = w' := hww.symm
  go_wp2_with fail
  go_loopw [7, 8, 13] (fun s _ i wr => ∃ k : Nat, k ≤ mn ∧ i = .int .i64 k ∧ s = .int .i64 (Pl.w (Pl.ssum sf sn + Pl.msum mf k)) ∧ Hid (Below w.heap.size w wr)) (fun _ _ i _ => mn - (intOf i).toNat)
  case atStart => exact ⟨0, Nat.zero_le _, rfl, by rw [Pl.msum_zero, Int.add_zero], Below.refl _ _⟩
  case round =>
  obtain ⟨k, hk, rfl, rfl, HBR⟩ := hrel
  obtain ⟨w1, rfl⟩ : ∃ w1, w1 = wr := ⟨_, rfl⟩
  by_cases hlt : k < mn
  case pos =>
    have c1 : w1.cell? ⟨pb, po + k, none⟩ = some (.pointer (some ⟨ab k, ao k, none⟩)) := (HBR.out.cell hpb).trans (HMR.out k hlt)
    go_wp2_with fail
    refine (msgBody_any (ab k) (ao k) (mf k) w1 (fun j hj => (HBR.out.cell (HME.out k hlt).1).trans ((HME.out k hlt).2.1 j hj)) (HME.out k hlt).2.2).mono ?_
    rintro e w' ⟨rfl, nq, hnq⟩
    have HB2 : Hid (Below w.heap.size w w') := by rw [hnq]; exact below_dN HBR.out _
    clear hnq
    go_wp2_with fail
    refine (field_any _ _ rfl _).mono ?_
    rintro e w2 ⟨rfl, hww⟩
    obtain rfl : w' = w2 := hww.symm
    go_wp2
    refine ⟨⟨k + 1, by omega, by go_num, ?_, HB2⟩, by simp [intOf]; omega⟩
    simp only [Pl.w_add, Pl.msum_succ]
    exact val_w (by omega)
  obtain rfl : mn = k := by omega
  clear hlt hk
  go_wp2_with fail
  go_ret
  exact ⟨rfl, HBR.out⟩

set_option maxHeartbeats 2000000 in
theorem model_nopub_ctl (sa : Option Addr) (sn sc : Nat) (sf : Nat → Sub) (ma : Option Addr) (mc : Nat) (cb co : Nat) (y : Ctl) (w : World)
    (hsr : RowAt w w.heap.size sa sn 2 (fun i j => (sf i).cell j)) (hse : ∀ i, i < sn → (sf i).In w w.heap.size)
    (hcb : cb < w.heap.size) (hcc : ∀ j, j < 5 → w.cell? ⟨cb, co + j, none⟩ = some (y.cell j)) (hy : y.In w w.heap.size) :
    Calls Try.prog 9 #[.slice sa sn sc, .slice ma 0 mc, .pointer (some ⟨cb, co, none⟩)] w fun e w' => e = .returned (.int .i64 (Pl.w (Pl.ssum sf sn + Pl.field y.body))) ∧ Below w.heap.size w w' := by
  have HS : Hid (∀ w, RowAt w w.heap.size sa sn 2 (fun i j => (sf i).cell j) → (∀ i, i < sn → (sf i).In w w.heap.size) → Calls Try.prog 11 #[.slice sa sn sc] w fun e w' => e = .returned (.int .i64 (Pl.w (Pl.ssum sf sn))) ∧ w' = w) := fun w h1 h2 => subsModel_any sa sn sc sf _ w h1 h2
  have HSR : Hid (RowAt w w.heap.size sa sn 2 (fun i j => (sf i).cell j)) := hsr
  have HSE : Hid (∀ i, i < sn → (sf i).In w w.heap.size) := hse
  clear hsr hse
  have HY : Hid (y.In w w.heap.size) := hy
  have HCC : Hid (∀ j, j < 5 → w.cell? ⟨cb, co + j, none⟩ = some (y.cell j)) := hcc
  clear hy hcc
  go_enter Try.func9, Try.ntmps9
  go_wp2_with fail
  refine (HS.out _ HSR.out HSE.out).mono ?_
  rintro e w' ⟨rfl, hww⟩
  obtain rfl : w = w' := hww.symm
  go_wp2_with fail
  refine wp_loop_rounds 1 ?_
  rw [rounds_succ]
  go_wp2_with fail
  have HB1 : Hid (Below w.heap.size w w) := Below.refl _ _
  refine (ctlBody_any cb co y w (Nat.lt_of_lt_of_le hcb HB1.out.size) (fun j hj => (HB1.out.cell hcb).trans (HCC.out j hj)) ((HY.out.below HB1.out).more HB1.out.size)).mono ?_
  rintro e w3 ⟨rfl, hb3⟩
  have HB3 : Hid (Below w.heap.size w w3) := HB1.out.trans (hb3.mono HB1.out.size)
  clear hb3
  go_wp2_with fail
  refine (field_any _ _ rfl _).mono ?_
  rintro e w4 ⟨rfl, hww⟩
  obtain rfl : w3 = w4 := hww.symm
  go_wp2
  go_ret
  exact ⟨ret_int (Pl.w_add _ _), HB3.out⟩

set_option maxHeartbeats 2000000 in
theorem model_pub_ctl (sa : Option Addr) (sn sc : Nat) (sf : Nat → Sub) (pb po mn mc : Nat) (mf : Nat → Msg) (ab ao : Nat → Nat) (cb co : Nat) (y : Ctl) (w : World)
    (hsr : RowAt w w.heap.size sa sn 2 (fun i j => (sf i).cell j)) (hse : ∀ i, i < sn → (sf i).In w w.heap.size)
    (hpb : pb < w.heap.size) (hmm : mn ≤ maxLen) (hmr : ∀ i, i < mn → w.cell? ⟨pb, po + i, none⟩ = some (.pointer (some ⟨ab i, ao i, none⟩)))
    (hme : ∀ i, i < mn → ab i < w.heap.size ∧ (∀ j, j < 6 → w.cell? ⟨ab i, ao i + j, none⟩ = some ((mf i).cell j)) ∧ (mf i).Ok)
    (hcb : cb < w.heap.size) (hcc : ∀ j, j < 5 → w.cell? ⟨cb, co + j, none⟩ = some (y.cell j)) (hy : y.In w w.heap.size) :
    Calls Try.prog 9 #[.slice sa sn sc, .slice (some ⟨pb, po, none⟩) mn mc, .pointer (some ⟨cb, co, none⟩)] w fun e w' => e = .returned (.int .i64 (Pl.w (Pl.ssum sf sn + Pl.msum mf mn + Pl.field y.body))) ∧ Below w.heap.size w w' := by
  have HS : Hid (∀ w, RowAt w w.heap.size sa sn 2 (fun i j => (sf i).cell j) → (∀ i, i < sn → (sf i).In w w.heap.size) → Calls Try.prog 11 #[.slice sa sn sc] w fun e w' => e = .returned (.int .i64 (Pl.w (Pl.ssum sf sn))) ∧ w' = w) := fun w h1 h2 => subsModel_any sa sn sc sf _ w h1 h2
  have HSR : Hid (RowAt w w.heap.size sa sn 2 (fun i j => (sf i).cell j)) := hsr
  have HSE : Hid (∀ i, i < sn → (sf i).In w w.heap.size) := hse
  clear hsr hse
  unfold maxLen at hmm
  have HMR : Hid (∀ i, i < mn → w.cell? ⟨pb, po + i, none⟩ = some (.pointer (some ⟨ab i, ao i, none⟩))) := hmr
  have HME : Hid (∀ i, i < mn → ab i < w.heap.size ∧ (∀ j, j < 6 → w.cell? ⟨ab i, ao i + j, none⟩ = some ((mf i).cell j)) ∧ (mf i).Ok) := hme
  clear hmr hme
  have HY : Hid (y.In w w.heap.size) := hy
  have HCC : Hid (∀ j, j < 5 → w.cell? ⟨cb, co + j, none⟩ = some (y.cell j)) := hcc
  clear hy hcc
  go_enter Try.func9, Try.ntmps9
  go_wp2_with fail
  refine (HS.out _ HSR.out HSE.out).mono ?_
  rintro e w' ⟨rfl, hww⟩
  obtain rfl : w = w' := hww.symm
  go_wp2_with fail
  go_loopw [7, 8, 13] (fun s _ i wr => ∃ k : Nat, k ≤ mn ∧ i = .int .i64 k ∧ s = .int .i64 (Pl.w (Pl.ssum sf sn + Pl.msum mf k)) ∧ Hid (Below w.heap.size w wr)) (fun _ _ i _ => mn - (intOf i).toNat)
  case atStart => exact ⟨0, Nat.zero_le _, rfl, by rw [Pl.msum_zero, Int.add_zero], Below.refl _ _⟩
  case round =>
  obtain ⟨k, hk, rfl, rfl, HBR⟩ := hrel
  obtain ⟨w1, rfl⟩ : ∃ w1, w1 = wr := ⟨_, rfl⟩
  by_cases hlt : k < mn
  case pos =>
    have c1 : w1.cell? ⟨pb, po + k, none⟩ = some (.pointer (some ⟨ab k, ao k, none⟩)) := (HBR.out.cell hpb).trans (HMR.out k hlt)
    go_wp2_with fail
    refine (msgBody_any (ab k) (ao k) (mf k) w1 (fun j hj => (HBR.out.cell (HME.out k hlt).1).trans ((HME.out k hlt).2.1 j hj)) (HME.out k hlt).2.2).mono ?_
    rintro e w' ⟨rfl, nq, hnq⟩
    have HB2 : Hid (Below w.heap.size w w') := by rw [hnq]; exact below_dN HBR.out _
    clear hnq
    go_wp2_with fail
    refine (field_any _ _ rfl _).mono ?_
    rintro e w2 ⟨rfl, hww⟩
    obtain rfl : w' = w2 := hww.symm
    go_wp2
    refine ⟨⟨k + 1, by omega, by go_num, ?_, HB2⟩, by simp [intOf]; omega⟩
    simp only [Pl.w_add, Pl.msum_succ]
    exact val_w (by omega)
  obtain rfl : mn = k := by omega
  clear hlt hk
  go_wp2_with fail
  have HB1 : Hid (Below w.heap.size w w1) := HBR.out
  refine (ctlBody_any cb co y w1 (Nat.lt_of_lt_of_le hcb HB1.out.size) (fun j hj => (HB1.out.cell hcb).trans (HCC.out j hj)) ((HY.out.below HB1.out).more HB1.out.size)).mono ?_
  rintro e w3 ⟨rfl, hb3⟩
  have HB3 : Hid (Below w.heap.size w w3) := HB1.out.trans (hb3.mono HB1.out.size)
  clear hb3
  go_wp2_with fail
  refine (field_any _ _ rfl _).mono ?_
  rintro e w4 ⟨rfl, hww⟩
  obtain rfl : w3 = w4 := hww.symm
  go_wp2
  go_ret
  exact ⟨ret_int (Pl.w_add _ _), HB3.out⟩

end Go.Proofs.Qxb6616574a
