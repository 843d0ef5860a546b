import Derived.Test.Qxb6616574aW10
namespace Go.Proofs.Qxb6616574a
open Go.RowKit


/-- The two repeated fields' lengths. -/
def Pl.ssum (f : Nat → Sub) (n : Nat) : Int := Pl.sum (fun k => Pl.field (f k).body) n
def Pl.msum (f : Nat → Msg) (n : Nat) : Int := Pl.sum (fun k => Pl.field (f k).body) n
theorem Pl.ssum_zero (f : Nat → Sub) : Pl.ssum f 0 = 0 := rfl
theorem Pl.ssum_succ (f : Nat → Sub) (k : Nat) : Pl.ssum f (k + 1) = Pl.ssum f k + Pl.field (f k).body := rfl
theorem Pl.msum_zero (f : Nat → Msg) : Pl.msum f 0 = 0 := rfl
theorem Pl.msum_succ (f : Nat → Msg) (k : Nat) : Pl.msum f (k + 1) = Pl.msum f k + Pl.field (f k).body := rfl

theorem Ctl.In.below {w w' : World} {B : Nat} {x : Ctl} (h : x.In w B) (hb : Below B w w') : x.In w' B :=
  ⟨h.hr.below hb, fun i hi => (h.he i hi).below hb, h.ir.below hb, fun i hi => (h.ie i hi).below hb, h.gr.below hb, fun i hi => (h.ge i hi).below hb,
   h.pr.below hb, fun i hi => (h.pe i hi).below hb, h.dr.below hb, fun i hi => (h.de i hi).below hb⟩
theorem Ctl.In.more {w : World} {B B' : Nat} {x : Ctl} (h : x.In w B) (hb : B ≤ B') : x.In w B' :=
  ⟨h.hr.more hb, fun i hi => (h.he i hi).more hb, h.ir.more hb, fun i hi => (h.ie i hi).more hb, h.gr.more hb, fun i hi => (h.ge i hi).more hb,
   h.pr.more hb, fun i hi => (h.pe i hi).more hb, h.dr.more hb, fun i hi => (h.de i hi).more hb⟩

set_option maxHeartbeats 2000000 in
theorem rpcEncode_nopub_nil (E b : Nat) (z : Int) (sa : Option Addr) (sn sc : Nat) (sf : Nat → Sub) (ma : Option Addr) (mc : Nat) (w : World) (hE : EncS E w z) (hb : b < E)
    (c0 : w.cell? ⟨b, 0, none⟩ = some (.slice sa sn sc)) (c1 : w.cell? ⟨b, 1, none⟩ = some (.slice ma 0 mc)) (c2 : w.cell? ⟨b, 2, none⟩ = some (.pointer none))
    (hsr : RowAt w E sa sn 2 (fun i j => (sf i).cell j)) (hse : ∀ i, i < sn → (sf i).In w E) :
    Calls Try.prog 16 #[.pointer (some ⟨b, 0, none⟩), .pointer (some ⟨E, 0, none⟩)] w (EncP E z (0 + Pl.ssum sf sn) w) := by
  obtain ⟨z0, hz0, HE0, HB0⟩ : ∃ x, Hid (x = wrap64 (z + 0)) ∧ Hid (EncS E w x) ∧ Hid (Below E w w) := EncR.start hE
  clear hE
  have m0 := hsr.1
  unfold maxLen at m0
  have HR0 : Hid (RowAt w E sa sn 2 (fun i j => (sf i).cell j)) := hsr
  have HS0 : Hid (∀ i, i < sn → (sf i).In w E) := hse
  clear hsr hse
  go_enter Try.func16, Try.ntmps16
  go_wp2_with fail
  go_loopw [4, 12] (fun _ i wr => ∃ k : Nat, k ≤ sn ∧ i = .int .i64 k ∧ Hid (EncR E z (0 + Pl.ssum sf k) w wr)) (fun _ i _ => sn - (intOf i).toNat)
  case atStart => exact ⟨0, Nat.zero_le _, rfl, EncR.of ⟨z0, hz0, HE0.out, HB0.out⟩ (by rw [Pl.ssum_zero, Int.add_zero])⟩
  case round =>
  obtain ⟨k, hk, rfl, hr⟩ := hrel
  obtain ⟨z1, hz1, HE1, HB1⟩ : ∃ x', Hid (x' = wrap64 (z + (0 + Pl.ssum sf k))) ∧ Hid (EncS E wr x') ∧ Hid (Below E w wr) := hr
  obtain ⟨w1, rfl⟩ : ∃ w1, w1 = wr := ⟨_, rfl⟩
  skip
  by_cases hlt : k < sn
  case pos =>
    obtain ⟨rb, ro, ha, hrb, hrc⟩ := HR0.out.2 (by omega)
    have c0' : w1.cell? ⟨b, 0, none⟩ = some (.slice (some ⟨rb, ro, none⟩) sn sc) := by rw [← ha]; exact (HB1.out.cell hb).trans c0
    have HRC : Hid _ := hrc
    clear ha hrc
    go_wp2_with fail
    refine (messageField_any E z1 1 _ 22 _ w1 HE1.out (by omega) cf22 (fun x' w' hE' hB' => subEncode_any E rb (ro + k * 2) x' (sf k) w' hE' hrb (((HB1.out.trans hB').cell hrb).trans (HRC.out k 0 hlt (by omega))) (((HB1.out.trans hB').cell hrb).trans (HRC.out k 1 hlt (by omega))) ((HS0.out k hlt).below (HB1.out.trans hB')))).mono ?_
    rintro e w2 ⟨rfl, hr2⟩
    have HR : Hid (EncR E z (0 + Pl.ssum sf (k + 1)) w w2) := EncR.of (EncR.next hz1 HB1.out hr2) (by rw [Pl.ssum_succ]; omega)
    clear hr2 c0'
    go_wp2
    go_roundw
    case rel => exact ⟨k + 1, by omega, by go_num, HR⟩
    case measure => simp [intOf]; omega
  obtain rfl : sn = k := by omega
  clear hlt hk
  have c1w := (HB1.out.cell (p := ⟨b, 1, none⟩) hb).trans c1
  have c2w := (HB1.out.cell (p := ⟨b, 2, none⟩) hb).trans c2
  go_wp2_with fail
  refine wp_loop_rounds 1 ?_
  rw [rounds_succ]
  go_wp2
  go_end0
  exact ⟨rfl, EncR.of ⟨z1, hz1, HE1.out, HB1.out⟩ (rfl)⟩

set_option maxHeartbeats 2000000 in
theorem rpcEncode_nopub_ctl (E b : Nat) (z : Int) (sa : Option Addr) (sn sc : Nat) (sf : Nat → Sub) (ma : Option Addr) (mc : Nat) (cb co : Nat) (y : Ctl) (w : World) (hE : EncS E w z) (hb : b < E)
    (c0 : w.cell? ⟨b, 0, none⟩ = some (.slice sa sn sc)) (c1 : w.cell? ⟨b, 1, none⟩ = some (.slice ma 0 mc)) (c2 : w.cell? ⟨b, 2, none⟩ = some (.pointer (some ⟨cb, co, none⟩)))
    (hsr : RowAt w E sa sn 2 (fun i j => (sf i).cell j)) (hse : ∀ i, i < sn → (sf i).In w E)
    (hcb : cb < E) (hcc : ∀ j, j < 5 → w.cell? ⟨cb, co + j, none⟩ = some (y.cell j)) (hy : y.In w E) :
    Calls Try.prog 16 #[.pointer (some ⟨b, 0, none⟩), .pointer (some ⟨E, 0, none⟩)] w (EncP E z (0 + Pl.ssum sf sn + Pl.field y.body) w) := by
  obtain ⟨z0, hz0, HE0, HB0⟩ : ∃ x, Hid (x = wrap64 (z + 0)) ∧ Hid (EncS E w x) ∧ Hid (Below E w w) := EncR.start hE
  clear hE
  have m0 := hsr.1
  unfold maxLen at m0
  have HR0 : Hid (RowAt w E sa sn 2 (fun i j => (sf i).cell j)) := hsr
  have HS0 : Hid (∀ i, i < sn → (sf i).In w E) := hse
  clear hsr hse
  have HY : Hid (y.In w E) := hy
  have HCC : Hid (∀ j, j < 5 → w.cell? ⟨cb, co + j, none⟩ = some (y.cell j)) := hcc
  clear hy hcc
  go_enter Try.func16, Try.ntmps16
  go_wp2_with fail
  go_loopw [4, 12] (fun _ i wr => ∃ k : Nat, k ≤ sn ∧ i = .int .i64 k ∧ Hid (EncR E z (0 + Pl.ssum sf k) w wr)) (fun _ i _ => sn - (intOf i).toNat)
  case atStart => exact ⟨0, Nat.zero_le _, rfl, EncR.of ⟨z0, hz0, HE0.out, HB0.out⟩ (by rw [Pl.ssum_zero, Int.add_zero])⟩
  case round =>
  obtain ⟨k, hk, rfl, hr⟩ := hrel
  obtain ⟨z1, hz1, HE1, HB1⟩ : ∃ x', Hid (x' = wrap64 (z + (0 + Pl.ssum sf k))) ∧ Hid (EncS E wr x') ∧ Hid (Below E w wr) := hr
  obtain ⟨w1, rfl⟩ : ∃ w1, w1 = wr := ⟨_, rfl⟩
  skip
  by_cases hlt : k < sn
  case pos =>
    obtain ⟨rb, ro, ha, hrb, hrc⟩ := HR0.out.2 (by omega)
    have c0' : w1.cell? ⟨b, 0, none⟩ = some (.slice (some ⟨rb, ro, none⟩) sn sc) := by rw [← ha]; exact (HB1.out.cell hb).trans c0
    have HRC : Hid _ := hrc
    clear ha hrc
    go_wp2_with fail
    refine (messageField_any E z1 1 _ 22 _ w1 HE1.out (by omega) cf22 (fun x' w' hE' hB' => subEncode_any E rb (ro + k * 2) x' (sf k) w' hE' hrb (((HB1.out.trans hB').cell hrb).trans (HRC.out k 0 hlt (by omega))) (((HB1.out.trans hB').cell hrb).trans (HRC.out k 1 hlt (by omega))) ((HS0.out k hlt).below (HB1.out.trans hB')))).mono ?_
    rintro e w2 ⟨rfl, hr2⟩
    have HR : Hid (EncR E z (0 + Pl.ssum sf (k + 1)) w w2) := EncR.of (EncR.next hz1 HB1.out hr2) (by rw [Pl.ssum_succ]; omega)
    clear hr2 c0'
    go_wp2
    go_roundw
    case rel => exact ⟨k + 1, by omega, by go_num, HR⟩
    case measure => simp [intOf]; omega
  obtain rfl : sn = k := by omega
  clear hlt hk
  have c1w := (HB1.out.cell (p := ⟨b, 1, none⟩) hb).trans c1
  have c2w := (HB1.out.cell (p := ⟨b, 2, none⟩) hb).trans c2
  go_wp2_with fail
  refine wp_loop_rounds 1 ?_
  rw [rounds_succ]
  go_wp2_with fail
  refine (messageField_any E z1 3 _ 24 _ w1 HE1.out (by omega) cf24 (fun x' w' hE' hB' => ctlEncode_any E cb co x' y w' hE' hcb (fun j hj => ((HB1.out.trans hB').cell hcb).trans (HCC.out j hj)) (HY.out.below (HB1.out.trans hB')))).mono ?_
  rintro e w2 ⟨rfl, hr2⟩
  obtain ⟨z2, hz2, HE2, HB2⟩ : ∃ x, Hid (x = wrap64 (z + _)) ∧ Hid (EncS E w2 x) ∧ Hid (Below E w w2) := EncR.next hz1 HB1.out hr2
  clear hr2
  go_wp2
  go_end0
  exact ⟨rfl, EncR.of ⟨z2, hz2, HE2.out, HB2.out⟩ (rfl)⟩

set_option maxHeartbeats 2000000 in
theorem rpcEncode_pub_nil (E b : Nat) (z : Int) (sa : Option Addr) (sn sc : Nat) (sf : Nat → Sub) (pb po mn mc : Nat) (mb : Nat → Nat) (mf : Nat → Msg) (w : World) (hE : EncS E w z) (hb : b < E)
    (c0 : w.cell? ⟨b, 0, none⟩ = some (.slice sa sn sc)) (c1 : w.cell? ⟨b, 1, none⟩ = some (.slice (some ⟨pb, po, none⟩) mn mc)) (c2 : w.cell? ⟨b, 2, none⟩ = some (.pointer none))
    (hsr : RowAt w E sa sn 2 (fun i j => (sf i).cell j)) (hse : ∀ i, i < sn → (sf i).In w E)
    (hpb : pb < E) (hmm : mn ≤ maxLen) (hmr : ∀ i, i < mn → w.cell? ⟨pb, po + i, none⟩ = some (.pointer (some ⟨mb i, 0, none⟩)))
    (hme : ∀ i, i < mn → mb i < E ∧ (∀ j, j < 6 → w.cell? ⟨mb i, 0 + j, none⟩ = some ((mf i).cell j)) ∧ (mf i).Ok) :
    Calls Try.prog 16 #[.pointer (some ⟨b, 0, none⟩), .pointer (some ⟨E, 0, none⟩)] w (EncP E z (0 + Pl.ssum sf sn + Pl.msum mf mn) w) := by
  obtain ⟨z0, hz0, HE0, HB0⟩ : ∃ x, Hid (x = wrap64 (z + 0)) ∧ Hid (EncS E w x) ∧ Hid (Below E w w) := EncR.start hE
  clear hE
  have m0 := hsr.1
  unfold maxLen at m0
  have HR0 : Hid (RowAt w E sa sn 2 (fun i j => (sf i).cell j)) := hsr
  have HS0 : Hid (∀ i, i < sn → (sf i).In w E) := hse
  clear hsr hse
  unfold maxLen at hmm
  have HMR : Hid (∀ i, i < mn → w.cell? ⟨pb, po + i, none⟩ = some (.pointer (some ⟨mb i, 0, none⟩))) := hmr
  have HME : Hid (∀ i, i < mn → mb i < E ∧ (∀ j, j < 6 → w.cell? ⟨mb i, 0 + j, none⟩ = some ((mf i).cell j)) ∧ (mf i).Ok) := hme
  clear hmr hme
  go_enter Try.func16, Try.ntmps16
  go_wp2_with fail
  go_loopw [4, 12] (fun _ i wr => ∃ k : Nat, k ≤ sn ∧ i = .int .i64 k ∧ Hid (EncR E z (0 + Pl.ssum sf k) w wr)) (fun _ i _ => sn - (intOf i).toNat)
  case atStart => exact ⟨0, Nat.zero_le _, rfl, EncR.of ⟨z0, hz0, HE0.out, HB0.out⟩ (by rw [Pl.ssum_zero, Int.add_zero])⟩
  case round =>
  obtain ⟨k, hk, rfl, hr⟩ := hrel
  obtain ⟨z1, hz1, HE1, HB1⟩ : ∃ x', Hid (x' = wrap64 (z + (0 + Pl.ssum sf k))) ∧ Hid (EncS E wr x') ∧ Hid (Below E w wr) := hr
  obtain ⟨w1, rfl⟩ : ∃ w1, w1 = wr := ⟨_, rfl⟩
  skip
  by_cases hlt : k < sn
  case pos =>
    obtain ⟨rb, ro, ha, hrb, hrc⟩ := HR0.out.2 (by omega)
    have c0' : w1.cell? ⟨b, 0, none⟩ = some (.slice (some ⟨rb, ro, none⟩) sn sc) := by rw [← ha]; exact (HB1.out.cell hb).trans c0
    have HRC : Hid _ := hrc
    clear ha hrc
    go_wp2_with fail
    refine (messageField_any E z1 1 _ 22 _ w1 HE1.out (by omega) cf22 (fun x' w' hE' hB' => subEncode_any E rb (ro + k * 2) x' (sf k) w' hE' hrb (((HB1.out.trans hB').cell hrb).trans (HRC.out k 0 hlt (by omega))) (((HB1.out.trans hB').cell hrb).trans (HRC.out k 1 hlt (by omega))) ((HS0.out k hlt).below (HB1.out.trans hB')))).mono ?_
    rintro e w2 ⟨rfl, hr2⟩
    have HR : Hid (EncR E z (0 + Pl.ssum sf (k + 1)) w w2) := EncR.of (EncR.next hz1 HB1.out hr2) (by rw [Pl.ssum_succ]; omega)
    clear hr2 c0'
    go_wp2
    go_roundw
    case rel => exact ⟨k + 1, by omega, by go_num, HR⟩
    case measure => simp [intOf]; omega
  obtain rfl : sn = k := by omega
  clear hlt hk
  have c1w := (HB1.out.cell (p := ⟨b, 1, none⟩) hb).trans c1
  go_wp2_with fail
  go_loopw [6, 30] (fun _ i wr => ∃ k : Nat, k ≤ mn ∧ i = .int .i64 k ∧ Hid (EncR E z (0 + Pl.ssum sf sn + Pl.msum mf k) w wr)) (fun _ i _ => mn - (intOf i).toNat)
  case atStart => exact ⟨0, Nat.zero_le _, rfl, EncR.of ⟨z1, hz1, HE1.out, HB1.out⟩ (by rw [Pl.msum_zero, Int.add_zero])⟩
  case round =>
  obtain ⟨k, hk, rfl, hr⟩ := hrel
  obtain ⟨z2, hz2, HE2, HB2⟩ : ∃ x', Hid (x' = wrap64 (z + (0 + Pl.ssum sf sn + Pl.msum mf k))) ∧ Hid (EncS E wr x') ∧ Hid (Below E w wr) := hr
  obtain ⟨w2, rfl⟩ : ∃ w2, w2 = wr := ⟨_, rfl⟩
  clear c1w
  by_cases hlt : k < mn
  case pos =>
    have c1' : w2.cell? ⟨pb, po + k, none⟩ = some (.pointer (some ⟨mb k, 0, none⟩)) := (HB2.out.cell hpb).trans (HMR.out k hlt)
    go_wp2_with fail
    refine (messageField_any E z2 2 _ 23 _ w2 HE2.out (by omega) cf23 (fun x' w' hE' hB' => msgEncode_any E (mb k) 0 x' (mf k) w' hE' (HME.out k hlt).1 (fun j hj => ((HB2.out.trans hB').cell (HME.out k hlt).1).trans ((HME.out k hlt).2.1 j hj)) (HME.out k hlt).2.2)).mono ?_
    rintro e w3 ⟨rfl, hr3⟩
    have HR : Hid (EncR E z (0 + Pl.ssum sf sn + Pl.msum mf (k + 1)) w w3) := EncR.of (EncR.next hz2 HB2.out hr3) (by rw [Pl.msum_succ]; omega)
    clear hr3 c1'
    go_wp2
    go_roundw
    case rel => exact ⟨k + 1, by omega, by go_num, HR⟩
    case measure => simp [intOf]; omega
  obtain rfl : mn = k := by omega
  clear hlt hk
  have c2w := (HB2.out.cell (p := ⟨b, 2, none⟩) hb).trans c2
  go_wp2
  go_end0
  exact ⟨rfl, EncR.of ⟨z2, hz2, HE2.out, HB2.out⟩ (rfl)⟩

set_option maxHeartbeats 2000000 in
theorem rpcEncode_pub_ctl (E b : Nat) (z : Int) (sa : Option Addr) (sn sc : Nat) (sf : Nat → Sub) (pb po mn mc : Nat) (mb : Nat → Nat) (mf : Nat → Msg) (cb co : Nat) (y : Ctl) (w : World) (hE : EncS E w z) (hb : b < E)
    (c0 : w.cell? ⟨b, 0, none⟩ = some (.slice sa sn sc)) (c1 : w.cell? ⟨b, 1, none⟩ = some (.slice (some ⟨pb, po, none⟩) mn mc)) (c2 : w.cell? ⟨b, 2, none⟩ = some (.pointer (some ⟨cb, co, none⟩)))
    (hsr : RowAt w E sa sn 2 (fun i j => (sf i).cell j)) (hse : ∀ i, i < sn → (sf i).In w E)
    (hpb : pb < E) (hmm : mn ≤ maxLen) (hmr : ∀ i, i < mn → w.cell? ⟨pb, po + i, none⟩ = some (.pointer (some ⟨mb i, 0, none⟩)))
    (hme : ∀ i, i < mn → mb i < E ∧ (∀ j, j < 6 → w.cell? ⟨mb i, 0 + j, none⟩ = some ((mf i).cell j)) ∧ (mf i).Ok)
    (hcb : cb < E) (hcc : ∀ j, j < 5 → w.cell? ⟨cb, co + j, none⟩ = some (y.cell j)) (hy : y.In w E) :
    Calls Try.prog 16 #[.pointer (some ⟨b, 0, none⟩), .pointer (some ⟨E, 0, none⟩)] w (EncP E z (0 + Pl.ssum sf sn + Pl.msum mf mn + Pl.field y.body) w) := by
  obtain ⟨z0, hz0, HE0, HB0⟩ : ∃ x, Hid (x = wrap64 (z + 0)) ∧ Hid (EncS E w x) ∧ Hid (Below E w w) := EncR.start hE
  clear hE
  have m0 := hsr.1
  unfold maxLen at m0
  have HR0 : Hid (RowAt w E sa sn 2 (fun i j => (sf i).cell j)) := hsr
  have HS0 : Hid (∀ i, i < sn → (sf i).In w E) := hse
  clear hsr hse
  unfold maxLen at hmm
  have HMR : Hid (∀ i, i < mn → w.cell? ⟨pb, po + i, none⟩ = some (.pointer (some ⟨mb i, 0, none⟩))) := hmr
  have HME : Hid (∀ i, i < mn → mb i < E ∧ (∀ j, j < 6 → w.cell? ⟨mb i, 0 + j, none⟩ = some ((mf i).cell j)) ∧ (mf i).Ok) := hme
  clear hmr hme
  have HY : Hid (y.In w E) := hy
  have HCC : Hid (∀ j, j < 5 → w.cell? ⟨cb, co + j, none⟩ = some (y.cell j)) := hcc
  clear hy hcc
  go_enter Try.func16, Try.ntmps16
  go_wp2_with fail
  go_loopw [4, 12] (fun _ i wr => ∃ k : Nat, k ≤ sn ∧ i = .int .i64 k ∧ Hid (EncR E z (0 + Pl.ssum sf k) w wr)) (fun _ i _ => sn - (intOf i).toNat)
  case atStart => exact ⟨0, Nat.zero_le _, rfl, EncR.of ⟨z0, hz0, HE0.out, HB0.out⟩ (by rw [Pl.ssum_zero, Int.add_zero])⟩
  case round =>
  obtain ⟨k, hk, rfl, hr⟩ := hrel
  obtain ⟨z1, hz1, HE1, HB1⟩ : ∃ x', Hid (x' = wrap64 (z + (0 + Pl.ssum sf k))) ∧ Hid (EncS E wr x') ∧ Hid (Below E w wr) := hr
  obtain ⟨w1, rfl⟩ : ∃ w1, w1 = wr := ⟨_, rfl⟩
  skip
  by_cases hlt : k < sn
  case pos =>
    obtain ⟨rb, ro, ha, hrb, hrc⟩ := HR0.out.2 (by omega)
    have c0' : w1.cell? ⟨b, 0, none⟩ = some (.slice (some ⟨rb, ro, none⟩) sn sc) := by rw [← ha]; exact (HB1.out.cell hb).trans c0
    have HRC : Hid _ := hrc
    clear ha hrc
    go_wp2_with fail
    refine (messageField_any E z1 1 _ 22 _ w1 HE1.out (by omega) cf22 (fun x' w' hE' hB' => subEncode_any E rb (ro + k * 2) x' (sf k) w' hE' hrb (((HB1.out.trans hB').cell hrb).trans (HRC.out k 0 hlt (by omega))) (((HB1.out.trans hB').cell hrb).trans (HRC.out k 1 hlt (by omega))) ((HS0.out k hlt).below (HB1.out.trans hB')))).mono ?_
    rintro e w2 ⟨rfl, hr2⟩
    have HR : Hid (EncR E z (0 + Pl.ssum sf (k + 1)) w w2) := EncR.of (EncR.next hz1 HB1.out hr2) (by rw [Pl.ssum_succ]; omega)
    clear hr2 c0'
    go_wp2
    go_roundw
    case rel => exact ⟨k + 1, by omega, by go_num, HR⟩
    case measure => simp [intOf]; omega
  obtain rfl : sn = k := by omega
  clear hlt hk
  have c1w := (HB1.out.cell (p := ⟨b, 1, none⟩) hb).trans c1
  go_wp2_with fail
  go_loopw [6, 30] (fun _ i wr => ∃ k : Nat, k ≤ mn ∧ i = .int .i64 k ∧ Hid (EncR E z (0 + Pl.ssum sf sn + Pl.msum mf k) w wr)) (fun _ i _ => mn - (intOf i).toNat)
  case atStart => exact ⟨0, Nat.zero_le _, rfl, EncR.of ⟨z1, hz1, HE1.out, HB1.out⟩ (by rw [Pl.msum_zero, Int.add_zero])⟩
  case round =>
  obtain ⟨k, hk, rfl, hr⟩ := hrel
  obtain ⟨z2, hz2, HE2, HB2⟩ : ∃ x', Hid (x' = wrap64 (z + (0 + Pl.ssum sf sn + Pl.msum mf k))) ∧ Hid (EncS E wr x') ∧ Hid (Below E w wr) := hr
  obtain ⟨w2, rfl⟩ : ∃ w2, w2 = wr := ⟨_, rfl⟩
  clear c1w
  by_cases hlt : k < mn
  case pos =>
    have c1' : w2.cell? ⟨pb, po + k, none⟩ = some (.pointer (some ⟨mb k, 0, none⟩)) := (HB2.out.cell hpb).trans (HMR.out k hlt)
    go_wp2_with fail
    refine (messageField_any E z2 2 _ 23 _ w2 HE2.out (by omega) cf23 (fun x' w' hE' hB' => msgEncode_any E (mb k) 0 x' (mf k) w' hE' (HME.out k hlt).1 (fun j hj => ((HB2.out.trans hB').cell (HME.out k hlt).1).trans ((HME.out k hlt).2.1 j hj)) (HME.out k hlt).2.2)).mono ?_
    rintro e w3 ⟨rfl, hr3⟩
    have HR : Hid (EncR E z (0 + Pl.ssum sf sn + Pl.msum mf (k + 1)) w w3) := EncR.of (EncR.next hz2 HB2.out hr3) (by rw [Pl.msum_succ]; omega)
    clear hr3 c1'
    go_wp2
    go_roundw
    case rel => exact ⟨k + 1, by omega, by go_num, HR⟩
    case measure => simp [intOf]; omega
  obtain rfl : mn = k := by omega
  clear hlt hk
  have c2w := (HB2.out.cell (p := ⟨b, 2, none⟩) hb).trans c2
  go_wp2_with fail
  refine (messageField_any E z2 3 _ 24 _ w2 HE2.out (by omega) cf24 (fun x' w' hE' hB' => ctlEncode_any E cb co x' y w' hE' hcb (fun j hj => ((HB2.out.trans hB').cell hcb).trans (HCC.out j hj)) (HY.out.below (HB2.out.trans hB')))).mono ?_
  rintro e w3 ⟨rfl, hr3⟩
  obtain ⟨z3, hz3, HE3, HB3⟩ : ∃ x, Hid (x = wrap64 (z + _)) ∧ Hid (EncS E w3 x) ∧ Hid (Below E w w3) := EncR.next hz2 HB2.out hr3
  clear hr3
  go_wp2
  go_end0
  exact ⟨rfl, EncR.of ⟨z3, hz3, HE3.out, HB3.out⟩ (rfl)⟩

end Go.Proofs.Qxb6616574a
