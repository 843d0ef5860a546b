import Derived.Test.Qxb6616574aW17
import Derived.Deep.DeepCutAuto
namespace Go.Proofs.Qxb6616574a
open Go.RowKit

set_option maxHeartbeats 2000000 in
theorem subsModel_any (sa : Option Addr) (sn sc : Nat) (sf : Nat → Sub) (B : Nat) (w : World) (hsr : RowAt w B sa sn 2 (fun i j => (sf i).cell j)) (hse : ∀ i, i < sn → (sf i).In w B) :
    Calls Try.prog 11 #[.slice sa sn sc] w fun e w' => e = .returned (.int .i64 (Pl.w (Pl.ssum sf sn))) ∧ w' = w := by
  obtain ⟨hm, hr⟩ := hsr
  unfold maxLen at hm
  have HSE : Hid (∀ i, i < sn → (sf i).In w B) := hse
  clear hse
  by_cases h0 : 0 < sn
  · obtain ⟨b, off, rfl, hb, hc⟩ := hr h0
    have HCel : Hid (∀ i j, i < sn → j < 2 → w.cell? ⟨b, off + i * 2 + j, none⟩ = some ((sf i).cell j)) := hc
    clear hr hc
    go_enter Try.func11, Try.ntmps11
    go_wp2_with fail
    go_loop [3, 4, 5, 8] (fun s _ _ i => ∃ k : Nat, k ≤ sn ∧ i = .int .i64 k ∧ s = .int .i64 (Pl.w (Pl.ssum sf k))) (fun _ _ _ i => sn - (intOf i).toNat)
    case atStart => exact ⟨0, Nat.zero_le _, rfl, by rw [Pl.ssum_zero, ← Pl.w_zero]⟩
    case round =>
    obtain ⟨k, hk, rfl, rfl⟩ := hrel
    by_cases hlt : k < sn
    case pos =>
      have y1 : w.cell? ⟨b, off + k * 2 + 1, none⟩ = some (.pointer (sf k).q) := HCel.out k 1 hlt (by omega)
      have y0 : w.cell? ⟨b, off + k * 2, none⟩ = some (.pointer (sf k).p) := HCel.out k 0 hlt (by omega)
      have HQ : Hid _ := (HSE.out k hlt).2
      cases hp : (sf k).p with
      | none =>
        have HB : Hid ((sf k).body = Pl.ostr (sf k).q (sf k).s) := by show _ = _; rw [Sub.body, hp]; simp
        rw [hp] at y0
        clear hp
        go_wp2_with fail
        refine (optStr_any _ _ B _ HQ.out).mono ?_
        rintro e w' ⟨rfl, rfl⟩
        go_wp2_with fail
        refine (field_any _ (sf k).body (by rw [HB.out]) _).mono ?_
        rintro e w' ⟨rfl, rfl⟩
        go_wp2
        refine ⟨⟨k + 1, by omega, by go_num, ?_⟩, by simp [intOf]; omega⟩
        rw [Pl.w_add, Pl.ssum_succ]
      | some pa =>
        have HB : Hid ((sf k).body = Pl.ostr (sf k).q (sf k).s + 2) := by show _ = _; rw [Sub.body, hp]; simp [Int.add_comm]
        rw [hp] at y0
        clear hp
        go_wp2_with fail
        refine (optStr_any _ _ B _ HQ.out).mono ?_
        rintro e w' ⟨rfl, rfl⟩
        go_wp2_with fail
        refine (field_any _ (sf k).body (by rw [HB.out, Pl.w_add_num]) _).mono ?_
        rintro e w' ⟨rfl, rfl⟩
        go_wp2
        refine ⟨⟨k + 1, by omega, by go_num, ?_⟩, by simp [intOf]; omega⟩
        rw [Pl.w_add, Pl.ssum_succ]
    obtain rfl : sn = k := by omega
    go_wp2
    go_ret
    exact ⟨rfl, rfl⟩
  · obtain rfl : sn = 0 := by omega
    clear hr
    have HZ : Hid (0 = Pl.w (Pl.ssum sf 0)) := by show _ = _; rw [Pl.ssum_zero]; exact Pl.w_zero
    go_enter Try.func11, Try.ntmps11
    go_wp2_with fail
    refine wp_loop_rounds 1 ?_
    rw [rounds_succ]
    go_wp2
    go_ret
    exact ⟨ret_int HZ.out, rfl⟩

theorem below_dN {B : Nat} {w w' : World} (h : Below B w w') (n : Nat) : Below B w (w'.drewN n) := below_drewN h n

theorem val_w {a b : Int} (h : a = b) : Value.int .i64 (Pl.w a) = Value.int .i64 (Pl.w b) := by rw [h]
theorem w_bk (a t : Int) : wrap64 (Pl.w a + wrap64 (1 + t)) = Pl.w (a + (1 + t)) := by unfold Pl.w wrap64; omega

set_option maxRecDepth 100000 in
set_option maxHeartbeats 4000000 in
theorem ctlBody_any (b o : Nat) (x : Ctl) (w : World) (hb : b < w.heap.size) (hc : ∀ j, j < 5 → w.cell? ⟨b, o + j, none⟩ = some (x.cell j)) (hx : x.In w w.heap.size) :
    Calls Try.prog 19 #[.pointer (some ⟨b, o, none⟩)] w fun e w' => e = .returned (.int .i64 (Pl.w x.body)) ∧ Below w.heap.size w w' := by
  have m0 := hx.hr.1
  have m1 := hx.ir.1
  have m2 := hx.gr.1
  have m3 := hx.pr.1
  have m4 := hx.dr.1
  unfold maxLen at m0 m1 m2 m3 m4
  have HX : Hid (x.In w w.heap.size) := hx
  have HC : Hid (∀ j, j < 5 → w.cell? ⟨b, o + j, none⟩ = some (x.cell j)) := hc
  clear hx hc
  go_enter Try.func19, Try.ntmps19
  have d0 : w.cell? ⟨b, o, none⟩ = some (.slice x.h.a x.h.n x.h.c) := HC.out 0 (by omega)
  go_wp2_with fail
  clear d0
  go_loopw [3, 4, 17] (fun s _ i wr => ∃ k : Nat, k ≤ x.h.n ∧ i = .int .i64 k ∧ s = .int .i64 (Pl.w (0 + x.hsum k)) ∧ Hid (Below w.heap.size w wr)) (fun _ _ i _ => x.h.n - (intOf i).toNat)
  case atStart => exact ⟨0, Nat.zero_le _, rfl, by rw [Ctl.hsum_zero, Int.add_zero, ← Pl.w_zero], Below.refl _ _⟩
  case round =>
  obtain ⟨k, hk, rfl, rfl, HBR⟩ := hrel
  by_cases hlt : k < x.h.n
  case pos =>
    obtain ⟨rb, ro, ha, hrb, hrc⟩ := HX.out.hr.2 (by omega)
    have HRC : Hid _ := hrc
    have q0 : wr.cell? ⟨b, o, none⟩ = some (.slice (some ⟨rb, ro, none⟩) x.h.n x.h.c) := by rw [← ha]; exact (HBR.out.cell hb).trans (HC.out 0 (by omega))
    clear ha hrc
    have hlk : (k : Int) < (x.h.n : Int) := by omega
    have y0 : wr.cell? ⟨rb, ro + k * 2, none⟩ = some (.pointer (x.h.f k).q) := (HBR.out.cell hrb).trans (HRC.out k 0 hlt (by omega))
    have y1 : wr.cell? ⟨rb, ro + k * 2 + 1, none⟩ = some (.slice (x.h.f k).m.a (x.h.f k).m.n (x.h.f k).m.c) := (HBR.out.cell hrb).trans (HRC.out k 1 hlt (by omega))
    have f1 : Hid (∀ n, Calls Try.prog 20 #[.pointer (x.h.f k).q] (wr.drewN n) fun e w' => e = .returned (.int .i64 (Pl.w (Pl.ostr (x.h.f k).q (x.h.f k).s))) ∧ w' = wr.drewN n) := fun n => optStr_any _ _ _ _ ((HX.out.he k hlt).below (below_dN HBR.out n)).1
    have f2 : Hid (∀ n, Calls Try.prog 27 #[.slice (x.h.f k).m.a (x.h.f k).m.n (x.h.f k).m.c] (wr.drewN n) fun e w' => e = .returned (.int .i64 (Pl.w (x.h.f k).m.size)) ∧ w' = wr.drewN n) := fun n => idsLen_any _ _ _ ((HX.out.he k hlt).below (below_dN HBR.out n)).2
    have f3 : Hid (∀ w, Calls Try.prog 17 #[.int .i64 (IntKind.i64.wrap (Pl.w (Pl.ostr (x.h.f k).q (x.h.f k).s) + Pl.w (x.h.f k).m.size))] w fun e w' => e = .returned (.int .i64 (Pl.w (Pl.field (x.h.f k).body))) ∧ w' = w) := field_any _ _ (by rw [wrapEq, Pl.w_add]; rfl)
    go_wp2_with fail
    go_quiet (first | (go_at_call 20; exact Calls.quiet_of_same (f1.out _)) | (go_at_call 27; exact Calls.quiet_of_same (f2.out _)) | (go_at_call 17; exact Calls.quiet_of_same (f3.out _)))
    go_wp2
    refine ⟨⟨k + 1, by omega, by go_num, ?_, below_dN HBR.out _⟩, by simp [intOf]; omega⟩
    simp only [wrapEq, Pl.w_add, Ctl.hsum_succ]
    exact val_w (by omega)
  obtain rfl : x.h.n = k := by omega
  clear hlt hk
  obtain ⟨w1, rfl⟩ : ∃ w1, w1 = wr := ⟨_, rfl⟩
  have HB1 : Hid (Below w.heap.size w w1) := HBR
  clear HBR
  have d1 : w1.cell? ⟨b, o + 1, none⟩ = some (.slice x.i.a x.i.n x.i.c) := (HB1.out.cell hb).trans (HC.out 1 (by omega))
  go_wp2_with fail
  clear d1
  go_loopw [3, 5, 48] (fun s _ i wr => ∃ k : Nat, k ≤ x.i.n ∧ i = .int .i64 k ∧ s = .int .i64 (Pl.w (0 + x.hsum x.h.n + x.isum k)) ∧ Hid (Below w.heap.size w wr)) (fun _ _ i _ => x.i.n - (intOf i).toNat)
  case atStart => exact ⟨0, Nat.zero_le _, rfl, val_w (by rw [Ctl.isum_zero]; omega), HB1.out⟩
  case round =>
  obtain ⟨k, hk, rfl, rfl, HBR⟩ := hrel
  by_cases hlt : k < x.i.n
  case pos =>
    obtain ⟨rb, ro, ha, hrb, hrc⟩ := HX.out.ir.2 (by omega)
    have HRC : Hid _ := hrc
    have q0 : wr.cell? ⟨b, o + 1, none⟩ = some (.slice (some ⟨rb, ro, none⟩) x.i.n x.i.c) := by rw [← ha]; exact (HBR.out.cell hb).trans (HC.out 1 (by omega))
    clear ha hrc
    have y0 : wr.cell? ⟨rb, ro + k, none⟩ = some (.slice (x.i.f k).a (x.i.f k).n (x.i.f k).c) := by simpa [Ids.val] using (HBR.out.cell hrb).trans (HRC.out k 0 hlt (by omega))
    go_wp2_with fail
    refine (idsLen_any (x.i.f k) _ _ ((HX.out.ie k hlt).below HBR.out)).mono ?_
    rintro e w' ⟨rfl, rfl⟩
    go_wp2_with fail
    refine (field_any _ _ rfl _).mono ?_
    rintro e w' ⟨rfl, rfl⟩
    go_wp2
    refine ⟨⟨k + 1, by omega, by go_num, ?_, HBR⟩, by simp [intOf]; omega⟩
    simp only [Pl.w_add, Ctl.isum_succ]
    exact val_w (by omega)
  obtain rfl : x.i.n = k := by omega
  clear hlt hk
  obtain ⟨w2, rfl⟩ : ∃ w2, w2 = wr := ⟨_, rfl⟩
  have HB2 : Hid (Below w.heap.size w w2) := HBR
  clear HBR
  have d2 : w2.cell? ⟨b, o + 2, none⟩ = some (.slice x.g.a x.g.n x.g.c) := (HB2.out.cell hb).trans (HC.out 2 (by omega))
  go_wp2_with fail
  clear d2
  go_loopw [3, 6, 69] (fun s _ i wr => ∃ k : Nat, k ≤ x.g.n ∧ i = .int .i64 k ∧ s = .int .i64 (Pl.w (0 + x.hsum x.h.n + x.isum x.i.n + x.gsum k)) ∧ Hid (Below w.heap.size w wr)) (fun _ _ i _ => x.g.n - (intOf i).toNat)
  case atStart => exact ⟨0, Nat.zero_le _, rfl, val_w (by rw [Ctl.gsum_zero]; omega), HB2.out⟩
  case round =>
  obtain ⟨k, hk, rfl, rfl, HBR⟩ := hrel
  by_cases hlt : k < x.g.n
  case pos =>
    obtain ⟨rb, ro, ha, hrb, hrc⟩ := HX.out.gr.2 (by omega)
    have HRC : Hid _ := hrc
    have q0 : wr.cell? ⟨b, o + 2, none⟩ = some (.slice (some ⟨rb, ro, none⟩) x.g.n x.g.c) := by rw [← ha]; exact (HBR.out.cell hb).trans (HC.out 2 (by omega))
    clear ha hrc
    have y0 : wr.cell? ⟨rb, ro + k, none⟩ = some (.pointer (x.g.f k).q) := by simpa [Ids.val] using (HBR.out.cell hrb).trans (HRC.out k 0 hlt (by omega))
    go_wp2_with fail
    refine (optStr_any _ (x.g.f k).s _ _ ((HX.out.ge k hlt).below HBR.out)).mono ?_
    rintro e w' ⟨rfl, rfl⟩
    go_wp2_with fail
    refine (field_any _ _ rfl _).mono ?_
    rintro e w' ⟨rfl, rfl⟩
    go_wp2
    refine ⟨⟨k + 1, by omega, by go_num, ?_, HBR⟩, by simp [intOf]; omega⟩
    simp only [Pl.w_add, Ctl.gsum_succ]
    exact val_w (by omega)
  obtain rfl : x.g.n = k := by omega
  clear hlt hk
  obtain ⟨w3, rfl⟩ : ∃ w3, w3 = wr := ⟨_, rfl⟩
  have HB3 : Hid (Below w.heap.size w w3) := HBR
  clear HBR
  have d3 : w3.cell? ⟨b, o + 3, none⟩ = some (.slice x.p.a x.p.n x.p.c) := (HB3.out.cell hb).trans (HC.out 3 (by omega))
  go_wp2_with fail
  clear d3
  go_loopw [3, 7, 8, 9, 10, 90] (fun s _ _ _ _ i wr => ∃ k : Nat, k ≤ x.p.n ∧ i = .int .i64 k ∧ s = .int .i64 (Pl.w (0 + x.hsum x.h.n + x.isum x.i.n + x.gsum x.g.n + x.psum k)) ∧ Hid (Below w.heap.size w wr)) (fun _ _ _ _ _ i _ => x.p.n - (intOf i).toNat)
  case atStart => exact ⟨0, Nat.zero_le _, rfl, val_w (by rw [Ctl.psum_zero]; omega), HB3.out⟩
  case round =>
  obtain ⟨k, hk, rfl, rfl, HBR⟩ := hrel
  by_cases hlt : k < x.p.n
  case pos =>
    obtain ⟨rb, ro, ha, hrb, hrc⟩ := HX.out.pr.2 (by omega)
    have HRC : Hid _ := hrc
    have q0 : wr.cell? ⟨b, o + 3, none⟩ = some (.slice (some ⟨rb, ro, none⟩) x.p.n x.p.c) := by rw [← ha]; exact (HBR.out.cell hb).trans (HC.out 3 (by omega))
    clear ha hrc
    obtain ⟨wo, rfl⟩ : ∃ wo : World, wo = wr := ⟨_, rfl⟩
    have hws : w.heap.size ≤ wo.heap.size := HBR.out.size
    have HP : Hid ((x.p.f k).In wo w.heap.size) := (HX.out.pe k hlt).below HBR.out
    have mp := HP.out.2.1.1
    unfold maxLen at mp
    have y0 : wo.cell? ⟨rb, ro + k * 3, none⟩ = some (.pointer (x.p.f k).q) := (HBR.out.cell hrb).trans (HRC.out k 0 hlt (by omega))
    have y1 : wo.cell? ⟨rb, ro + k * 3 + 1, none⟩ = some (.slice (x.p.f k).pa (x.p.f k).pn (x.p.f k).pc) := (HBR.out.cell hrb).trans (HRC.out k 1 hlt (by omega))
    have y2 : wo.cell? ⟨rb, ro + k * 3 + 2, none⟩ = some (.pointer (x.p.f k).k) := (HBR.out.cell hrb).trans (HRC.out k 2 hlt (by omega))
    go_wp2_with fail
    clear y0 y1 y2 q0
    generalize hW1 : wo.alloc (Obj.cells #[.pointer (x.p.f k).q, .slice (x.p.f k).pa (x.p.f k).pn (x.p.f k).pc, .pointer (x.p.f k).k] 56) = W1
    have HW1 : Hid (Below wo.heap.size wo W1) := by rw [← hW1]; exact (Below.refl _ _).alloc (Nat.le_refl _) _
    have HP1 : Hid (W1.heap[wo.heap.size]? = some (.cells #[.pointer (x.p.f k).q, .slice (x.p.f k).pa (x.p.f k).pn (x.p.f k).pc, .pointer (x.p.f k).k] 56 (0, 0))) := by rw [← hW1]; exact heap_alloc_new _ _
    clear hW1
    have hw1 : wo.heap.size < W1.heap.size := (Array.getElem?_eq_some_iff.1 HP1.out).1
    refine (optStr_any _ (x.p.f k).s w.heap.size _ (HP.out.1.below (HW1.out.mono hws))).mono ?_
    rintro e w' ⟨rfl, hww⟩
    obtain rfl : W1 = w' := hww.symm
    have z1 : W1.cell? ⟨wo.heap.size, 1, none⟩ = some (.slice (x.p.f k).pa (x.p.f k).pn (x.p.f k).pc) := by simp [World.cell?, HP1.out]
    go_wp2_with fail
    clear z1
    go_loopw [9, 10, 106] (fun s _ i wr => ∃ t : Nat, t ≤ (x.p.f k).pn ∧ i = .int .i64 t ∧ s = .int .i64 (Pl.w (Pl.ostr (x.p.f k).q (x.p.f k).s + (x.p.f k).peers t)) ∧ Hid (Below W1.heap.size W1 wr)) (fun _ _ i _ => (x.p.f k).pn - (intOf i).toNat)
    case atStart => exact ⟨0, Nat.zero_le _, rfl, by rw [Pr.peers_zero, Int.add_zero], Below.refl _ _⟩
    case round =>
    obtain ⟨t, ht, rfl, rfl, HBT⟩ := hrel
    have HBO : Hid (Below w.heap.size wo wr) := (HW1.out.mono hws).trans (HBT.out.mono (Nat.le_trans hws (Nat.le_of_lt hw1)))
    by_cases hlt2 : t < (x.p.f k).pn
    case pos =>
      obtain ⟨pb, po, hpa, hpb, hpc⟩ := HP.out.2.1.2 (by omega)
      have q1 : wr.cell? ⟨wo.heap.size, 1, none⟩ = some (.slice (some ⟨pb, po, none⟩) (x.p.f k).pn (x.p.f k).pc) := by rw [← hpa]; exact (HBT.out.cell (p := ⟨wo.heap.size, 1, none⟩) hw1).trans (by simp [World.cell?, HP1.out])
      have y0 : wr.cell? ⟨pb, po + t * 2, none⟩ = some (.slice ((x.p.f k).ps t).p.a ((x.p.f k).ps t).p.n ((x.p.f k).ps t).p.c) := (HBO.out.cell hpb).trans (hpc t 0 hlt2 (by omega))
      have y1 : wr.cell? ⟨pb, po + t * 2 + 1, none⟩ = some (.slice ((x.p.f k).ps t).r.a ((x.p.f k).ps t).r.n ((x.p.f k).ps t).r.c) := (HBO.out.cell hpb).trans (hpc t 1 hlt2 (by omega))
      clear hpa hpc
      have hlk : (t : Int) < ((x.p.f k).pn : Int) := by omega
      have f1 : Hid (∀ w, Calls Try.prog 26 #[.slice ((x.p.f k).ps t).p.a ((x.p.f k).ps t).p.n ((x.p.f k).ps t).p.c] w fun e w' => e = .returned (.int .i64 (Pl.w (Pl.obs ((x.p.f k).ps t).p))) ∧ w' = w) := optBytes_any _ (HP.out.2.2.1 t hlt2).1
      have f2 : Hid (∀ w, Calls Try.prog 26 #[.slice ((x.p.f k).ps t).r.a ((x.p.f k).ps t).r.n ((x.p.f k).ps t).r.c] w fun e w' => e = .returned (.int .i64 (Pl.w (Pl.obs ((x.p.f k).ps t).r))) ∧ w' = w) := optBytes_any _ (HP.out.2.2.1 t hlt2).2
      have f3 : Hid (∀ w, Calls Try.prog 17 #[.int .i64 (IntKind.i64.wrap (Pl.w (Pl.obs ((x.p.f k).ps t).p) + Pl.w (Pl.obs ((x.p.f k).ps t).r)))] w fun e w' => e = .returned (.int .i64 (Pl.w (Pl.field ((x.p.f k).ps t).body))) ∧ w' = w) := field_any _ _ (by rw [wrapEq, Pl.w_add]; rfl)
      go_wp2_with fail
      go_quiet (first | (go_at_call_of 26 (((x.p.f k).ps t).p.n); exact Calls.quiet_of_same (f1.out _)) | (go_at_call_of 26 (((x.p.f k).ps t).r.n); exact Calls.quiet_of_same (f2.out _)) | (go_at_call 17; exact Calls.quiet_of_same (f3.out _)))
      go_wp2
      refine ⟨⟨t + 1, by omega, by go_num, ?_, below_dN HBT.out _⟩, by simp [intOf]; omega⟩
      simp only [wrapEq, Pl.w_add, Pr.peers_succ]
      exact val_w (by omega)
    obtain rfl : (x.p.f k).pn = t := by omega
    clear hlt2 ht
    have z2 : wr.cell? ⟨wo.heap.size, 2, none⟩ = some (.pointer (x.p.f k).k) := (HBT.out.cell (p := ⟨wo.heap.size, 2, none⟩) hw1).trans (by simp [World.cell?, HP1.out])
    have HBE : Hid (Below w.heap.size w wr) := HBR.out.trans HBO.out
    cases hpk : (x.p.f k).k with
    | none =>
      have HBD : Hid ((x.p.f k).body = Pl.ostr (x.p.f k).q (x.p.f k).s + (x.p.f k).peers (x.p.f k).pn) := by show _ = _; rw [Pr.body, hpk]; simp
      rw [hpk] at z2
      clear hpk
      go_wp2_with fail
      refine (field_any _ (x.p.f k).body (by rw [HBD.out]) _).mono ?_
      rintro e w' ⟨rfl, rfl⟩
      go_wp2
      refine ⟨⟨k + 1, by omega, by go_num, ?_, HBE⟩, by simp [intOf]; omega⟩
      simp only [Pl.w_add, Ctl.psum_succ]
      exact val_w (by omega)
    | some ka =>
      have HBD : Hid ((x.p.f k).body = Pl.ostr (x.p.f k).q (x.p.f k).s + (x.p.f k).peers (x.p.f k).pn + (1 + Pl.vl (x.p.f k).v)) := by show _ = _; rw [Pr.body, hpk]; simp
      rw [hpk] at z2
      obtain ⟨kb, kc, kv0, kv1⟩ := HP.out.2.2.2 ka hpk
      have z3 : wr.cell? ka = some (.int .u64 (x.p.f k).v) := (HBO.out.cell kb).trans kc
      have HKV : Hid (0 ≤ (x.p.f k).v ∧ (x.p.f k).v < 18446744073709551616) := ⟨kv0, kv1⟩
      obtain ⟨tv, htv⟩ : ∃ tv, tv = Pl.vl (x.p.f k).v := ⟨_, rfl⟩
      have HV : Hid (∀ w, Calls Try.prog 25 #[.int .u64 (x.p.f k).v] w fun e w' => e = .returned (.int .i64 tv) ∧ w' = w) := by rw [htv]; exact varLen_any _ kv0 kv1
      have HTV : Hid (tv = Pl.vl (x.p.f k).v) := htv
      clear hpk kb kc kv0 kv1 htv
      go_wp2_with fail
      refine (HV.out _).mono ?_
      rintro e w' ⟨rfl, rfl⟩
      go_wp2_with fail
      refine (field_any _ (x.p.f k).body (by rw [HBD.out, ← HTV.out]; exact w_bk _ _) _).mono ?_
      rintro e w' ⟨rfl, rfl⟩
      go_wp2
      refine ⟨⟨k + 1, by omega, by go_num, ?_, HBE⟩, by simp [intOf]; omega⟩
      simp only [Pl.w_add, Ctl.psum_succ]
      exact val_w (by omega)
  obtain rfl : x.p.n = k := by omega
  clear hlt hk
  obtain ⟨w4, rfl⟩ : ∃ w4, w4 = wr := ⟨_, rfl⟩
  have HB4 : Hid (Below w.heap.size w w4) := HBR
  clear HBR
  have d4 : w4.cell? ⟨b, o + 4, none⟩ = some (.slice x.d.a x.d.n x.d.c) := (HB4.out.cell hb).trans (HC.out 4 (by omega))
  go_wp2_with fail
  clear d4
  go_loopw [3, 11, 149] (fun s _ i wr => ∃ k : Nat, k ≤ x.d.n ∧ i = .int .i64 k ∧ s = .int .i64 (Pl.w (0 + x.hsum x.h.n + x.isum x.i.n + x.gsum x.g.n + x.psum x.p.n + x.dsum k)) ∧ Hid (Below w.heap.size w wr)) (fun _ _ i _ => x.d.n - (intOf i).toNat)
  case atStart => exact ⟨0, Nat.zero_le _, rfl, val_w (by rw [Ctl.dsum_zero]; omega), HB4.out⟩
  case round =>
  obtain ⟨k, hk, rfl, rfl, HBR⟩ := hrel
  by_cases hlt : k < x.d.n
  case pos =>
    obtain ⟨rb, ro, ha, hrb, hrc⟩ := HX.out.dr.2 (by omega)
    have HRC : Hid _ := hrc
    have q0 : wr.cell? ⟨b, o + 4, none⟩ = some (.slice (some ⟨rb, ro, none⟩) x.d.n x.d.c) := by rw [← ha]; exact (HBR.out.cell hb).trans (HC.out 4 (by omega))
    clear ha hrc
    have y0 : wr.cell? ⟨rb, ro + k, none⟩ = some (.slice (x.d.f k).a (x.d.f k).n (x.d.f k).c) := by simpa [Ids.val] using (HBR.out.cell hrb).trans (HRC.out k 0 hlt (by omega))
    go_wp2_with fail
    refine (idsLen_any (x.d.f k) _ _ ((HX.out.de k hlt).below HBR.out)).mono ?_
    rintro e w' ⟨rfl, rfl⟩
    go_wp2_with fail
    refine (field_any _ _ rfl _).mono ?_
    rintro e w' ⟨rfl, rfl⟩
    go_wp2
    refine ⟨⟨k + 1, by omega, by go_num, ?_, HBR⟩, by simp [intOf]; omega⟩
    simp only [Pl.w_add, Ctl.dsum_succ]
    exact val_w (by omega)
  obtain rfl : x.d.n = k := by omega
  clear hlt hk
  obtain ⟨w5, rfl⟩ : ∃ w5, w5 = wr := ⟨_, rfl⟩
  have HB5 : Hid (Below w.heap.size w w5) := HBR
  clear HBR
  go_wp2
  go_ret
  exact ⟨by rw [Ctl.body]; exact congrArg Ending.returned (val_w (by omega)), HB5.out⟩

end Go.Proofs.Qxb6616574a
