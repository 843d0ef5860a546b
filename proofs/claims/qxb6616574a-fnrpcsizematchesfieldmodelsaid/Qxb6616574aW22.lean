import Derived.Test.Qxb6616574aW20
import Derived.Deep.DeepCutAuto
namespace Go.Proofs.Qxb6616574a
open Go.RowKit

set_option maxRecDepth 100000 in
set_option maxHeartbeats 8000000 in
theorem bytes5_ctl (sa : Option Addr) (sn sc : Nat) (sf : Nat → Sub) (ma : Option Addr) (mn mc : Nat) (P : Nat → Option Addr) (mf : Nat → Msg) (cb co : Nat) (y : Ctl) (B : Nat) (w : World)
    (hsr : RowAt w B sa sn 2 (fun i j => (sf i).cell j)) (hse : ∀ i, i < sn → (sf i).In w B) (hmr : RowAt w B ma mn 1 (fun i _ => .pointer (P i))) (hme : PubIn w B P mf mn) (hcc : ∀ j, j < 5 → w.cell? ⟨cb, co + j, none⟩ = some (y.cell j)) (hy : y.In w B) :
    Calls Try.prog 5 #[.slice sa sn sc, .slice ma mn mc, .pointer (some ⟨cb, co, none⟩)] w (BytesPost w (sn ≤ 1048576 ∧ mn ≤ 1048576 ∧ y.Small)) := by
  have hm0 := hsr.1
  have hm1 := hmr.1
  unfold maxLen at hm0 hm1
  have HSR : Hid (RowAt w B sa sn 2 (fun i j => (sf i).cell j)) := hsr
  have HSE : Hid (∀ i, i < sn → (sf i).In w B) := hse
  have HMR : Hid (RowAt w B ma mn 1 (fun i _ => .pointer (P i))) := hmr
  have HME : Hid (PubIn w B P mf mn) := hme
  clear hsr hse hmr hme
  have HCC : Hid (∀ j, j < 5 → w.cell? ⟨cb, co + j, none⟩ = some (y.cell j)) := hcc
  have HY : Hid (y.In w B) := hy
  clear hcc hy
  go_enter Try.func5, Try.ntmps5
  go_wp2_with fail
  any_goals (go_ret; exact ⟨false, rfl, rfl, fun h => absurd h (by decide)⟩)
  go_loop [7, 8] (fun s i => ∃ (k : Nat) (z : Int), k ≤ sn ∧ i = .int .i64 k ∧ s = .int .i64 z) (fun _ i => sn - (intOf i).toNat)
  case atStart => exact ⟨0, _, Nat.zero_le _, rfl, rfl⟩
  case round =>
  obtain ⟨k, z, hk, rfl, rfl⟩ := hrel
  by_cases hlt : k < sn
  case pos =>
    as_aux_lemma =>
    obtain ⟨rb, ro, ha, hrb, hrc⟩ := HSR.out.2 (by omega)
    have HRC : Hid _ := hrc
    clear hrc
    subst ha
    have y1 : w.cell? ⟨rb, ro + k * 2 + 1, none⟩ = some (.pointer (sf k).q) := HRC.out k 1 hlt (by omega)
    have HQ : Hid (StrIn w B (sf k).q (sf k).s) := (HSE.out k hlt).2
    cases hq : (sf k).q with
    | none =>
      rw [hq] at y1
      clear hq
      go_wp2_with fail
      exact ⟨⟨k + 1, _, by omega, by go_num, rfl⟩, by simp [intOf]; omega⟩
    | some qa =>
      rw [hq] at y1
      have y2 := (HQ.out qa hq).2.1
      clear hq
      go_wp2_with fail
      any_goals (go_ret; exact ⟨false, rfl, rfl, fun h => absurd h (by decide)⟩)
      exact ⟨⟨k + 1, _, by omega, by go_num, rfl⟩, by simp [intOf]; omega⟩
  obtain rfl : sn = k := by omega
  clear hlt hk
  go_wp2_with fail
  any_goals (go_ret; exact ⟨false, rfl, rfl, fun h => absurd h (by decide)⟩)
  go_loop [7, 9] (fun s i => ∃ (k : Nat) (z : Int), k ≤ mn ∧ i = .int .i64 k ∧ s = .int .i64 z) (fun _ i => mn - (intOf i).toNat)
  case atStart => exact ⟨0, _, Nat.zero_le _, rfl, rfl⟩
  case round =>
  obtain ⟨k, z, hk, rfl, rfl⟩ := hrel
  by_cases hlt : k < mn
  case pos =>
    as_aux_lemma =>
    obtain ⟨rb, ro, ha, hrb, hrc⟩ := HMR.out.2 (by omega)
    have y1 : w.cell? ⟨rb, ro + k, none⟩ = some (.pointer (P k)) := by simpa using hrc k 0 hlt (by omega)
    clear hrc
    subst ha
    cases hq : P k with
    | none =>
      rw [hq] at y1
      clear hq
      go_wp2_with fail
      exact ⟨⟨k + 1, _, by omega, by go_num, rfl⟩, by simp [intOf]; omega⟩
    | some qa =>
      rw [hq] at y1
      obtain ⟨mb, mo, rfl, _, hc, _⟩ := HME.out k hlt qa hq
      have z0 : w.cell? ⟨mb, mo, none⟩ = some (.slice (mf k).f.a (mf k).f.n (mf k).f.c) := hc 0 (by omega)
      have z1 : w.cell? ⟨mb, mo + 1, none⟩ = some (.slice (mf k).d.a (mf k).d.n (mf k).d.c) := hc 1 (by omega)
      have z2 : w.cell? ⟨mb, mo + 2, none⟩ = some (.slice (mf k).q.a (mf k).q.n (mf k).q.c) := hc 2 (by omega)
      have z3 : w.cell? ⟨mb, mo + 3, none⟩ = some (.string (mf k).t) := hc 3 (by omega)
      have z4 : w.cell? ⟨mb, mo + 4, none⟩ = some (.slice (mf k).g.a (mf k).g.n (mf k).g.c) := hc 4 (by omega)
      have z5 : w.cell? ⟨mb, mo + 5, none⟩ = some (.slice (mf k).k.a (mf k).k.n (mf k).k.c) := hc 5 (by omega)
      clear hq hc
      go_wp2_with fail
      any_goals (go_ret; exact ⟨false, rfl, rfl, fun h => absurd h (by decide)⟩)
      exact ⟨⟨k + 1, _, by omega, by go_num, rfl⟩, by simp [intOf]; omega⟩
  obtain rfl : mn = k := by omega
  clear hlt hk
  as_aux_lemma =>
  have d0 : w.cell? ⟨cb, co, none⟩ = some (.slice y.h.a y.h.n y.h.c) := HCC.out 0 (by omega)
  have m0 := HY.out.hr.1
  unfold maxLen at m0
  go_wp2_with fail
  any_goals (go_ret; exact ⟨false, rfl, rfl, fun h => absurd h (by decide)⟩)
  clear d0
  go_loop [7, 10] (fun s i => ∃ (k : Nat) (z : Int), k ≤ y.h.n ∧ i = .int .i64 k ∧ s = .int .i64 z) (fun _ i => y.h.n - (intOf i).toNat)
  case atStart => exact ⟨0, _, Nat.zero_le _, rfl, rfl⟩
  case round =>
  obtain ⟨k, z, hk, rfl, rfl⟩ := hrel
  by_cases hlt : k < y.h.n
  case pos =>
    as_aux_lemma =>
    obtain ⟨rb, ro, ha, hrb, hrc⟩ := HY.out.hr.2 (by omega)
    have q0 : w.cell? ⟨cb, co, none⟩ = some (.slice (some ⟨rb, ro, none⟩) y.h.n y.h.c) := by rw [← ha]; exact HCC.out 0 (by omega)
    have HRC : Hid _ := hrc
    clear ha hrc
    have HI : Hid ((y.h.f k).In w B) := HY.out.he k hlt
    have HIM : Hid ((y.h.f k).m.In w B) := HI.out.2
    have mi := HIM.out.1.1
    unfold maxLen at mi
    have c0 : w.cell? ⟨rb, ro + k * 2, none⟩ = some (.pointer (y.h.f k).q) := HRC.out k 0 hlt (by omega)
    have HA : Hid (w.cell? ⟨rb, ro + k * 2 + 1, none⟩ = some (.slice (y.h.f k).m.a (y.h.f k).m.n (y.h.f k).m.c)) := HRC.out k 1 hlt (by omega)
    have c1 := HA.out
    cases hq : (y.h.f k).q with
    | none =>
      as_aux_lemma =>
      rw [hq] at c0
      clear hq
      go_wp2_with fail
      any_goals (go_ret; exact ⟨false, rfl, rfl, fun h => absurd h (by decide)⟩)
      clear c1
      go_loop [7, 11] (fun s i => ∃ (t : Nat) (z : Int), t ≤ (y.h.f k).m.n ∧ i = .int .i64 t ∧ s = .int .i64 z) (fun _ i => (y.h.f k).m.n - (intOf i).toNat)
      case atStart => exact ⟨0, _, Nat.zero_le _, rfl, rfl⟩
      case round =>
      obtain ⟨t, z2, ht, rfl, rfl⟩ := hrel
      by_cases hlt2 : t < (y.h.f k).m.n
      case pos =>
        obtain ⟨ib, io, hia, hib, hic⟩ := HIM.out.1.2 (by omega)
        have c1' : w.cell? ⟨rb, ro + k * 2 + 1, none⟩ = some (.slice (some ⟨ib, io, none⟩) (y.h.f k).m.n (y.h.f k).m.c) := by rw [← hia]; exact HA.out
        have e0 : w.cell? ⟨ib, io + t, none⟩ = some (.slice ((y.h.f k).m.f t).a ((y.h.f k).m.f t).n ((y.h.f k).m.f t).c) := by simpa [Bs.val] using hic t 0 hlt2 (by omega)
        clear hia hic
        go_wp2_with fail
        any_goals (go_ret; exact ⟨false, rfl, rfl, fun h => absurd h (by decide)⟩)
        exact ⟨⟨t + 1, _, by omega, by go_num, rfl⟩, by simp [intOf]; omega⟩
      obtain rfl : (y.h.f k).m.n = t := by omega
      clear hlt2 ht
      have c1 : w.cell? ⟨rb, ro + k * 2 + 1, none⟩ = some (.slice (y.h.f k).m.a (y.h.f k).m.n (y.h.f k).m.c) := HA.out
      go_wp2_with fail
      exact ⟨⟨k + 1, _, by omega, by go_num, rfl⟩, by simp [intOf]; omega⟩
    | some qa =>
      as_aux_lemma =>
      rw [hq] at c0
      have c2 := (HI.out.1 qa hq).2.1
      clear hq
      go_wp2_with fail
      any_goals (go_ret; exact ⟨false, rfl, rfl, fun h => absurd h (by decide)⟩)
      clear c1
      go_loop [7, 11] (fun s i => ∃ (t : Nat) (z : Int), t ≤ (y.h.f k).m.n ∧ i = .int .i64 t ∧ s = .int .i64 z) (fun _ i => (y.h.f k).m.n - (intOf i).toNat)
      case atStart => exact ⟨0, _, Nat.zero_le _, rfl, rfl⟩
      case round =>
      obtain ⟨t, z2, ht, rfl, rfl⟩ := hrel
      by_cases hlt2 : t < (y.h.f k).m.n
      case pos =>
        obtain ⟨ib, io, hia, hib, hic⟩ := HIM.out.1.2 (by omega)
        have c1' : w.cell? ⟨rb, ro + k * 2 + 1, none⟩ = some (.slice (some ⟨ib, io, none⟩) (y.h.f k).m.n (y.h.f k).m.c) := by rw [← hia]; exact HA.out
        have e0 : w.cell? ⟨ib, io + t, none⟩ = some (.slice ((y.h.f k).m.f t).a ((y.h.f k).m.f t).n ((y.h.f k).m.f t).c) := by simpa [Bs.val] using hic t 0 hlt2 (by omega)
        clear hia hic
        go_wp2_with fail
        any_goals (go_ret; exact ⟨false, rfl, rfl, fun h => absurd h (by decide)⟩)
        exact ⟨⟨t + 1, _, by omega, by go_num, rfl⟩, by simp [intOf]; omega⟩
      obtain rfl : (y.h.f k).m.n = t := by omega
      clear hlt2 ht
      have c1 : w.cell? ⟨rb, ro + k * 2 + 1, none⟩ = some (.slice (y.h.f k).m.a (y.h.f k).m.n (y.h.f k).m.c) := HA.out
      go_wp2_with fail
      exact ⟨⟨k + 1, _, by omega, by go_num, rfl⟩, by simp [intOf]; omega⟩
  obtain rfl : y.h.n = k := by omega
  clear hlt hk
  as_aux_lemma =>
  have d0 : w.cell? ⟨cb, co, none⟩ = some (.slice y.h.a y.h.n y.h.c) := HCC.out 0 (by omega)
  have d1 : w.cell? ⟨cb, co + 1, none⟩ = some (.slice y.i.a y.i.n y.i.c) := HCC.out 1 (by omega)
  have m1 := HY.out.ir.1
  unfold maxLen at m1
  go_wp2_with fail
  any_goals (go_ret; exact ⟨false, rfl, rfl, fun h => absurd h (by decide)⟩)
  clear d0 d1
  go_loop [7, 12] (fun s i => ∃ (k : Nat) (z : Int), k ≤ y.i.n ∧ i = .int .i64 k ∧ s = .int .i64 z) (fun _ i => y.i.n - (intOf i).toNat)
  case atStart => exact ⟨0, _, Nat.zero_le _, rfl, rfl⟩
  case round =>
  obtain ⟨k, z, hk, rfl, rfl⟩ := hrel
  by_cases hlt : k < y.i.n
  case pos =>
    as_aux_lemma =>
    obtain ⟨rb, ro, ha, hrb, hrc⟩ := HY.out.ir.2 (by omega)
    have q0 : w.cell? ⟨cb, co + 1, none⟩ = some (.slice (some ⟨rb, ro, none⟩) y.i.n y.i.c) := by rw [← ha]; exact HCC.out 1 (by omega)
    have HRC : Hid _ := hrc
    clear ha hrc
    have HI : Hid ((y.i.f k).In w B) := HY.out.ie k hlt
    have mi := HI.out.1.1
    unfold maxLen at mi
    have c1 : w.cell? ⟨rb, ro + k, none⟩ = some (.slice (y.i.f k).a (y.i.f k).n (y.i.f k).c) := by simpa [Ids.val] using HRC.out k 0 hlt (by omega)
    have HA : Hid (w.cell? ⟨rb, ro + k, none⟩ = some (.slice (y.i.f k).a (y.i.f k).n (y.i.f k).c)) := c1
    go_wp2_with fail
    any_goals (go_ret; exact ⟨false, rfl, rfl, fun h => absurd h (by decide)⟩)
    clear c1
    go_loop [7, 13] (fun s i => ∃ (t : Nat) (z : Int), t ≤ (y.i.f k).n ∧ i = .int .i64 t ∧ s = .int .i64 z) (fun _ i => (y.i.f k).n - (intOf i).toNat)
    case atStart => exact ⟨0, _, Nat.zero_le _, rfl, rfl⟩
    case round =>
    obtain ⟨t, z2, ht, rfl, rfl⟩ := hrel
    by_cases hlt2 : t < (y.i.f k).n
    case pos =>
      obtain ⟨ib, io, hia, hib, hic⟩ := HI.out.1.2 (by omega)
      have c1' : w.cell? ⟨rb, ro + k, none⟩ = some (.slice (some ⟨ib, io, none⟩) (y.i.f k).n (y.i.f k).c) := by rw [← hia]; exact HA.out
      have e0 : w.cell? ⟨ib, io + t, none⟩ = some (.slice ((y.i.f k).f t).a ((y.i.f k).f t).n ((y.i.f k).f t).c) := by simpa [Bs.val] using hic t 0 hlt2 (by omega)
      clear hia hic
      go_wp2_with fail
      any_goals (go_ret; exact ⟨false, rfl, rfl, fun h => absurd h (by decide)⟩)
      exact ⟨⟨t + 1, _, by omega, by go_num, rfl⟩, by simp [intOf]; omega⟩
    obtain rfl : (y.i.f k).n = t := by omega
    clear hlt2 ht
    have c1 : w.cell? ⟨rb, ro + k, none⟩ = some (.slice (y.i.f k).a (y.i.f k).n (y.i.f k).c) := HA.out
    go_wp2_with fail
    exact ⟨⟨k + 1, _, by omega, by go_num, rfl⟩, by simp [intOf]; omega⟩
  obtain rfl : y.i.n = k := by omega
  clear hlt hk
  as_aux_lemma =>
  have d1 : w.cell? ⟨cb, co + 1, none⟩ = some (.slice y.i.a y.i.n y.i.c) := HCC.out 1 (by omega)
  have d2 : w.cell? ⟨cb, co + 2, none⟩ = some (.slice y.g.a y.g.n y.g.c) := HCC.out 2 (by omega)
  have m2 := HY.out.gr.1
  unfold maxLen at m2
  go_wp2_with fail
  any_goals (go_ret; exact ⟨false, rfl, rfl, fun h => absurd h (by decide)⟩)
  clear d1 d2
  go_loop [7, 14] (fun s i => ∃ (k : Nat) (z : Int), k ≤ y.g.n ∧ i = .int .i64 k ∧ s = .int .i64 z) (fun _ i => y.g.n - (intOf i).toNat)
  case atStart => exact ⟨0, _, Nat.zero_le _, rfl, rfl⟩
  case round =>
  obtain ⟨k, z, hk, rfl, rfl⟩ := hrel
  by_cases hlt : k < y.g.n
  case pos =>
    as_aux_lemma =>
    obtain ⟨rb, ro, ha, hrb, hrc⟩ := HY.out.gr.2 (by omega)
    have q0 : w.cell? ⟨cb, co + 2, none⟩ = some (.slice (some ⟨rb, ro, none⟩) y.g.n y.g.c) := by rw [← ha]; exact HCC.out 2 (by omega)
    have HRC : Hid _ := hrc
    clear ha hrc
    have HI : Hid (StrIn w B (y.g.f k).q (y.g.f k).s) := HY.out.ge k hlt
    have c1 : w.cell? ⟨rb, ro + k, none⟩ = some (.pointer (y.g.f k).q) := by simpa using HRC.out k 0 hlt (by omega)
    cases hq : (y.g.f k).q with
    | none =>
      rw [hq] at c1
      clear hq
      go_wp2_with fail
      exact ⟨⟨k + 1, _, by omega, by go_num, rfl⟩, by simp [intOf]; omega⟩
    | some qa =>
      rw [hq] at c1
      have c2 := (HI.out qa hq).2.1
      clear hq
      go_wp2_with fail
      any_goals (go_ret; exact ⟨false, rfl, rfl, fun h => absurd h (by decide)⟩)
      exact ⟨⟨k + 1, _, by omega, by go_num, rfl⟩, by simp [intOf]; omega⟩
  obtain rfl : y.g.n = k := by omega
  clear hlt hk
  as_aux_lemma =>
  have d2 : w.cell? ⟨cb, co + 2, none⟩ = some (.slice y.g.a y.g.n y.g.c) := HCC.out 2 (by omega)
  have d3 : w.cell? ⟨cb, co + 3, none⟩ = some (.slice y.p.a y.p.n y.p.c) := HCC.out 3 (by omega)
  have m3 := HY.out.pr.1
  unfold maxLen at m3
  go_wp2_with fail
  any_goals (go_ret; exact ⟨false, rfl, rfl, fun h => absurd h (by decide)⟩)
  clear d2 d3
  go_loop [7, 15] (fun s i => ∃ (k : Nat) (z : Int), k ≤ y.p.n ∧ i = .int .i64 k ∧ s = .int .i64 z ∧ Hid (∀ i, i < k → (y.p.f i).pn ≤ 1048576)) (fun _ i => y.p.n - (intOf i).toNat)
  case atStart => exact ⟨0, _, Nat.zero_le _, rfl, rfl, fun i hi => absurd hi (by omega)⟩
  case round =>
  obtain ⟨k, z, hk, rfl, rfl, HPN⟩ := hrel
  by_cases hlt : k < y.p.n
  case pos =>
    as_aux_lemma =>
    obtain ⟨rb, ro, ha, hrb, hrc⟩ := HY.out.pr.2 (by omega)
    have q0 : w.cell? ⟨cb, co + 3, none⟩ = some (.slice (some ⟨rb, ro, none⟩) y.p.n y.p.c) := by rw [← ha]; exact HCC.out 3 (by omega)
    have HRC : Hid _ := hrc
    clear ha hrc
    have HI : Hid ((y.p.f k).In w B) := HY.out.pe k hlt
    have mi := HI.out.2.1.1
    unfold maxLen at mi
    have c0 : w.cell? ⟨rb, ro + k * 3, none⟩ = some (.pointer (y.p.f k).q) := HRC.out k 0 hlt (by omega)
    have HA : Hid (w.cell? ⟨rb, ro + k * 3 + 1, none⟩ = some (.slice (y.p.f k).pa (y.p.f k).pn (y.p.f k).pc)) := HRC.out k 1 hlt (by omega)
    have c1 := HA.out
    cases hq : (y.p.f k).q with
    | none =>
      as_aux_lemma =>
      rw [hq] at c0
      clear hq
      go_wp2_with fail
      any_goals (go_ret; exact ⟨false, rfl, rfl, fun h => absurd h (by decide)⟩)
      clear c1
      have HPK : Hid ((y.p.f k).pn ≤ 1048576) := by show _ ≤ _; omega
      go_loop [7, 16] (fun s i => ∃ (t : Nat) (z : Int), t ≤ (y.p.f k).pn ∧ i = .int .i64 t ∧ s = .int .i64 z) (fun _ i => (y.p.f k).pn - (intOf i).toNat)
      case atStart => exact ⟨0, _, Nat.zero_le _, rfl, rfl⟩
      case round =>
      obtain ⟨t, z2, ht, rfl, rfl⟩ := hrel
      by_cases hlt2 : t < (y.p.f k).pn
      case pos =>
        obtain ⟨ib, io, hia, hib, hic⟩ := HI.out.2.1.2 (by omega)
        have c1' : w.cell? ⟨rb, ro + k * 3 + 1, none⟩ = some (.slice (some ⟨ib, io, none⟩) (y.p.f k).pn (y.p.f k).pc) := by rw [← hia]; exact HA.out
        have e0 : w.cell? ⟨ib, io + t * 2, none⟩ = some (.slice ((y.p.f k).ps t).p.a ((y.p.f k).ps t).p.n ((y.p.f k).ps t).p.c) := hic t 0 hlt2 (by omega)
        have e1 : w.cell? ⟨ib, io + t * 2 + 1, none⟩ = some (.slice ((y.p.f k).ps t).r.a ((y.p.f k).ps t).r.n ((y.p.f k).ps t).r.c) := hic t 1 hlt2 (by omega)
        clear hia hic
        go_wp2_with fail
        any_goals (go_ret; exact ⟨false, rfl, rfl, fun h => absurd h (by decide)⟩)
        exact ⟨⟨t + 1, _, by omega, by go_num, rfl⟩, by simp [intOf]; omega⟩
      obtain rfl : (y.p.f k).pn = t := by omega
      clear hlt2 ht
      have c1 : w.cell? ⟨rb, ro + k * 3 + 1, none⟩ = some (.slice (y.p.f k).pa (y.p.f k).pn (y.p.f k).pc) := HA.out
      go_wp2_with fail
      exact ⟨⟨k + 1, _, by omega, by go_num, rfl, small_step HPN.out HPK.out⟩, by simp [intOf]; omega⟩
    | some qa =>
      as_aux_lemma =>
      rw [hq] at c0
      have c2 := (HI.out.1 qa hq).2.1
      clear hq
      go_wp2_with fail
      any_goals (go_ret; exact ⟨false, rfl, rfl, fun h => absurd h (by decide)⟩)
      clear c1
      have HPK : Hid ((y.p.f k).pn ≤ 1048576) := by show _ ≤ _; omega
      go_loop [7, 16] (fun s i => ∃ (t : Nat) (z : Int), t ≤ (y.p.f k).pn ∧ i = .int .i64 t ∧ s = .int .i64 z) (fun _ i => (y.p.f k).pn - (intOf i).toNat)
      case atStart => exact ⟨0, _, Nat.zero_le _, rfl, rfl⟩
      case round =>
      obtain ⟨t, z2, ht, rfl, rfl⟩ := hrel
      by_cases hlt2 : t < (y.p.f k).pn
      case pos =>
        obtain ⟨ib, io, hia, hib, hic⟩ := HI.out.2.1.2 (by omega)
        have c1' : w.cell? ⟨rb, ro + k * 3 + 1, none⟩ = some (.slice (some ⟨ib, io, none⟩) (y.p.f k).pn (y.p.f k).pc) := by rw [← hia]; exact HA.out
        have e0 : w.cell? ⟨ib, io + t * 2, none⟩ = some (.slice ((y.p.f k).ps t).p.a ((y.p.f k).ps t).p.n ((y.p.f k).ps t).p.c) := hic t 0 hlt2 (by omega)
        have e1 : w.cell? ⟨ib, io + t * 2 + 1, none⟩ = some (.slice ((y.p.f k).ps t).r.a ((y.p.f k).ps t).r.n ((y.p.f k).ps t).r.c) := hic t 1 hlt2 (by omega)
        clear hia hic
        go_wp2_with fail
        any_goals (go_ret; exact ⟨false, rfl, rfl, fun h => absurd h (by decide)⟩)
        exact ⟨⟨t + 1, _, by omega, by go_num, rfl⟩, by simp [intOf]; omega⟩
      obtain rfl : (y.p.f k).pn = t := by omega
      clear hlt2 ht
      have c1 : w.cell? ⟨rb, ro + k * 3 + 1, none⟩ = some (.slice (y.p.f k).pa (y.p.f k).pn (y.p.f k).pc) := HA.out
      go_wp2_with fail
      exact ⟨⟨k + 1, _, by omega, by go_num, rfl, small_step HPN.out HPK.out⟩, by simp [intOf]; omega⟩
  obtain rfl : y.p.n = k := by omega
  clear hlt hk
  as_aux_lemma =>
  have d3 : w.cell? ⟨cb, co + 3, none⟩ = some (.slice y.p.a y.p.n y.p.c) := HCC.out 3 (by omega)
  have d4 : w.cell? ⟨cb, co + 4, none⟩ = some (.slice y.d.a y.d.n y.d.c) := HCC.out 4 (by omega)
  have m4 := HY.out.dr.1
  unfold maxLen at m4
  go_wp2_with fail
  any_goals (go_ret; exact ⟨false, rfl, rfl, fun h => absurd h (by decide)⟩)
  clear d3 d4
  go_loop [7, 17] (fun s i => ∃ (k : Nat) (z : Int), k ≤ y.d.n ∧ i = .int .i64 k ∧ s = .int .i64 z) (fun _ i => y.d.n - (intOf i).toNat)
  case atStart => exact ⟨0, _, Nat.zero_le _, rfl, rfl⟩
  case round =>
  obtain ⟨k, z, hk, rfl, rfl⟩ := hrel
  by_cases hlt : k < y.d.n
  case pos =>
    as_aux_lemma =>
    obtain ⟨rb, ro, ha, hrb, hrc⟩ := HY.out.dr.2 (by omega)
    have q0 : w.cell? ⟨cb, co + 4, none⟩ = some (.slice (some ⟨rb, ro, none⟩) y.d.n y.d.c) := by rw [← ha]; exact HCC.out 4 (by omega)
    have HRC : Hid _ := hrc
    clear ha hrc
    have HI : Hid ((y.d.f k).In w B) := HY.out.de k hlt
    have mi := HI.out.1.1
    unfold maxLen at mi
    have c1 : w.cell? ⟨rb, ro + k, none⟩ = some (.slice (y.d.f k).a (y.d.f k).n (y.d.f k).c) := by simpa [Ids.val] using HRC.out k 0 hlt (by omega)
    have HA : Hid (w.cell? ⟨rb, ro + k, none⟩ = some (.slice (y.d.f k).a (y.d.f k).n (y.d.f k).c)) := c1
    go_wp2_with fail
    any_goals (go_ret; exact ⟨false, rfl, rfl, fun h => absurd h (by decide)⟩)
    clear c1
    go_loop [7, 18] (fun s i => ∃ (t : Nat) (z : Int), t ≤ (y.d.f k).n ∧ i = .int .i64 t ∧ s = .int .i64 z) (fun _ i => (y.d.f k).n - (intOf i).toNat)
    case atStart => exact ⟨0, _, Nat.zero_le _, rfl, rfl⟩
    case round =>
    obtain ⟨t, z2, ht, rfl, rfl⟩ := hrel
    by_cases hlt2 : t < (y.d.f k).n
    case pos =>
      obtain ⟨ib, io, hia, hib, hic⟩ := HI.out.1.2 (by omega)
      have c1' : w.cell? ⟨rb, ro + k, none⟩ = some (.slice (some ⟨ib, io, none⟩) (y.d.f k).n (y.d.f k).c) := by rw [← hia]; exact HA.out
      have e0 : w.cell? ⟨ib, io + t, none⟩ = some (.slice ((y.d.f k).f t).a ((y.d.f k).f t).n ((y.d.f k).f t).c) := by simpa [Bs.val] using hic t 0 hlt2 (by omega)
      clear hia hic
      go_wp2_with fail
      any_goals (go_ret; exact ⟨false, rfl, rfl, fun h => absurd h (by decide)⟩)
      exact ⟨⟨t + 1, _, by omega, by go_num, rfl⟩, by simp [intOf]; omega⟩
    obtain rfl : (y.d.f k).n = t := by omega
    clear hlt2 ht
    have c1 : w.cell? ⟨rb, ro + k, none⟩ = some (.slice (y.d.f k).a (y.d.f k).n (y.d.f k).c) := HA.out
    go_wp2_with fail
    exact ⟨⟨k + 1, _, by omega, by go_num, rfl⟩, by simp [intOf]; omega⟩
  obtain rfl : y.d.n = k := by omega
  clear hlt hk
  as_aux_lemma =>
  have d4 : w.cell? ⟨cb, co + 4, none⟩ = some (.slice y.d.a y.d.n y.d.c) := HCC.out 4 (by omega)
  go_wp2_with fail
  go_ret
  exact ⟨true, rfl, rfl, fun _ => ⟨by omega, by omega, by omega, by omega, by omega, by omega, by omega, HPN.out⟩⟩
end Go.Proofs.Qxb6616574a
