import Derived.Test.Qxb6616574aW20
namespace Go.Proofs.Qxb6616574a
open Go.RowKit

set_option maxRecDepth 100000 in
set_option maxHeartbeats 8000000 in
theorem bytes10_nil (sa : Option Addr) (sn sc : Nat) (sf : Nat → Sub) (ma : Option Addr) (mn mc : Nat) (P : Nat → Option Addr) (mf : Nat → Msg) (cs cp : Int) (B : Nat) (w : World)
    (hsr : RowAt w B sa sn 2 (fun i j => (sf i).cell j)) (hse : ∀ i, i < sn → (sf i).In w B) (hmr : RowAt w B ma mn 1 (fun i _ => .pointer (P i))) (hme : PubIn w B P mf mn) :
    Calls Try.prog 10 #[.slice sa sn sc, .slice ma mn mc, .pointer none, .int .i64 cs, .int .i64 cp] w (BytesPost w (sn ≤ 1048576 ∧ mn ≤ 1048576)) := by
  have hm0 := hsr.1
  have hm1 := hmr.1
  unfold maxLen at hm0 hm1
  have HSR : Hid (RowAt w B sa sn 2 (fun i j => (sf i).cell j)) := hsr
  have HSE : Hid (∀ i, i < sn → (sf i).In w B) := hse
  have HMR : Hid (RowAt w B ma mn 1 (fun i _ => .pointer (P i))) := hmr
  have HME : Hid (PubIn w B P mf mn) := hme
  clear hsr hse hmr hme
  go_enter Try.func10, Try.ntmps10
  go_wp2_with fail
  any_goals (go_ret; exact ⟨false, rfl, rfl, fun h => absurd h (by decide)⟩)
  go_loop [11, 12] (fun s i => ∃ (k : Nat) (z : Int), k ≤ sn ∧ i = .int .i64 k ∧ s = .int .i64 z) (fun _ i => sn - (intOf i).toNat)
  case atStart => exact ⟨0, _, Nat.zero_le _, rfl, rfl⟩
  case round =>
  obtain ⟨k, z, hk, rfl, rfl⟩ := hrel
  by_cases hlt : k < sn
  case pos =>
    as_aux_lemma =>
    obtain ⟨rb, ro, ha, hrb, hrc⟩ := HSR.out.2 (by omega)
    have HRC : Hid _ := hrc
    clear hrc
    subst ha
    have y1 : w.cell? ⟨rb, ro + k * 2 + 1, none⟩ = some (.pointer (sf k).q) := HRC.out k 1 hlt (by omega)
    have HQ : Hid (StrIn w B (sf k).q (sf k).s) := (HSE.out k hlt).2
    cases hq : (sf k).q with
    | none =>
      rw [hq] at y1
      clear hq
      go_wp2_with fail
      exact ⟨⟨k + 1, _, by omega, by go_num, rfl⟩, by simp [intOf]; omega⟩
    | some qa =>
      rw [hq] at y1
      have y2 := (HQ.out qa hq).2.1
      clear hq
      go_wp2_with fail
      any_goals (go_ret; exact ⟨false, rfl, rfl, fun h => absurd h (by decide)⟩)
      exact ⟨⟨k + 1, _, by omega, by go_num, rfl⟩, by simp [intOf]; omega⟩
  obtain rfl : sn = k := by omega
  clear hlt hk
  go_wp2_with fail
  any_goals (go_ret; exact ⟨false, rfl, rfl, fun h => absurd h (by decide)⟩)
  go_loop [11, 13] (fun s i => ∃ (k : Nat) (z : Int), k ≤ mn ∧ i = .int .i64 k ∧ s = .int .i64 z) (fun _ i => mn - (intOf i).toNat)
  case atStart => exact ⟨0, _, Nat.zero_le _, rfl, rfl⟩
  case round =>
  obtain ⟨k, z, hk, rfl, rfl⟩ := hrel
  by_cases hlt : k < mn
  case pos =>
    as_aux_lemma =>
    obtain ⟨rb, ro, ha, hrb, hrc⟩ := HMR.out.2 (by omega)
    have y1 : w.cell? ⟨rb, ro + k, none⟩ = some (.pointer (P k)) := by simpa using hrc k 0 hlt (by omega)
    clear hrc
    subst ha
    cases hq : P k with
    | none =>
      rw [hq] at y1
      clear hq
      go_wp2_with fail
      exact ⟨⟨k + 1, _, by omega, by go_num, rfl⟩, by simp [intOf]; omega⟩
    | some qa =>
      rw [hq] at y1
      obtain ⟨mb, mo, rfl, _, hc, _⟩ := HME.out k hlt qa hq
      have z0 : w.cell? ⟨mb, mo, none⟩ = some (.slice (mf k).f.a (mf k).f.n (mf k).f.c) := hc 0 (by omega)
      have z1 : w.cell? ⟨mb, mo + 1, none⟩ = some (.slice (mf k).d.a (mf k).d.n (mf k).d.c) := hc 1 (by omega)
      have z2 : w.cell? ⟨mb, mo + 2, none⟩ = some (.slice (mf k).q.a (mf k).q.n (mf k).q.c) := hc 2 (by omega)
      have z3 : w.cell? ⟨mb, mo + 3, none⟩ = some (.string (mf k).t) := hc 3 (by omega)
      have z4 : w.cell? ⟨mb, mo + 4, none⟩ = some (.slice (mf k).g.a (mf k).g.n (mf k).g.c) := hc 4 (by omega)
      have z5 : w.cell? ⟨mb, mo + 5, none⟩ = some (.slice (mf k).k.a (mf k).k.n (mf k).k.c) := hc 5 (by omega)
      clear hq hc
      go_wp2_with fail
      any_goals (go_ret; exact ⟨false, rfl, rfl, fun h => absurd h (by decide)⟩)
      exact ⟨⟨k + 1, _, by omega, by go_num, rfl⟩, by simp [intOf]; omega⟩
  obtain rfl : mn = k := by omega
  clear hlt hk
  go_wp2_with fail
  go_ret
  exact ⟨true, rfl, rfl, fun _ => ⟨by omega, by omega⟩⟩
end Go.Proofs.Qxb6616574a
