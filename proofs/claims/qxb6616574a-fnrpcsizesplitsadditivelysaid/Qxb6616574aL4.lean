import Derived.Test.Qxb6616574aW26
import Derived.Test.Qxb6616574aW23
import Derived.Test.Qxb6616574aW24
namespace Go.Proofs.Qxb6616574a
open Go.RowKit

theorem some_step {P : Nat → Option Addr} {k : Nat} (h : ∀ i, i < k → (P i).isSome = true) (hk : (P k).isSome = true) : Hid (∀ i, i < k + 1 → (P i).isSome = true) := by
  intro i hi
  by_cases he : i = k
  · rw [he]; exact hk
  · exact h i (by omega)

theorem split_eq {S S1 S2 M M1 M2 F r r1 r2 r3 r4 r5 : Int} (hS : S = S1 + S2) (hM : M = M1 + M2) (h : r = wrap64 (S + M + F)) (h1 : r1 = wrap64 (S1 + 0)) (h2 : r2 = wrap64 (S2 + 0)) (h3 : r3 = wrap64 (0 + M1)) (h4 : r4 = wrap64 (0 + M2)) (h5 : r5 = wrap64 (0 + 0 + F)) :
    (r == wrap64 (wrap64 (wrap64 (wrap64 (r1 + r2) + r3) + r4) + r5)) = true ∧ (wrap64 (r1 + r2) == Pl.w S) = true := by
  subst h h1 h2 h3 h4 h5 hS hM
  constructor
  · rw [beq_iff_eq]; unfold wrap64; omega
  · rw [beq_iff_eq]; unfold Pl.w wrap64; omega

set_option maxRecDepth 100000 in
set_option maxHeartbeats 4000000 in
theorem law4_nil (sa : Option Addr) (sn sc : Nat) (sf : Nat → Sub) (ma : Option Addr) (mn mc : Nat) (P : Nat → Option Addr) (mf : Nat → Msg) (cs cp : Int) (w : World)
    (hsr : RowAt w w.heap.size sa sn 2 (fun i j => (sf i).cell j)) (hse : ∀ i, i < sn → (sf i).In w w.heap.size) (hmr : RowAt w w.heap.size ma mn 1 (fun i _ => .pointer (P i))) (hme : PubIn w w.heap.size P mf mn) (hsc : sn ≤ sc) (hmc : mn ≤ mc) :
    Calls Try.prog 4 #[.slice sa sn sc, .slice ma mn mc, .pointer none, .int .i64 cs, .int .i64 cp] w fun e w' => e = .returned (.bool true) ∧ Below w.heap.size w w' := by
  have hm0 := hsr.1
  have hm1 := hmr.1
  unfold maxLen at hm0 hm1
  have HSR : Hid (RowAt w w.heap.size sa sn 2 (fun i j => (sf i).cell j)) := hsr
  have HSE : Hid (∀ i, i < sn → (sf i).In w w.heap.size) := hse
  have HMR : Hid (RowAt w w.heap.size ma mn 1 (fun i _ => .pointer (P i))) := hmr
  have HME : Hid (PubIn w w.heap.size P mf mn) := hme
  have HBY : Hid (Calls Try.prog 10 #[.slice sa sn sc, .slice ma mn mc, .pointer none, .int .i64 cs, .int .i64 cp] w (BytesPost w (sn ≤ 1048576 ∧ mn ≤ 1048576))) := bytes10_nil sa sn sc sf ma mn mc P mf cs cp w.heap.size w hsr hse hmr hme
  have HWE : Hid (Calls Try.prog 6 #[.slice sa sn sc, .slice ma mn mc, .pointer none] w (IntPost w)) := weigh_nil sa sn sc sf ma mn mc P mf w.heap.size w hsr hse hmr hme
  clear hsr hse hmr hme
  go_enter Try.func4, Try.ntmps4
  go_wp2_with fail
  refine HBY.out.mono ?_
  rintro e w' ⟨b, rfl, rfl, hbt⟩
  cases b with
  | false =>
    clear hbt
    go_wp2_with fail
    go_ret; exact ⟨rfl, Below.refl _ _⟩
  | true =>
  have HS : Hid (sn ≤ 1048576 ∧ mn ≤ 1048576) := hbt rfl
  clear hbt
  go_wp2_with fail
  refine HWE.out.mono ?_
  rintro e w' ⟨zw, rfl, rfl⟩
  by_cases hzw : 1048576 < zw
  · go_wp2_with fail
    go_ret; exact ⟨rfl, Below.refl _ _⟩
  by_cases hcut : 0 ≤ cs ∧ cs ≤ sn ∧ 0 ≤ cp ∧ cp ≤ mn
  case neg =>
    go_wp2_with fail
    all_goals first | (go_ret; exact ⟨rfl, Below.refl _ _⟩) | (exfalso; omega)
  obtain ⟨k0, k1, k2, k3⟩ := hcut
  obtain ⟨c, rfl⟩ := Int.eq_ofNat_of_zero_le k0
  obtain ⟨p, rfl⟩ := Int.eq_ofNat_of_zero_le k2
  have hc : c ≤ sn := by omega
  have hp : p ≤ mn := by omega
  go_wp2_with fail
  go_loop [50] (fun i => ∃ k : Nat, k ≤ mn ∧ i = .int .i64 k ∧ Hid (∀ i, i < k → (P i).isSome = true)) (fun i => mn - (intOf i).toNat)
  case atStart => exact ⟨0, Nat.zero_le _, rfl, fun i hi => absurd hi (by omega)⟩
  case round =>
  obtain ⟨k, hk, rfl, HP⟩ := hrel
  by_cases hlt : k < mn
  case pos =>
    obtain ⟨rb, ro, ha, hrb, hrc⟩ := HMR.out.2 (by omega)
    have y1 : w.cell? ⟨rb, ro + k, none⟩ = some (.pointer (P k)) := by simpa using hrc k 0 hlt (by omega)
    clear hrc
    subst ha
    cases hq : P k with
    | none =>
      rw [hq] at y1
      clear hq
      go_wp2_with fail
      go_ret; exact ⟨rfl, Below.refl _ _⟩
    | some qa =>
      rw [hq] at y1
      have HPK : Hid ((P k).isSome = true) := by show _ = _; rw [hq]; rfl
      clear hq
      go_wp2_with fail
      exact ⟨⟨k + 1, by omega, by go_num, some_step HP.out HPK.out⟩, by simp [intOf]; omega⟩
  obtain rfl : mn = k := by omega
  clear hlt hk
  obtain ⟨ab, ao, HSRC⟩ : ∃ ab ao, Hid (Src w sa sn sc sf ma mn mc ab ao mf) := ⟨_, _, Src.of HSR.out HSE.out HMR.out HME.out HP.out⟩
  have HB0 : Hid (Below w.heap.size w w) := Below.refl _ _
  have hs1 := run_hi 22 36 2 sa sn sc c Try.underlying22 Try.size36 (by omega)
  have hs2 := run_lo 22 36 2 sa sn sc c Try.underlying22 Try.size36 hc
  have hs3 := run_hi 23 27 1 ma mn mc p Try.underlying23 Try.size27 (by omega)
  have hs4 := run_lo 23 27 1 ma mn mc p Try.underlying23 Try.size27 hp
  go_wp2_with fail
  refine (srcBuild_nil (HSRC.out) HB0.out (HS.out.1) (HS.out.2)).mono ?_
  rintro e wb0 ⟨rfl, hrb⟩
  have HRB0 : Hid _ := hrb
  clear hrb
  go_wp2_with fail
  refine (srcSize_nil (HSRC.out) HB0.out HRB0.out).mono ?_
  rintro e w1 ⟨r0, hr0, rfl, HB1⟩
  go_wp2_with fail
  refine (srcBuild_nil ((HSRC.out.subsFirst hc).subs) HB1.out (by have := HS.out.1; omega) (by omega)).mono ?_
  rintro e wb1 ⟨rfl, hrb⟩
  have HRB1 : Hid _ := hrb
  clear hrb
  go_wp2_with fail
  refine (srcSize_nil ((HSRC.out.subsFirst hc).subs) HB1.out HRB1.out).mono ?_
  rintro e w2 ⟨r1, hr1, rfl, HB2⟩
  go_wp2_with fail
  refine (srcBuild_nil ((HSRC.out.subsLast hc hsc).subs) HB2.out (by have := HS.out.1; omega) (by omega)).mono ?_
  rintro e wb2 ⟨rfl, hrb⟩
  have HRB2 : Hid _ := hrb
  clear hrb
  go_wp2_with fail
  refine (srcSize_nil ((HSRC.out.subsLast hc hsc).subs) HB2.out HRB2.out).mono ?_
  rintro e w3 ⟨r2, hr2, rfl, HB3⟩
  go_wp2_with fail
  refine (srcBuild_nil ((HSRC.out.pubsFirst hp).pubs) HB3.out (by omega) (by have := HS.out.2; omega)).mono ?_
  rintro e wb3 ⟨rfl, hrb⟩
  have HRB3 : Hid _ := hrb
  clear hrb
  go_wp2_with fail
  refine (srcSize_nil ((HSRC.out.pubsFirst hp).pubs) HB3.out HRB3.out).mono ?_
  rintro e w4 ⟨r3, hr3, rfl, HB4⟩
  go_wp2_with fail
  refine (srcBuild_nil ((HSRC.out.pubsLast hp hmc).pubs) HB4.out (by omega) (by have := HS.out.2; omega)).mono ?_
  rintro e wb4 ⟨rfl, hrb⟩
  have HRB4 : Hid _ := hrb
  clear hrb
  go_wp2_with fail
  refine (srcSize_nil ((HSRC.out.pubsLast hp hmc).pubs) HB4.out HRB4.out).mono ?_
  rintro e w5 ⟨r4, hr4, rfl, HB5⟩
  go_wp2_with fail
  refine (srcBuild_nil (HSRC.out.empty) HB5.out (by omega) (by omega)).mono ?_
  rintro e wb5 ⟨rfl, hrb⟩
  have HRB5 : Hid _ := hrb
  clear hrb
  go_wp2_with fail
  refine (srcSize_nil (HSRC.out.empty) HB5.out HRB5.out).mono ?_
  rintro e w6 ⟨r5, hr5, rfl, HB6⟩
  obtain ⟨HE1, HE2⟩ : Hid ((r0 == wrap64 (wrap64 (wrap64 (wrap64 (r1 + r2) + r3) + r4) + r5)) = true) ∧ Hid ((wrap64 (r1 + r2) == Pl.w (Pl.ssum sf sn)) = true) := split_eq (F := 0) (Pl.ssum_split sf hc) (Pl.msum_split mf hp) (by rw [Int.add_zero]; exact hr0.out) hr1.out hr2.out hr3.out hr4.out (by rw [Int.add_zero]; exact hr5.out)
  have HSM : Hid (Calls Try.prog 11 #[.slice sa sn sc] w6 fun e w' => e = .returned (.int .i64 (Pl.w (Pl.ssum sf sn))) ∧ w' = w6) := subsModel_any sa sn sc sf w6.heap.size w6 (HSRC.out.below HB6.out).sr (HSRC.out.below HB6.out).se
  clear hs1 hs2 hs3 hs4 hr0 hr1 hr2 hr3 hr4 hr5
  go_wp2_with fail
  · refine HSM.out.mono ?_
    rintro e w7 ⟨rfl, hww⟩
    obtain rfl : w6 = w7 := hww.symm
    go_wp2_with fail
    go_ret
    exact ⟨congrArg (fun b => Ending.returned (Value.bool b)) HE2.out, HB6.out⟩
  · exfalso
    have hne : ¬ r0 = wrap64 (wrap64 (wrap64 (wrap64 (r1 + r2) + r3) + r4) + r5) := by assumption
    exact hne (beq_iff_eq.1 HE1.out)

set_option maxRecDepth 100000 in
set_option maxHeartbeats 4000000 in
theorem law4_ctl (sa : Option Addr) (sn sc : Nat) (sf : Nat → Sub) (ma : Option Addr) (mn mc : Nat) (P : Nat → Option Addr) (mf : Nat → Msg) (cb co : Nat) (y : Ctl) (cs cp : Int) (w : World)
    (hsr : RowAt w w.heap.size sa sn 2 (fun i j => (sf i).cell j)) (hse : ∀ i, i < sn → (sf i).In w w.heap.size) (hmr : RowAt w w.heap.size ma mn 1 (fun i _ => .pointer (P i))) (hme : PubIn w w.heap.size P mf mn) (hsc : sn ≤ sc) (hmc : mn ≤ mc) (hcb : cb < w.heap.size) (hcc : ∀ j, j < 5 → w.cell? ⟨cb, co + j, none⟩ = some (y.cell j)) (hy : y.In w w.heap.size) :
    Calls Try.prog 4 #[.slice sa sn sc, .slice ma mn mc, .pointer (some ⟨cb, co, none⟩), .int .i64 cs, .int .i64 cp] w fun e w' => e = .returned (.bool true) ∧ Below w.heap.size w w' := by
  have hm0 := hsr.1
  have hm1 := hmr.1
  unfold maxLen at hm0 hm1
  have HSR : Hid (RowAt w w.heap.size sa sn 2 (fun i j => (sf i).cell j)) := hsr
  have HSE : Hid (∀ i, i < sn → (sf i).In w w.heap.size) := hse
  have HMR : Hid (RowAt w w.heap.size ma mn 1 (fun i _ => .pointer (P i))) := hmr
  have HME : Hid (PubIn w w.heap.size P mf mn) := hme
  have HBY : Hid (Calls Try.prog 10 #[.slice sa sn sc, .slice ma mn mc, .pointer (some ⟨cb, co, none⟩), .int .i64 cs, .int .i64 cp] w (BytesPost w (sn ≤ 1048576 ∧ mn ≤ 1048576 ∧ y.Small))) := bytes10_ctl sa sn sc sf ma mn mc P mf cb co y cs cp w.heap.size w hsr hse hmr hme hcc hy
  have HWE : Hid (Calls Try.prog 6 #[.slice sa sn sc, .slice ma mn mc, .pointer (some ⟨cb, co, none⟩)] w (IntPost w)) := weigh_ctl sa sn sc sf ma mn mc P mf cb co y w.heap.size w hsr hse hmr hme hcc hy
  have HCC : Hid (∀ j, j < 5 → w.cell? ⟨cb, co + j, none⟩ = some (y.cell j)) := hcc
  have HY : Hid (y.In w w.heap.size) := hy
  clear hcc hy
  clear hsr hse hmr hme
  go_enter Try.func4, Try.ntmps4
  go_wp2_with fail
  refine HBY.out.mono ?_
  rintro e w' ⟨b, rfl, rfl, hbt⟩
  cases b with
  | false =>
    clear hbt
    go_wp2_with fail
    go_ret; exact ⟨rfl, Below.refl _ _⟩
  | true =>
  have HS : Hid (sn ≤ 1048576 ∧ mn ≤ 1048576 ∧ y.Small) := hbt rfl
  clear hbt
  go_wp2_with fail
  refine HWE.out.mono ?_
  rintro e w' ⟨zw, rfl, rfl⟩
  by_cases hzw : 1048576 < zw
  · go_wp2_with fail
    go_ret; exact ⟨rfl, Below.refl _ _⟩
  by_cases hcut : 0 ≤ cs ∧ cs ≤ sn ∧ 0 ≤ cp ∧ cp ≤ mn
  case neg =>
    go_wp2_with fail
    all_goals first | (go_ret; exact ⟨rfl, Below.refl _ _⟩) | (exfalso; omega)
  obtain ⟨k0, k1, k2, k3⟩ := hcut
  obtain ⟨c, rfl⟩ := Int.eq_ofNat_of_zero_le k0
  obtain ⟨p, rfl⟩ := Int.eq_ofNat_of_zero_le k2
  have hc : c ≤ sn := by omega
  have hp : p ≤ mn := by omega
  go_wp2_with fail
  go_loop [50] (fun i => ∃ k : Nat, k ≤ mn ∧ i = .int .i64 k ∧ Hid (∀ i, i < k → (P i).isSome = true)) (fun i => mn - (intOf i).toNat)
  case atStart => exact ⟨0, Nat.zero_le _, rfl, fun i hi => absurd hi (by omega)⟩
  case round =>
  obtain ⟨k, hk, rfl, HP⟩ := hrel
  by_cases hlt : k < mn
  case pos =>
    obtain ⟨rb, ro, ha, hrb, hrc⟩ := HMR.out.2 (by omega)
    have y1 : w.cell? ⟨rb, ro + k, none⟩ = some (.pointer (P k)) := by simpa using hrc k 0 hlt (by omega)
    clear hrc
    subst ha
    cases hq : P k with
    | none =>
      rw [hq] at y1
      clear hq
      go_wp2_with fail
      go_ret; exact ⟨rfl, Below.refl _ _⟩
    | some qa =>
      rw [hq] at y1
      have HPK : Hid ((P k).isSome = true) := by show _ = _; rw [hq]; rfl
      clear hq
      go_wp2_with fail
      exact ⟨⟨k + 1, by omega, by go_num, some_step HP.out HPK.out⟩, by simp [intOf]; omega⟩
  obtain rfl : mn = k := by omega
  clear hlt hk
  obtain ⟨ab, ao, HSRC⟩ : ∃ ab ao, Hid (Src w sa sn sc sf ma mn mc ab ao mf) := ⟨_, _, Src.of HSR.out HSE.out HMR.out HME.out HP.out⟩
  have HB0 : Hid (Below w.heap.size w w) := Below.refl _ _
  have hs1 := run_hi 22 36 2 sa sn sc c Try.underlying22 Try.size36 (by omega)
  have hs2 := run_lo 22 36 2 sa sn sc c Try.underlying22 Try.size36 hc
  have hs3 := run_hi 23 27 1 ma mn mc p Try.underlying23 Try.size27 (by omega)
  have hs4 := run_lo 23 27 1 ma mn mc p Try.underlying23 Try.size27 hp
  go_wp2_with fail
  refine (srcBuild_ctl (HSRC.out) HB0.out (HS.out.1) (HS.out.2.1) hcb HCC.out HY.out HS.out.2.2).mono ?_
  rintro e wb0 ⟨rfl, cb0, hrb, hcl⟩
  have HRB0 : Hid _ := hrb
  have HCL0 : Hid _ := hcl
  clear hrb hcl
  go_wp2_with fail
  refine (srcSize_ctl (HSRC.out) HB0.out HRB0.out HCL0.out).mono ?_
  rintro e w1 ⟨r0, hr0, rfl, HB1⟩
  go_wp2_with fail
  refine (srcBuild_nil ((HSRC.out.subsFirst hc).subs) HB1.out (by have := HS.out.1; omega) (by omega)).mono ?_
  rintro e wb1 ⟨rfl, hrb⟩
  have HRB1 : Hid _ := hrb
  clear hrb
  go_wp2_with fail
  refine (srcSize_nil ((HSRC.out.subsFirst hc).subs) HB1.out HRB1.out).mono ?_
  rintro e w2 ⟨r1, hr1, rfl, HB2⟩
  go_wp2_with fail
  refine (srcBuild_nil ((HSRC.out.subsLast hc hsc).subs) HB2.out (by have := HS.out.1; omega) (by omega)).mono ?_
  rintro e wb2 ⟨rfl, hrb⟩
  have HRB2 : Hid _ := hrb
  clear hrb
  go_wp2_with fail
  refine (srcSize_nil ((HSRC.out.subsLast hc hsc).subs) HB2.out HRB2.out).mono ?_
  rintro e w3 ⟨r2, hr2, rfl, HB3⟩
  go_wp2_with fail
  refine (srcBuild_nil ((HSRC.out.pubsFirst hp).pubs) HB3.out (by omega) (by have := HS.out.2.1; omega)).mono ?_
  rintro e wb3 ⟨rfl, hrb⟩
  have HRB3 : Hid _ := hrb
  clear hrb
  go_wp2_with fail
  refine (srcSize_nil ((HSRC.out.pubsFirst hp).pubs) HB3.out HRB3.out).mono ?_
  rintro e w4 ⟨r3, hr3, rfl, HB4⟩
  go_wp2_with fail
  refine (srcBuild_nil ((HSRC.out.pubsLast hp hmc).pubs) HB4.out (by omega) (by have := HS.out.2.1; omega)).mono ?_
  rintro e wb4 ⟨rfl, hrb⟩
  have HRB4 : Hid _ := hrb
  clear hrb
  go_wp2_with fail
  refine (srcSize_nil ((HSRC.out.pubsLast hp hmc).pubs) HB4.out HRB4.out).mono ?_
  rintro e w5 ⟨r4, hr4, rfl, HB5⟩
  go_wp2_with fail
  refine (srcBuild_ctl (HSRC.out.empty) HB5.out (by omega) (by omega) hcb HCC.out HY.out HS.out.2.2).mono ?_
  rintro e wb5 ⟨rfl, cb5, hrb, hcl⟩
  have HRB5 : Hid _ := hrb
  have HCL5 : Hid _ := hcl
  clear hrb hcl
  go_wp2_with fail
  refine (srcSize_ctl (HSRC.out.empty) HB5.out HRB5.out HCL5.out).mono ?_
  rintro e w6 ⟨r5, hr5, rfl, HB6⟩
  obtain ⟨HE1, HE2⟩ : Hid ((r0 == wrap64 (wrap64 (wrap64 (wrap64 (r1 + r2) + r3) + r4) + r5)) = true) ∧ Hid ((wrap64 (r1 + r2) == Pl.w (Pl.ssum sf sn)) = true) := split_eq (F := Pl.field y.body) (Pl.ssum_split sf hc) (Pl.msum_split mf hp) hr0.out hr1.out hr2.out hr3.out hr4.out hr5.out
  have HSM : Hid (Calls Try.prog 11 #[.slice sa sn sc] w6 fun e w' => e = .returned (.int .i64 (Pl.w (Pl.ssum sf sn))) ∧ w' = w6) := subsModel_any sa sn sc sf w6.heap.size w6 (HSRC.out.below HB6.out).sr (HSRC.out.below HB6.out).se
  clear hs1 hs2 hs3 hs4 hr0 hr1 hr2 hr3 hr4 hr5
  go_wp2_with fail
  · refine HSM.out.mono ?_
    rintro e w7 ⟨rfl, hww⟩
    obtain rfl : w6 = w7 := hww.symm
    go_wp2_with fail
    go_ret
    exact ⟨congrArg (fun b => Ending.returned (Value.bool b)) HE2.out, HB6.out⟩
  · exfalso
    have hne : ¬ r0 = wrap64 (wrap64 (wrap64 (wrap64 (r1 + r2) + r3) + r4) + r5) := by assumption
    exact hne (beq_iff_eq.1 HE1.out)

end Go.Proofs.Qxb6616574a
