import Derived.Test.Qxb6616574aW26
import Derived.Test.Qxb6616574aW21
import Derived.Test.Qxb6616574aW22
namespace Go.Proofs.Qxb6616574a
open Go.RowKit

theorem some_step {P : Nat → Option Addr} {k : Nat} (h : ∀ i, i < k → (P i).isSome = true) (hk : (P k).isSome = true) : Hid (∀ i, i < k + 1 → (P i).isSome = true) := by
  intro i hi
  by_cases he : i = k
  · rw [he]; exact hk
  · exact h i (by omega)

theorem model_nil {w : World} {sa ma : Option Addr} {sn sc mn mc : Nat} {sf : Nat → Sub} {ab ao : Nat → Nat} {mf : Nat → Msg} (h : Src w sa sn sc sf ma mn mc ab ao mf) :
    Calls Try.prog 9 #[.slice sa sn sc, .slice ma mn mc, .pointer none] w fun e w' => e = .returned (.int .i64 (Pl.w (Pl.ssum sf sn + Pl.msum mf mn))) ∧ Below w.heap.size w w' := by
  by_cases h0 : 0 < mn
  · obtain ⟨pb, po, rfl, hpb, hpc⟩ := h.mr.2 h0
    exact model_pub_nil sa sn sc sf pb po mn mc mf ab ao w h.sr h.se hpb h.mr.1 (fun i hi => by simpa using hpc i 0 hi (by omega)) h.me
  · obtain rfl : mn = 0 := by omega
    have := model_nopub_nil sa sn sc sf ma mc w h.sr h.se
    rwa [Pl.msum_zero, Int.add_zero]
theorem model_ctl {w : World} {sa ma : Option Addr} {sn sc mn mc cb co : Nat} {y : Ctl} {sf : Nat → Sub} {ab ao : Nat → Nat} {mf : Nat → Msg} (h : Src w sa sn sc sf ma mn mc ab ao mf) (hcb : cb < w.heap.size) (hcc : ∀ j, j < 5 → w.cell? ⟨cb, co + j, none⟩ = some (y.cell j)) (hy : y.In w w.heap.size) :
    Calls Try.prog 9 #[.slice sa sn sc, .slice ma mn mc, .pointer (some ⟨cb, co, none⟩)] w fun e w' => e = .returned (.int .i64 (Pl.w (Pl.ssum sf sn + Pl.msum mf mn + Pl.field y.body))) ∧ Below w.heap.size w w' := by
  by_cases h0 : 0 < mn
  · obtain ⟨pb, po, rfl, hpb, hpc⟩ := h.mr.2 h0
    exact model_pub_ctl sa sn sc sf pb po mn mc mf ab ao cb co y w h.sr h.se hpb h.mr.1 (fun i hi => by simpa using hpc i 0 hi (by omega)) h.me hcb hcc hy
  · obtain rfl : mn = 0 := by omega
    have := model_nopub_ctl sa sn sc sf ma mc cb co y w h.sr h.se hcb hcc hy
    rwa [Pl.msum_zero, Int.add_zero]

set_option maxRecDepth 100000 in
set_option maxHeartbeats 4000000 in
theorem law3_nil (sa : Option Addr) (sn sc : Nat) (sf : Nat → Sub) (ma : Option Addr) (mn mc : Nat) (P : Nat → Option Addr) (mf : Nat → Msg) (w : World)
    (hsr : RowAt w w.heap.size sa sn 2 (fun i j => (sf i).cell j)) (hse : ∀ i, i < sn → (sf i).In w w.heap.size) (hmr : RowAt w w.heap.size ma mn 1 (fun i _ => .pointer (P i))) (hme : PubIn w w.heap.size P mf mn) :
    Calls Try.prog 3 #[.slice sa sn sc, .slice ma mn mc, .pointer none] w fun e w' => e = .returned (.bool true) ∧ Below w.heap.size w w' := by
  have hm0 := hsr.1
  have hm1 := hmr.1
  unfold maxLen at hm0 hm1
  have HSR : Hid (RowAt w w.heap.size sa sn 2 (fun i j => (sf i).cell j)) := hsr
  have HSE : Hid (∀ i, i < sn → (sf i).In w w.heap.size) := hse
  have HMR : Hid (RowAt w w.heap.size ma mn 1 (fun i _ => .pointer (P i))) := hmr
  have HME : Hid (PubIn w w.heap.size P mf mn) := hme
  have HBY : Hid (Calls Try.prog 5 #[.slice sa sn sc, .slice ma mn mc, .pointer none] w (BytesPost w (sn ≤ 1048576 ∧ mn ≤ 1048576))) := bytes5_nil sa sn sc sf ma mn mc P mf w.heap.size w hsr hse hmr hme
  have HWE : Hid (Calls Try.prog 6 #[.slice sa sn sc, .slice ma mn mc, .pointer none] w (IntPost w)) := weigh_nil sa sn sc sf ma mn mc P mf w.heap.size w hsr hse hmr hme
  clear hsr hse hmr hme
  go_enter Try.func3, Try.ntmps3
  go_wp2_with fail
  refine HBY.out.mono ?_
  rintro e w' ⟨b, rfl, rfl, hbt⟩
  cases b with
  | false =>
    clear hbt
    go_wp2_with fail
    go_ret; exact ⟨rfl, Below.refl _ _⟩
  | true =>
  have HS : Hid (sn ≤ 1048576 ∧ mn ≤ 1048576) := hbt rfl
  clear hbt
  go_wp2_with fail
  refine HWE.out.mono ?_
  rintro e w' ⟨zw, rfl, rfl⟩
  by_cases hzw : 1048576 < zw
  · go_wp2_with fail
    go_ret; exact ⟨rfl, Below.refl _ _⟩
  go_wp2_with fail
  go_loop [21] (fun i => ∃ k : Nat, k ≤ mn ∧ i = .int .i64 k ∧ Hid (∀ i, i < k → (P i).isSome = true)) (fun i => mn - (intOf i).toNat)
  case atStart => exact ⟨0, Nat.zero_le _, rfl, fun i hi => absurd hi (by omega)⟩
  case round =>
  obtain ⟨k, hk, rfl, HP⟩ := hrel
  by_cases hlt : k < mn
  case pos =>
    obtain ⟨rb, ro, ha, hrb, hrc⟩ := HMR.out.2 (by omega)
    have y1 : w.cell? ⟨rb, ro + k, none⟩ = some (.pointer (P k)) := by simpa using hrc k 0 hlt (by omega)
    clear hrc
    subst ha
    cases hq : P k with
    | none =>
      rw [hq] at y1
      clear hq
      go_wp2_with fail
      go_ret; exact ⟨rfl, Below.refl _ _⟩
    | some qa =>
      rw [hq] at y1
      have HPK : Hid ((P k).isSome = true) := by show _ = _; rw [hq]; rfl
      clear hq
      go_wp2_with fail
      exact ⟨⟨k + 1, by omega, by go_num, some_step HP.out HPK.out⟩, by simp [intOf]; omega⟩
  obtain rfl : mn = k := by omega
  clear hlt hk
  obtain ⟨ab, ao, HSRC⟩ : ∃ ab ao, Hid (Src w sa sn sc sf ma mn mc ab ao mf) := ⟨_, _, Src.of HSR.out HSE.out HMR.out HME.out HP.out⟩
  have HB0 : Hid (Below w.heap.size w w) := Below.refl _ _
  go_wp2_with fail
  refine (srcBuild_nil (HSRC.out) HB0.out (HS.out.1) (HS.out.2)).mono ?_
  rintro e wb0 ⟨rfl, hrb⟩
  have HRB0 : Hid _ := hrb
  clear hrb
  go_wp2_with fail
  refine (srcSize_nil (HSRC.out) HB0.out HRB0.out).mono ?_
  rintro e w1 ⟨r0, hr0, rfl, HB1⟩
  have HMD : Hid (Calls Try.prog 9 #[.slice sa sn sc, .slice ma mn mc, .pointer none] w1 fun e w' => e = .returned (.int .i64 (Pl.w (Pl.ssum sf sn + Pl.msum mf mn))) ∧ Below w1.heap.size w1 w') := model_nil (HSRC.out.below HB1.out)
  have e1 : (r0 == Pl.w (Pl.ssum sf sn + Pl.msum mf mn)) = true := by rw [beq_iff_eq]; exact hr0.out
  go_wp2_with fail
  refine HMD.out.mono ?_
  rintro e w2 ⟨rfl, hb2⟩
  have HB2 : Hid (Below w.heap.size w w2) := HB1.out.trans (hb2.mono HB1.out.size)
  clear hb2
  go_wp2
  go_ret
  exact ⟨by first | rfl | (rw [e1]), HB2.out⟩

set_option maxRecDepth 100000 in
set_option maxHeartbeats 4000000 in
theorem law3_ctl (sa : Option Addr) (sn sc : Nat) (sf : Nat → Sub) (ma : Option Addr) (mn mc : Nat) (P : Nat → Option Addr) (mf : Nat → Msg) (cb co : Nat) (y : Ctl) (w : World)
    (hsr : RowAt w w.heap.size sa sn 2 (fun i j => (sf i).cell j)) (hse : ∀ i, i < sn → (sf i).In w w.heap.size) (hmr : RowAt w w.heap.size ma mn 1 (fun i _ => .pointer (P i))) (hme : PubIn w w.heap.size P mf mn) (hcb : cb < w.heap.size) (hcc : ∀ j, j < 5 → w.cell? ⟨cb, co + j, none⟩ = some (y.cell j)) (hy : y.In w w.heap.size) :
    Calls Try.prog 3 #[.slice sa sn sc, .slice ma mn mc, .pointer (some ⟨cb, co, none⟩)] w fun e w' => e = .returned (.bool true) ∧ Below w.heap.size w w' := by
  have hm0 := hsr.1
  have hm1 := hmr.1
  unfold maxLen at hm0 hm1
  have HSR : Hid (RowAt w w.heap.size sa sn 2 (fun i j => (sf i).cell j)) := hsr
  have HSE : Hid (∀ i, i < sn → (sf i).In w w.heap.size) := hse
  have HMR : Hid (RowAt w w.heap.size ma mn 1 (fun i _ => .pointer (P i))) := hmr
  have HME : Hid (PubIn w w.heap.size P mf mn) := hme
  have HBY : Hid (Calls Try.prog 5 #[.slice sa sn sc, .slice ma mn mc, .pointer (some ⟨cb, co, none⟩)] w (BytesPost w (sn ≤ 1048576 ∧ mn ≤ 1048576 ∧ y.Small))) := bytes5_ctl sa sn sc sf ma mn mc P mf cb co y w.heap.size w hsr hse hmr hme hcc hy
  have HWE : Hid (Calls Try.prog 6 #[.slice sa sn sc, .slice ma mn mc, .pointer (some ⟨cb, co, none⟩)] w (IntPost w)) := weigh_ctl sa sn sc sf ma mn mc P mf cb co y w.heap.size w hsr hse hmr hme hcc hy
  have HCC : Hid (∀ j, j < 5 → w.cell? ⟨cb, co + j, none⟩ = some (y.cell j)) := hcc
  have HY : Hid (y.In w w.heap.size) := hy
  clear hcc hy
  clear hsr hse hmr hme
  go_enter Try.func3, Try.ntmps3
  go_wp2_with fail
  refine HBY.out.mono ?_
  rintro e w' ⟨b, rfl, rfl, hbt⟩
  cases b with
  | false =>
    clear hbt
    go_wp2_with fail
    go_ret; exact ⟨rfl, Below.refl _ _⟩
  | true =>
  have HS : Hid (sn ≤ 1048576 ∧ mn ≤ 1048576 ∧ y.Small) := hbt rfl
  clear hbt
  go_wp2_with fail
  refine HWE.out.mono ?_
  rintro e w' ⟨zw, rfl, rfl⟩
  by_cases hzw : 1048576 < zw
  · go_wp2_with fail
    go_ret; exact ⟨rfl, Below.refl _ _⟩
  go_wp2_with fail
  go_loop [21] (fun i => ∃ k : Nat, k ≤ mn ∧ i = .int .i64 k ∧ Hid (∀ i, i < k → (P i).isSome = true)) (fun i => mn - (intOf i).toNat)
  case atStart => exact ⟨0, Nat.zero_le _, rfl, fun i hi => absurd hi (by omega)⟩
  case round =>
  obtain ⟨k, hk, rfl, HP⟩ := hrel
  by_cases hlt : k < mn
  case pos =>
    obtain ⟨rb, ro, ha, hrb, hrc⟩ := HMR.out.2 (by omega)
    have y1 : w.cell? ⟨rb, ro + k, none⟩ = some (.pointer (P k)) := by simpa using hrc k 0 hlt (by omega)
    clear hrc
    subst ha
    cases hq : P k with
    | none =>
      rw [hq] at y1
      clear hq
      go_wp2_with fail
      go_ret; exact ⟨rfl, Below.refl _ _⟩
    | some qa =>
      rw [hq] at y1
      have HPK : Hid ((P k).isSome = true) := by show _ = _; rw [hq]; rfl
      clear hq
      go_wp2_with fail
      exact ⟨⟨k + 1, by omega, by go_num, some_step HP.out HPK.out⟩, by simp [intOf]; omega⟩
  obtain rfl : mn = k := by omega
  clear hlt hk
  obtain ⟨ab, ao, HSRC⟩ : ∃ ab ao, Hid (Src w sa sn sc sf ma mn mc ab ao mf) := ⟨_, _, Src.of HSR.out HSE.out HMR.out HME.out HP.out⟩
  have HB0 : Hid (Below w.heap.size w w) := Below.refl _ _
  go_wp2_with fail
  refine (srcBuild_ctl (HSRC.out) HB0.out (HS.out.1) (HS.out.2.1) hcb HCC.out HY.out HS.out.2.2).mono ?_
  rintro e wb0 ⟨rfl, cb0, hrb, hcl⟩
  have HRB0 : Hid _ := hrb
  have HCL0 : Hid _ := hcl
  clear hrb hcl
  go_wp2_with fail
  refine (srcSize_ctl (HSRC.out) HB0.out HRB0.out HCL0.out).mono ?_
  rintro e w1 ⟨r0, hr0, rfl, HB1⟩
  have HMD : Hid (Calls Try.prog 9 #[.slice sa sn sc, .slice ma mn mc, .pointer (some ⟨cb, co, none⟩)] w1 fun e w' => e = .returned (.int .i64 (Pl.w (Pl.ssum sf sn + Pl.msum mf mn + Pl.field y.body))) ∧ Below w1.heap.size w1 w') := model_ctl (HSRC.out.below HB1.out) (Nat.lt_of_lt_of_le hcb HB1.out.size) (fun j hj => (HB1.out.cell hcb).trans (HCC.out j hj)) ((HY.out.below HB1.out).more HB1.out.size)
  have e1 : (r0 == Pl.w (Pl.ssum sf sn + Pl.msum mf mn + Pl.field y.body)) = true := by rw [beq_iff_eq]; exact hr0.out
  go_wp2_with fail
  refine HMD.out.mono ?_
  rintro e w2 ⟨rfl, hb2⟩
  have HB2 : Hid (Below w.heap.size w w2) := HB1.out.trans (hb2.mono HB1.out.size)
  clear hb2
  go_wp2
  go_ret
  exact ⟨by first | rfl | (rw [e1]), HB2.out⟩

end Go.Proofs.Qxb6616574a
