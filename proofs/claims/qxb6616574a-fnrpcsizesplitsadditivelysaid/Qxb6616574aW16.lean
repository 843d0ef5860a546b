import Derived.Test.Qxb6616574aW15
namespace Go.Proofs.Qxb6616574a
open Go.RowKit

theorem size_built_nil {w w' : World} {sn mn : Nat} {sf : Nat → Sub} {mf : Nat → Msg} (h : RpcBuilt w w' sn mn sf mf none) (hs : ∀ i, i < sn → (sf i).In w' w'.heap.size) (hsn : sn ≤ maxLen) (hmn : mn ≤ maxLen) (hok : ∀ i, i < mn → (mf i).Ok) :
    Calls Try.prog 8 #[.pointer (some ⟨w.heap.size, 0, none⟩)] w' fun e w'' => ∃ r, Hid (r = wrap64 (Pl.ssum sf sn + Pl.msum mf mn)) ∧ e = .returned (.int .i64 r) ∧ Below w'.heap.size w' w'' := by
  obtain ⟨sa, sc, ma, mc, mb, hh, hr, hmr, hme, hb⟩ := h
  have hlt := lt_of_heap hh
  refine size_any w.heap.size _ w' fun w0 hE hB => ?_
  have c0 := (hB.cell (p := ⟨w.heap.size, 0, none⟩) hlt).trans (cell_of_heap hh (j := 0) rfl)
  have c1 := (hB.cell (p := ⟨w.heap.size, 1, none⟩) hlt).trans (cell_of_heap hh (j := 1) rfl)
  have c2 := (hB.cell (p := ⟨w.heap.size, 2, none⟩) hlt).trans (cell_of_heap hh (j := 2) rfl)
  have hsr := (hr.at hsn).below hB
  have hse : ∀ i, i < sn → (sf i).In w0 w'.heap.size := fun i hi => (hs i hi).below hB
  by_cases h0 : 0 < mn
  · obtain ⟨pb, rfl, _, hpb, hpc⟩ := hmr h0
    have := rpcEncode_pub_nil w'.heap.size w.heap.size 0 sa sn sc sf pb 0 mn mc mb mf w0 hE hlt c0 c1 c2 hsr hse hpb hmn
      (fun i hi => by rw [Nat.zero_add]; exact (hB.cell hpb).trans (by simpa using hpc i 0 hi (by omega)))
      (fun i hi => ⟨(hme i hi).2.1, fun j hj => by rw [Nat.zero_add]; exact (hB.cell (hme i hi).2.1).trans ((hme i hi).2.2 j hj), hok i hi⟩)
    rwa [Int.zero_add] at this
  · obtain rfl : mn = 0 := by omega
    have := rpcEncode_nopub_nil w'.heap.size w.heap.size 0 sa sn sc sf ma mc w0 hE hlt c0 c1 c2 hsr hse
    rw [Pl.msum_zero, Int.add_zero]
    rwa [Int.zero_add] at this

theorem size_built_ctl {w w' : World} {sn mn cb : Nat} {sf : Nat → Sub} {mf : Nat → Msg} {y : Ctl} (h : RpcBuilt w w' sn mn sf mf (some ⟨cb, 0, none⟩)) (hl : CtlLies w w' y cb) (hs : ∀ i, i < sn → (sf i).In w' w'.heap.size) (hsn : sn ≤ maxLen) (hmn : mn ≤ maxLen) (hok : ∀ i, i < mn → (mf i).Ok) :
    Calls Try.prog 8 #[.pointer (some ⟨w.heap.size, 0, none⟩)] w' fun e w'' => ∃ r, Hid (r = wrap64 (Pl.ssum sf sn + Pl.msum mf mn + Pl.field y.body)) ∧ e = .returned (.int .i64 r) ∧ Below w'.heap.size w' w'' := by
  obtain ⟨sa, sc, ma, mc, mb, hh, hr, hmr, hme, hb⟩ := h
  obtain ⟨x, hx, _, hxc, hxi, hcb⟩ := hl
  have hlt := lt_of_heap hh
  refine size_any w.heap.size _ w' fun w0 hE hB => ?_
  have c0 := (hB.cell (p := ⟨w.heap.size, 0, none⟩) hlt).trans (cell_of_heap hh (j := 0) rfl)
  have c1 := (hB.cell (p := ⟨w.heap.size, 1, none⟩) hlt).trans (cell_of_heap hh (j := 1) rfl)
  have c2 := (hB.cell (p := ⟨w.heap.size, 2, none⟩) hlt).trans (cell_of_heap hh (j := 2) rfl)
  have hsr := (hr.at hsn).below hB
  have hse : ∀ i, i < sn → (sf i).In w0 w'.heap.size := fun i hi => (hs i hi).below hB
  have hcc : ∀ j, j < 5 → w0.cell? ⟨cb, 0 + j, none⟩ = some (x.cell j) := fun j hj => (hB.cell hcb).trans (hxc j hj)
  by_cases h0 : 0 < mn
  · obtain ⟨pb, rfl, _, hpb, hpc⟩ := hmr h0
    have := rpcEncode_pub_ctl w'.heap.size w.heap.size 0 sa sn sc sf pb 0 mn mc mb mf cb 0 x w0 hE hlt c0 c1 c2 hsr hse hpb hmn
      (fun i hi => by rw [Nat.zero_add]; exact (hB.cell hpb).trans (by simpa using hpc i 0 hi (by omega)))
      (fun i hi => ⟨(hme i hi).2.1, fun j hj => by rw [Nat.zero_add]; exact (hB.cell (hme i hi).2.1).trans ((hme i hi).2.2 j hj), hok i hi⟩)
      hcb hcc (hxi.below hB)
    rwa [Int.zero_add, hx] at this
  · obtain rfl : mn = 0 := by omega
    have := rpcEncode_nopub_ctl w'.heap.size w.heap.size 0 sa sn sc sf ma mc cb 0 x w0 hE hlt c0 c1 c2 hsr hse hcb hcc (hxi.below hB)
    rw [Pl.msum_zero, Int.add_zero]
    rwa [Int.zero_add, hx] at this

end Go.Proofs.Qxb6616574a
