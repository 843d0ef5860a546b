import Derived.Test.Qxb6616574aW14
namespace Go.Proofs.Qxb6616574a
open Go.RowKit

/-- A message that the call has made, in block b behind g. -/
def MsgNew (w : World) (g b : Nat) (x : Msg) : Prop := g < b ∧ b < w.heap.size ∧ ∀ j, j < 6 → w.cell? ⟨b, j, none⟩ = some (x.cell j)
theorem MsgNew.keep {w w' : World} {g D b : Nat} {x : Msg} (h : MsgNew w g b x) (hD : D ≤ g) (hk : Keep D w w') : MsgNew w' g b x := by
  have h1 := h.1
  exact ⟨h.1, Nat.lt_of_lt_of_le h.2.1 hk.size, fun j hj => (World.cell?_of_block (w := w) (hk.block b h.2.1 (by omega))).trans (h.2.2 j hj)⟩
theorem MsgNew.less {w : World} {g D b : Nat} {x : Msg} (h : MsgNew w g b x) (hD : D ≤ g) : MsgNew w D b x := ⟨Nat.lt_of_le_of_lt hD h.1, h.2⟩

/-- What a round of the loop over the messages does. -/
theorem msg_step {w1 wr : World} {n k : Nat} {mf : Nat → Msg} {mb : Nat → Nat} (hF : Filling w1 wr 69 n 1 k (fun i _ => .pointer (some ⟨mb i, 0, none⟩))) (hP : ∀ i, i < k → MsgNew wr w1.heap.size (mb i) (mf i)) (hk : k < n) :
    ∃ mb' : Nat → Nat, Filling w1 ((wr.setCell ⟨w1.heap.size, k, none⟩ (.pointer (some ⟨wr.heap.size, 0, none⟩))).alloc (.cells #[(mf k).f.val, (mf k).d.val, (mf k).q.val, .string (mf k).t, (mf k).g.val, (mf k).k.val] 68)) 69 n 1 (k + 1) (fun i _ => .pointer (some ⟨mb' i, 0, none⟩)) ∧
      ∀ i, i < k + 1 → MsgNew ((wr.setCell ⟨w1.heap.size, k, none⟩ (.pointer (some ⟨wr.heap.size, 0, none⟩))).alloc (.cells #[(mf k).f.val, (mf k).d.val, (mf k).q.val, .string (mf k).t, (mf k).g.val, (mf k).k.val] 68)) w1.heap.size (mb' i) (mf i) := by
  have hg : w1.heap.size < wr.heap.size := hF.1.lt
  rw [← World.setCell_alloc_past _ _ _ _ hg]
  obtain ⟨wa, hwa⟩ : ∃ wa, wa = wr.alloc (.cells #[(mf k).f.val, (mf k).d.val, (mf k).q.val, .string (mf k).t, (mf k).g.val, (mf k).k.val] 68) := ⟨_, rfl⟩
  have hb : Below wr.heap.size wr wa := by rw [hwa]; exact (Below.refl _ _).alloc (Nat.le_refl _) _
  have hn : wa.heap[wr.heap.size]? = some (.cells #[(mf k).f.val, (mf k).d.val, (mf k).q.val, .string (mf k).t, (mf k).g.val, (mf k).k.val] 68 (0, 0)) := by rw [hwa]; exact heap_alloc_new _ _
  rw [← hwa]
  have kp : Keep w1.heap.size wa (wa.setCell ⟨w1.heap.size, k, none⟩ (.pointer (some ⟨wr.heap.size, 0, none⟩))) := (Keep.refl _ _).setCell _ _
  refine ⟨fun i => if i = k then wr.heap.size else mb i, ⟨?_, ?_⟩, ?_⟩
  · have h1 : Fill wa w1.heap.size 69 n 1 k (fun i _ => .pointer (some ⟨if i = k then wr.heap.size else mb i, 0, none⟩)) :=
      (hF.1.congr (hb.block _ hg)).to (fun i j hi => by rw [if_neg (by omega)])
    exact h1.set1 hk _ (by simp)
  · exact (hF.2.trans (hb.mono (Nat.le_of_lt hg))).setCell (Nat.le_refl _) _
  · intro i hi
    by_cases he : i = k
    · subst he
      simp only [if_true]
      refine MsgNew.keep ⟨hg, lt_of_heap hn, fun j hj => cell_of_heap hn ?_⟩ (Nat.le_refl _) kp
      have : j = 0 ∨ j = 1 ∨ j = 2 ∨ j = 3 ∨ j = 4 ∨ j = 5 := by omega
      rcases this with rfl | rfl | rfl | rfl | rfl | rfl <;> rfl
    · simp only [if_neg he]
      exact ((hP i (by omega)).keep (Nat.le_refl _) (Keep.ofBelow hb)).keep (Nat.le_refl _) kp

/-- What building an RPC leaves, but for its control message: the RPC lies in block C. -/
def RpcBuilt (w w' : World) (sn mn : Nat) (sf : Nat → Sub) (mf : Nat → Msg) (cp : Option Addr) : Prop :=
  ∃ (sa : Option Addr) (sc : Nat) (ma : Option Addr) (mc : Nat) (mb : Nat → Nat),
    w'.heap[w.heap.size]? = some (.cells #[.slice sa sn sc, .slice ma mn mc, .pointer cp] 66 (0, 0)) ∧ RowNew w' w.heap.size sa sn 2 (fun i j => (sf i).cell j) ∧
    RowNew w' w.heap.size ma mn 1 (fun i _ => .pointer (some ⟨mb i, 0, none⟩)) ∧ (∀ i, i < mn → MsgNew w' w.heap.size (mb i) (mf i)) ∧ Below w.heap.size w w'
/-- .. and its control message. -/
def CtlLies (w w' : World) (y : Ctl) (cb : Nat) : Prop := ∃ x : Ctl, x.body = y.body ∧ w.heap.size < cb ∧ (∀ j, j < 5 → w'.cell? ⟨cb, 0 + j, none⟩ = some (x.cell j)) ∧ x.In w' w'.heap.size ∧ cb < w'.heap.size

theorem ctl_lies {w w2 w3 w4 : World} {y : Ctl} (hlt : w.heap.size < w2.heap.size) (h : CtlBuilt w.heap.size w2 y w3) (hk : Keep w.heap.size w3 w4) : CtlLies w w4 y w2.heap.size := by
  obtain ⟨h1, h2, x, hx, h3⟩ := h
  obtain ⟨h4, h5⟩ := h3 w4 hk
  exact ⟨x, hx, hlt, h4, h5, Nat.lt_of_lt_of_le h1 hk.size⟩

theorem rpc_built {w w1 w2 w3 : World} {sn mn : Nat} {sf : Nat → Sub} {mf : Nat → Msg} {cp a0 a1 : Option Addr} {k0 k1 : Nat} {mb : Nat → Nat}
    (hh : w3.heap[w.heap.size]? = some (.cells #[.slice a0 sn k0, .slice a1 mn k1, .pointer cp] 66 (0, 0)))
    (n0 : RowNew w1 w.heap.size a0 sn 2 (fun i j => (sf i).cell j)) (n1 : RowNew w2 w.heap.size a1 mn 1 (fun i _ => .pointer (some ⟨mb i, 0, none⟩))) (hm : ∀ i, i < mn → MsgNew w2 w.heap.size (mb i) (mf i))
    (e1 : Keep w.heap.size w1 w2) (e2 : Keep w.heap.size w2 w3) (hb : Below w.heap.size w w3) : RpcBuilt w w3 sn mn sf mf cp :=
  ⟨a0, k0, a1, k1, mb, hh, (n0.keep (Nat.le_refl _) e1).keep (Nat.le_refl _) e2, n1.keep (Nat.le_refl _) e2, fun i hi => (hm i hi).keep (Nat.le_refl _) e2, hb⟩

set_option maxRecDepth 100000 in
set_option maxHeartbeats 4000000 in
theorem build_nil (sa : Option Addr) (sn sc : Nat) (sf : Nat → Sub) (ma : Option Addr) (mn mc : Nat) (mf : Nat → Msg) (ab ao : Nat → Nat) (w : World) (hsn : sn ≤ 1048576) (hmn : mn ≤ 1048576)
    (hsr : RowAt w w.heap.size sa sn 2 (fun i j => (sf i).cell j)) (hmr : RowAt w w.heap.size ma mn 1 (fun i _ => .pointer (some ⟨ab i, ao i, none⟩)))
    (hme : ∀ i, i < mn → ab i < w.heap.size ∧ ∀ j, j < 6 → w.cell? ⟨ab i, ao i + j, none⟩ = some ((mf i).cell j)) :
    Calls Try.prog 7 #[.slice sa sn sc, .slice ma mn mc, .pointer none] w fun e w' => e = .returned (.pointer (some ⟨w.heap.size, 0, none⟩)) ∧ RpcBuilt w w' sn mn sf mf none := by
  have HSR : Hid (RowAt w w.heap.size sa sn 2 (fun i j => (sf i).cell j)) := hsr
  have HMR : Hid (RowAt w w.heap.size ma mn 1 (fun i _ => .pointer (some ⟨ab i, ao i, none⟩))) := hmr
  have HME : Hid (∀ i, i < mn → ab i < w.heap.size ∧ ∀ j, j < 6 → w.cell? ⟨ab i, ao i + j, none⟩ = some ((mf i).cell j)) := hme
  clear hsr hmr hme
  have hmk0 := run_mk 62 67 _ 2 16 sn Try.underlying62 Try.info67 (by omega) (by omega)
  have hmk1 := run_mk 63 69 _ 1 8 mn Try.underlying63 Try.info69 (by omega) (by omega)
  go_enter Try.func7, Try.ntmps7
  go_upto_if 17 with fail
  generalize hw0 : w.alloc (Obj.cells #[.slice none 0 0, .slice none 0 0, .pointer none] 66) = w0
  have HB0 : Hid (Below w.heap.size w w0) := by rw [← hw0]; exact (Below.refl _ _).alloc (Nat.le_refl _) _
  have HH0 : Hid (w0.heap[w.heap.size]? = some (.cells #[.slice none 0 0, .slice none 0 0, .pointer none] 66 (0, 0))) := by rw [← hw0]; exact heap_alloc_new _ _
  clear hw0
  go_cut [] (fun wc => Hid (∃ a c, wc.heap[w.heap.size]? = some (.cells #[.slice a sn c, .slice none 0 0, .pointer none] 66 (0, 0)) ∧ RowNew wc w.heap.size a sn 2 (fun i j => (sf i).cell j) ∧ Keep w.heap.size w0 wc))
  case first =>
    as_aux_lemma =>
    by_cases h0 : 0 < sn
    · obtain ⟨rb, ro, rfl, hrb, hrc⟩ := HSR.out.2 h0
      have HRC : Hid _ := hrc
      clear hrc
      go_wp2_with fail
      go_loopw [9, 23] (fun _ i wr => ∃ k : Nat, k ≤ sn ∧ i = .int .i64 k ∧ Hid (Filling w0 wr 67 sn 2 k (fun i j => (sf i).cell j))) (fun _ i _ => sn - (intOf i).toNat)
      case atStart => exact ⟨0, Nat.zero_le _, rfl, Filling.new _ _ _ _ _ _⟩
      case round =>
      obtain ⟨k, hk, rfl, HR⟩ := hrel
      have HBR : Hid (Below w.heap.size w wr) := HB0.out.trans (HR.out.2.mono (Nat.le_of_lt (lt_of_heap HH0.out)))
      by_cases hlt : k < sn
      case pos =>
        have y0 : wr.cell? ⟨rb, ro + k * 2, none⟩ = some (.pointer (sf k).p) := (HBR.out.cell hrb).trans (HRC.out k 0 hlt (by omega))
        have y1 : wr.cell? ⟨rb, ro + k * 2 + 1, none⟩ = some (.pointer (sf k).q) := (HBR.out.cell hrb).trans (HRC.out k 1 hlt (by omega))
        obtain ⟨v0, x0⟩ : ∃ v, wr.cell? ⟨w0.heap.size, k * 2, none⟩ = some v := HR.out.1.old (i := k) (j := 0) hlt (by omega)
        obtain ⟨v1, x1⟩ : ∃ v, wr.cell? ⟨w0.heap.size, k * 2 + 1, none⟩ = some v := HR.out.1.old (i := k) (j := 1) hlt (by omega)
        have x9 := HR.out.1.free
        go_wp2_with fail
        refine ⟨⟨k + 1, by omega, by go_num, HR.out.set2 hlt _ _ rfl rfl⟩, by simp [intOf]; omega⟩
      obtain rfl : sn = k := by omega
      clear hlt hk
      have q1 := cell_of_heap (HR.out.heap HH0.out) (j := 0) (v := .slice none 0 0) rfl
      have q2 := free_of_heap (HR.out.heap HH0.out) 0
      go_wp2_with fail
      go_meet
      exact ⟨_, _, stage_done HR.out HH0.out 0⟩
    · go_wp2_with fail
      go_meet
      exact ⟨none, 0, by rw [HH0.out, show sn = 0 from by omega], RowNew.zero _ _ _ _ _ h0, Keep.refl _ _⟩
  case rest =>
  obtain ⟨w1, rfl⟩ : ∃ w1, w1 = wc := ⟨_, rfl⟩
  obtain ⟨a0, k0, hh, hrn, hkp⟩ := hcut.out
  clear hcut
  have HH1 : Hid _ := hh
  have HN0 : Hid _ := hrn
  have HB1 : Hid (Below w.heap.size w w1) := hkp.below HB0.out (Nat.le_of_lt (lt_of_heap HH0.out))
  clear hh hrn hkp
  go_upto_if 40 with fail
  go_cut [] (fun wc => Hid (∃ (a : Option Addr) (c : Nat) (mb : Nat → Nat), wc.heap[w.heap.size]? = some (.cells #[.slice a0 sn k0, .slice a mn c, .pointer none] 66 (0, 0)) ∧ RowNew wc w.heap.size a mn 1 (fun i _ => .pointer (some ⟨mb i, 0, none⟩)) ∧ Keep w.heap.size w1 wc ∧ ∀ i, i < mn → MsgNew wc w.heap.size (mb i) (mf i)))
  case first =>
    as_aux_lemma =>
    by_cases h0 : 0 < mn
    · obtain ⟨rb, ro, rfl, hrb, hrc⟩ := HMR.out.2 h0
      have HRC : Hid (∀ i, i < mn → w.cell? ⟨rb, ro + i, none⟩ = some (.pointer (some ⟨ab i, ao i, none⟩))) := fun i hi => by simpa using hrc i 0 hi (by omega)
      clear hrc
      go_wp2_with fail
      go_loopw [11, 12, 46] (fun _ _ i wr => ∃ k : Nat, k ≤ mn ∧ i = .int .i64 k ∧ Hid (∃ mb : Nat → Nat, Filling w1 wr 69 mn 1 k (fun i _ => .pointer (some ⟨mb i, 0, none⟩)) ∧ ∀ i, i < k → MsgNew wr w1.heap.size (mb i) (mf i))) (fun _ _ i _ => mn - (intOf i).toNat)
      case atStart => exact ⟨0, Nat.zero_le _, rfl, fun _ => 0, Filling.new1 _ _ _ _ _, fun i hi => absurd hi (by omega)⟩
      case round =>
      obtain ⟨k, hk, rfl, HR⟩ := hrel
      obtain ⟨mb, HR, HP⟩ : ∃ mb : Nat → Nat, Hid (Filling w1 wr 69 mn 1 k (fun i _ => .pointer (some ⟨mb i, 0, none⟩))) ∧ Hid (∀ i, i < k → MsgNew wr w1.heap.size (mb i) (mf i)) := HR.out
      have HBR : Hid (Below w.heap.size w wr) := HB1.out.trans (HR.out.2.mono (Nat.le_of_lt (lt_of_heap HH1.out)))
      by_cases hlt : k < mn
      case pos =>
        have hab := (HME.out k hlt).1
        have y : wr.cell? ⟨rb, ro + k, none⟩ = some (.pointer (some ⟨ab k, ao k, none⟩)) := (HBR.out.cell hrb).trans (HRC.out k hlt)
        have y0 : wr.cell? ⟨ab k, ao k, none⟩ = some (.slice (mf k).f.a (mf k).f.n (mf k).f.c) := (HBR.out.cell hab).trans ((HME.out k hlt).2 0 (by omega))
        have y1 : wr.cell? ⟨ab k, ao k + 1, none⟩ = some (.slice (mf k).d.a (mf k).d.n (mf k).d.c) := (HBR.out.cell hab).trans ((HME.out k hlt).2 1 (by omega))
        have y2 : wr.cell? ⟨ab k, ao k + 2, none⟩ = some (.slice (mf k).q.a (mf k).q.n (mf k).q.c) := (HBR.out.cell hab).trans ((HME.out k hlt).2 2 (by omega))
        have y3 : wr.cell? ⟨ab k, ao k + 3, none⟩ = some (.string (mf k).t) := (HBR.out.cell hab).trans ((HME.out k hlt).2 3 (by omega))
        have y4 : wr.cell? ⟨ab k, ao k + 4, none⟩ = some (.slice (mf k).g.a (mf k).g.n (mf k).g.c) := (HBR.out.cell hab).trans ((HME.out k hlt).2 4 (by omega))
        have y5 : wr.cell? ⟨ab k, ao k + 5, none⟩ = some (.slice (mf k).k.a (mf k).k.n (mf k).k.c) := (HBR.out.cell hab).trans ((HME.out k hlt).2 5 (by omega))
        clear hab
        have hgs : w1.heap.size < wr.heap.size := HR.out.1.lt
        obtain ⟨v0, x0⟩ : ∃ v, wr.cell? ⟨w1.heap.size, k, none⟩ = some v := by simpa using HR.out.1.old (i := k) (j := 0) hlt (by omega)
        have x9 := HR.out.1.free
        have x0' : ∀ ob, (wr.alloc ob).cell? ⟨w1.heap.size, k, none⟩ = some v0 := fun ob => by rw [World.cell?_alloc_past _ _ _ hgs]; exact x0
        have x9' : ∀ ob, (wr.alloc ob).frozen? ⟨w1.heap.size, k, none⟩ = false := fun ob => ((Below.refl wr.heap.size wr).alloc (Nat.le_refl _) ob).frozen (p := ⟨w1.heap.size, k, none⟩) hgs |>.trans (x9 k)
        go_wp2_with fail
        refine ⟨⟨k + 1, by omega, by go_num, ?_⟩, by simp [intOf]; omega⟩
        exact msg_step HR.out HP.out hlt
      obtain rfl : mn = k := by omega
      clear hlt hk
      have q1 := cell_of_heap (HR.out.heap HH1.out) (j := 1) (v := .slice none 0 0) rfl
      have q2 := free_of_heap (HR.out.heap HH1.out) 1
      go_wp2_with fail
      go_meet
      obtain ⟨e1, e2, e3⟩ := stage_done HR.out HH1.out 1
      exact ⟨_, _, mb, e1, e2, e3, fun i hi => (((HP.out i hi).less (Nat.le_of_lt (lt_of_heap HH1.out))).keep (Nat.le_refl _) ((Keep.refl _ _).setCell _ _))⟩
    · go_wp2_with fail
      go_meet
      exact ⟨none, 0, fun _ => 0, by rw [HH1.out, show mn = 0 from by omega], RowNew.zero _ _ _ _ _ h0, Keep.refl _ _, fun i hi => absurd hi (by omega)⟩
  case rest =>
  obtain ⟨w2, rfl⟩ : ∃ w2, w2 = wc := ⟨_, rfl⟩
  obtain ⟨a1, k1, mb, hh, hrn, hkp, hmp⟩ := hcut.out
  clear hcut
  have HH2 : Hid _ := hh
  have HN1 : Hid _ := hrn
  have HK1 : Hid _ := hkp
  have HMP : Hid _ := hmp
  have HB2 : Hid (Below w.heap.size w w2) := hkp.below HB1.out (Nat.le_of_lt (lt_of_heap HH1.out))
  clear hh hrn hkp hmp
  go_wp2_with fail
  go_ret
  exact ⟨rfl, rpc_built HH2.out HN0.out HN1.out HMP.out HK1.out (Keep.refl _ _) HB2.out⟩

set_option maxRecDepth 100000 in
set_option maxHeartbeats 4000000 in
theorem build_ctl (sa : Option Addr) (sn sc : Nat) (sf : Nat → Sub) (ma : Option Addr) (mn mc : Nat) (mf : Nat → Msg) (ab ao : Nat → Nat) (cb co : Nat) (y : Ctl) (w : World) (hsn : sn ≤ 1048576) (hmn : mn ≤ 1048576)
    (hsr : RowAt w w.heap.size sa sn 2 (fun i j => (sf i).cell j)) (hmr : RowAt w w.heap.size ma mn 1 (fun i _ => .pointer (some ⟨ab i, ao i, none⟩)))
    (hme : ∀ i, i < mn → ab i < w.heap.size ∧ ∀ j, j < 6 → w.cell? ⟨ab i, ao i + j, none⟩ = some ((mf i).cell j)) (hcb : cb < w.heap.size) (hcc : ∀ j, j < 5 → w.cell? ⟨cb, co + j, none⟩ = some (y.cell j)) (hy : y.In w w.heap.size) (hys : y.Small) :
    Calls Try.prog 7 #[.slice sa sn sc, .slice ma mn mc, .pointer (some ⟨cb, co, none⟩)] w fun e w' => e = .returned (.pointer (some ⟨w.heap.size, 0, none⟩)) ∧ ∃ cb, RpcBuilt w w' sn mn sf mf (some ⟨cb, 0, none⟩) ∧ CtlLies w w' y cb := by
  have HSR : Hid (RowAt w w.heap.size sa sn 2 (fun i j => (sf i).cell j)) := hsr
  have HMR : Hid (RowAt w w.heap.size ma mn 1 (fun i _ => .pointer (some ⟨ab i, ao i, none⟩))) := hmr
  have HME : Hid (∀ i, i < mn → ab i < w.heap.size ∧ ∀ j, j < 6 → w.cell? ⟨ab i, ao i + j, none⟩ = some ((mf i).cell j)) := hme
  clear hsr hmr hme
  have HCC : Hid (∀ j, j < 5 → w.cell? ⟨cb, co + j, none⟩ = some (y.cell j)) := hcc
  have HY : Hid (y.In w w.heap.size) := hy
  have HYS : Hid y.Small := hys
  clear hcc hy hys
  have hmk0 := run_mk 62 67 _ 2 16 sn Try.underlying62 Try.info67 (by omega) (by omega)
  have hmk1 := run_mk 63 69 _ 1 8 mn Try.underlying63 Try.info69 (by omega) (by omega)
  go_enter Try.func7, Try.ntmps7
  go_upto_if 17 with fail
  generalize hw0 : w.alloc (Obj.cells #[.slice none 0 0, .slice none 0 0, .pointer none] 66) = w0
  have HB0 : Hid (Below w.heap.size w w0) := by rw [← hw0]; exact (Below.refl _ _).alloc (Nat.le_refl _) _
  have HH0 : Hid (w0.heap[w.heap.size]? = some (.cells #[.slice none 0 0, .slice none 0 0, .pointer none] 66 (0, 0))) := by rw [← hw0]; exact heap_alloc_new _ _
  clear hw0
  go_cut [] (fun wc => Hid (∃ a c, wc.heap[w.heap.size]? = some (.cells #[.slice a sn c, .slice none 0 0, .pointer none] 66 (0, 0)) ∧ RowNew wc w.heap.size a sn 2 (fun i j => (sf i).cell j) ∧ Keep w.heap.size w0 wc))
  case first =>
    as_aux_lemma =>
    by_cases h0 : 0 < sn
    · obtain ⟨rb, ro, rfl, hrb, hrc⟩ := HSR.out.2 h0
      have HRC : Hid _ := hrc
      clear hrc
      go_wp2_with fail
      go_loopw [9, 23] (fun _ i wr => ∃ k : Nat, k ≤ sn ∧ i = .int .i64 k ∧ Hid (Filling w0 wr 67 sn 2 k (fun i j => (sf i).cell j))) (fun _ i _ => sn - (intOf i).toNat)
      case atStart => exact ⟨0, Nat.zero_le _, rfl, Filling.new _ _ _ _ _ _⟩
      case round =>
      obtain ⟨k, hk, rfl, HR⟩ := hrel
      have HBR : Hid (Below w.heap.size w wr) := HB0.out.trans (HR.out.2.mono (Nat.le_of_lt (lt_of_heap HH0.out)))
      by_cases hlt : k < sn
      case pos =>
        have y0 : wr.cell? ⟨rb, ro + k * 2, none⟩ = some (.pointer (sf k).p) := (HBR.out.cell hrb).trans (HRC.out k 0 hlt (by omega))
        have y1 : wr.cell? ⟨rb, ro + k * 2 + 1, none⟩ = some (.pointer (sf k).q) := (HBR.out.cell hrb).trans (HRC.out k 1 hlt (by omega))
        obtain ⟨v0, x0⟩ : ∃ v, wr.cell? ⟨w0.heap.size, k * 2, none⟩ = some v := HR.out.1.old (i := k) (j := 0) hlt (by omega)
        obtain ⟨v1, x1⟩ : ∃ v, wr.cell? ⟨w0.heap.size, k * 2 + 1, none⟩ = some v := HR.out.1.old (i := k) (j := 1) hlt (by omega)
        have x9 := HR.out.1.free
        go_wp2_with fail
        refine ⟨⟨k + 1, by omega, by go_num, HR.out.set2 hlt _ _ rfl rfl⟩, by simp [intOf]; omega⟩
      obtain rfl : sn = k := by omega
      clear hlt hk
      have q1 := cell_of_heap (HR.out.heap HH0.out) (j := 0) (v := .slice none 0 0) rfl
      have q2 := free_of_heap (HR.out.heap HH0.out) 0
      go_wp2_with fail
      go_meet
      exact ⟨_, _, stage_done HR.out HH0.out 0⟩
    · go_wp2_with fail
      go_meet
      exact ⟨none, 0, by rw [HH0.out, show sn = 0 from by omega], RowNew.zero _ _ _ _ _ h0, Keep.refl _ _⟩
  case rest =>
  obtain ⟨w1, rfl⟩ : ∃ w1, w1 = wc := ⟨_, rfl⟩
  obtain ⟨a0, k0, hh, hrn, hkp⟩ := hcut.out
  clear hcut
  have HH1 : Hid _ := hh
  have HN0 : Hid _ := hrn
  have HB1 : Hid (Below w.heap.size w w1) := hkp.below HB0.out (Nat.le_of_lt (lt_of_heap HH0.out))
  clear hh hrn hkp
  go_upto_if 40 with fail
  go_cut [] (fun wc => Hid (∃ (a : Option Addr) (c : Nat) (mb : Nat → Nat), wc.heap[w.heap.size]? = some (.cells #[.slice a0 sn k0, .slice a mn c, .pointer none] 66 (0, 0)) ∧ RowNew wc w.heap.size a mn 1 (fun i _ => .pointer (some ⟨mb i, 0, none⟩)) ∧ Keep w.heap.size w1 wc ∧ ∀ i, i < mn → MsgNew wc w.heap.size (mb i) (mf i)))
  case first =>
    as_aux_lemma =>
    by_cases h0 : 0 < mn
    · obtain ⟨rb, ro, rfl, hrb, hrc⟩ := HMR.out.2 h0
      have HRC : Hid (∀ i, i < mn → w.cell? ⟨rb, ro + i, none⟩ = some (.pointer (some ⟨ab i, ao i, none⟩))) := fun i hi => by simpa using hrc i 0 hi (by omega)
      clear hrc
      go_wp2_with fail
      go_loopw [11, 12, 46] (fun _ _ i wr => ∃ k : Nat, k ≤ mn ∧ i = .int .i64 k ∧ Hid (∃ mb : Nat → Nat, Filling w1 wr 69 mn 1 k (fun i _ => .pointer (some ⟨mb i, 0, none⟩)) ∧ ∀ i, i < k → MsgNew wr w1.heap.size (mb i) (mf i))) (fun _ _ i _ => mn - (intOf i).toNat)
      case atStart => exact ⟨0, Nat.zero_le _, rfl, fun _ => 0, Filling.new1 _ _ _ _ _, fun i hi => absurd hi (by omega)⟩
      case round =>
      obtain ⟨k, hk, rfl, HR⟩ := hrel
      obtain ⟨mb, HR, HP⟩ : ∃ mb : Nat → Nat, Hid (Filling w1 wr 69 mn 1 k (fun i _ => .pointer (some ⟨mb i, 0, none⟩))) ∧ Hid (∀ i, i < k → MsgNew wr w1.heap.size (mb i) (mf i)) := HR.out
      have HBR : Hid (Below w.heap.size w wr) := HB1.out.trans (HR.out.2.mono (Nat.le_of_lt (lt_of_heap HH1.out)))
      by_cases hlt : k < mn
      case pos =>
        have hab := (HME.out k hlt).1
        have y : wr.cell? ⟨rb, ro + k, none⟩ = some (.pointer (some ⟨ab k, ao k, none⟩)) := (HBR.out.cell hrb).trans (HRC.out k hlt)
        have y0 : wr.cell? ⟨ab k, ao k, none⟩ = some (.slice (mf k).f.a (mf k).f.n (mf k).f.c) := (HBR.out.cell hab).trans ((HME.out k hlt).2 0 (by omega))
        have y1 : wr.cell? ⟨ab k, ao k + 1, none⟩ = some (.slice (mf k).d.a (mf k).d.n (mf k).d.c) := (HBR.out.cell hab).trans ((HME.out k hlt).2 1 (by omega))
        have y2 : wr.cell? ⟨ab k, ao k + 2, none⟩ = some (.slice (mf k).q.a (mf k).q.n (mf k).q.c) := (HBR.out.cell hab).trans ((HME.out k hlt).2 2 (by omega))
        have y3 : wr.cell? ⟨ab k, ao k + 3, none⟩ = some (.string (mf k).t) := (HBR.out.cell hab).trans ((HME.out k hlt).2 3 (by omega))
        have y4 : wr.cell? ⟨ab k, ao k + 4, none⟩ = some (.slice (mf k).g.a (mf k).g.n (mf k).g.c) := (HBR.out.cell hab).trans ((HME.out k hlt).2 4 (by omega))
        have y5 : wr.cell? ⟨ab k, ao k + 5, none⟩ = some (.slice (mf k).k.a (mf k).k.n (mf k).k.c) := (HBR.out.cell hab).trans ((HME.out k hlt).2 5 (by omega))
        clear hab
        have hgs : w1.heap.size < wr.heap.size := HR.out.1.lt
        obtain ⟨v0, x0⟩ : ∃ v, wr.cell? ⟨w1.heap.size, k, none⟩ = some v := by simpa using HR.out.1.old (i := k) (j := 0) hlt (by omega)
        have x9 := HR.out.1.free
        have x0' : ∀ ob, (wr.alloc ob).cell? ⟨w1.heap.size, k, none⟩ = some v0 := fun ob => by rw [World.cell?_alloc_past _ _ _ hgs]; exact x0
        have x9' : ∀ ob, (wr.alloc ob).frozen? ⟨w1.heap.size, k, none⟩ = false := fun ob => ((Below.refl wr.heap.size wr).alloc (Nat.le_refl _) ob).frozen (p := ⟨w1.heap.size, k, none⟩) hgs |>.trans (x9 k)
        go_wp2_with fail
        refine ⟨⟨k + 1, by omega, by go_num, ?_⟩, by simp [intOf]; omega⟩
        exact msg_step HR.out HP.out hlt
      obtain rfl : mn = k := by omega
      clear hlt hk
      have q1 := cell_of_heap (HR.out.heap HH1.out) (j := 1) (v := .slice none 0 0) rfl
      have q2 := free_of_heap (HR.out.heap HH1.out) 1
      go_wp2_with fail
      go_meet
      obtain ⟨e1, e2, e3⟩ := stage_done HR.out HH1.out 1
      exact ⟨_, _, mb, e1, e2, e3, fun i hi => (((HP.out i hi).less (Nat.le_of_lt (lt_of_heap HH1.out))).keep (Nat.le_refl _) ((Keep.refl _ _).setCell _ _))⟩
    · go_wp2_with fail
      go_meet
      exact ⟨none, 0, fun _ => 0, by rw [HH1.out, show mn = 0 from by omega], RowNew.zero _ _ _ _ _ h0, Keep.refl _ _, fun i hi => absurd hi (by omega)⟩
  case rest =>
  obtain ⟨w2, rfl⟩ : ∃ w2, w2 = wc := ⟨_, rfl⟩
  obtain ⟨a1, k1, mb, hh, hrn, hkp, hmp⟩ := hcut.out
  clear hcut
  have HH2 : Hid _ := hh
  have HN1 : Hid _ := hrn
  have HK1 : Hid _ := hkp
  have HMP : Hid _ := hmp
  have HB2 : Hid (Below w.heap.size w w2) := hkp.below HB1.out (Nat.le_of_lt (lt_of_heap HH1.out))
  clear hh hrn hkp hmp
  go_wp2_with fail
  have hlt2 : w.heap.size < w2.heap.size := lt_of_heap HH2.out
  refine (buildCtl_any w.heap.size cb co y w2 hlt2 (Nat.lt_of_lt_of_le hcb HB2.out.size) (fun j hj => (HB2.out.cell hcb).trans (HCC.out j hj)) (HY.out.below HB2.out) HYS.out).mono ?_
  rintro e w3 ⟨rfl, hct⟩
  have HCT : Hid (CtlBuilt w.heap.size w2 y w3) := hct
  clear hct
  have HB3 : Hid (Below w2.heap.size w2 w3) := HCT.out.2.1
  have HH3 : Hid (w3.heap[w.heap.size]? = _) := (HB3.out.block _ hlt2).trans HH2.out
  have q1 := cell_of_heap HH3.out (j := 2) (v := .pointer none) rfl
  have q2 := free_of_heap HH3.out 2
  go_wp2_with fail
  go_ret
  exact ⟨rfl, w2.heap.size, rpc_built (set_heap HH3.out 2 _) HN0.out HN1.out HMP.out HK1.out ((Keep.ofBelow HB3.out).setCell _ _) ((HB2.out.trans (HB3.out.mono (Nat.le_of_lt hlt2))).setCell (Nat.le_refl _) _), ctl_lies hlt2 HCT.out ((Keep.refl _ _).setCell _ _)⟩

end Go.Proofs.Qxb6616574a
