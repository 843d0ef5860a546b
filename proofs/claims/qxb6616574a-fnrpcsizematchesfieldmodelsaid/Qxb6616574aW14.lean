import Derived.Test.Qxb6616574aW13
import Derived.Deep.DeepCutAuto
namespace Go.Proofs.Qxb6616574a
open Go.RowKit

theorem Try.info86 : (Try.prog.info? 86).map (fun i => (i.zero, i.size, i.bytes)) = some (some (.agg #[.pointer none, .slice none 0 0]), 2, 32) := by kernel_rfl
theorem Try.info87 : (Try.prog.info? 87).map (fun i => (i.zero, i.size, i.bytes)) = some (some (.agg #[.slice none 0 0]), 1, 24) := by kernel_rfl
theorem Try.info88 : (Try.prog.info? 88).map (fun i => (i.zero, i.size, i.bytes)) = some (some (.agg #[.pointer none]), 1, 8) := by kernel_rfl
theorem Try.info92 : (Try.prog.info? 92).map (fun i => (i.zero, i.size, i.bytes)) = some (some (.agg #[.pointer none, .slice none 0 0, .pointer none]), 3, 40) := by kernel_rfl
theorem Try.info90 : (Try.prog.info? 90).map (fun i => (i.zero, i.size, i.bytes)) = some (some (.agg #[.slice none 0 0, .slice none 0 0]), 2, 48) := by kernel_rfl
theorem Try.info93 : (Try.prog.info? 93).map (fun i => (i.zero, i.size, i.bytes)) = some (some (.agg #[.slice none 0 0]), 1, 24) := by kernel_rfl
theorem Try.info67 : (Try.prog.info? 67).map (fun i => (i.zero, i.size, i.bytes)) = some (some (.agg #[.pointer none, .pointer none]), 2, 16) := by kernel_rfl
theorem Try.info69 : (Try.prog.info? 69).map (fun i => (i.zero, i.size, i.bytes)) = some (some (.pointer none), 1, 8) := by kernel_rfl

/-- Every length is at most 2^20. -/
structure Ctl.Small (x : Ctl) : Prop where
  h : x.h.n ≤ 1048576
  i : x.i.n ≤ 1048576
  g : x.g.n ≤ 1048576
  p : x.p.n ≤ 1048576
  d : x.d.n ≤ 1048576
  pp : ∀ k, k < x.p.n → (x.p.f k).pn ≤ 1048576

theorem cell_of_heap {w : World} {C T : Nat} {arr : Array Value} (h : w.heap[C]? = some (.cells arr T (0, 0))) {j : Nat} {v : Value} (hv : arr[j]? = some v) : w.cell? ⟨C, j, none⟩ = some v := by
  simp [World.cell?, h, hv]
theorem free_of_heap {w : World} {C T : Nat} {arr : Array Value} (h : w.heap[C]? = some (.cells arr T (0, 0))) (j : Nat) : w.frozen? ⟨C, j, none⟩ = false := by
  simp [World.frozen?, h]
theorem lt_of_heap {w : World} {C : Nat} {ob : Obj} (h : w.heap[C]? = some ob) : C < w.heap.size := (Array.getElem?_eq_some_iff.1 h).1

/-- The state in a loop that fills a new row, block g = the heap's size ahead of it. -/
def Filling (wp wr : World) (T n size k : Nat) (V : Nat → Nat → Value) : Prop := Fill wr wp.heap.size T n size k V ∧ Below wp.heap.size wp wr

theorem Filling.new (wp : World) (z : Array Value) (T n size : Nat) (V : Nat → Nat → Value) : Filling wp (wp.alloc (.cells (made z (n * size)) T)) T n size 0 V :=
  ⟨Fill.new _ _ _ _ _ _, (Below.refl _ _).alloc (Nat.le_refl _) _⟩
theorem Filling.new1 (wp : World) (z : Array Value) (T n : Nat) (V : Nat → Nat → Value) : Filling wp (wp.alloc (.cells (made z n) T)) T n 1 0 V := by
  have := Filling.new wp z T n 1 V
  rwa [Nat.mul_one] at this
theorem Filling.set1 {wp wr : World} {T n k : Nat} {V : Nat → Nat → Value} (h : Filling wp wr T n 1 k V) (hk : k < n) (v : Value) (hv : V k 0 = v) : Filling wp (wr.setCell ⟨wp.heap.size, k, none⟩ v) T n 1 (k + 1) V :=
  ⟨h.1.set1 hk v hv, h.2.setCell (Nat.le_refl _) _⟩
theorem Filling.set2 {wp wr : World} {T n k : Nat} {V : Nat → Nat → Value} (h : Filling wp wr T n 2 k V) (hk : k < n) (v0 v1 : Value) (h0 : V k 0 = v0) (h1 : V k 1 = v1) :
    Filling wp ((wr.setCell ⟨wp.heap.size, k * 2, none⟩ v0).setCell ⟨wp.heap.size, k * 2 + 1, none⟩ v1) T n 2 (k + 1) V :=
  ⟨h.1.set2 hk v0 v1 h0 h1, (h.2.setCell (Nat.le_refl _) _).setCell (Nat.le_refl _) _⟩
theorem Filling.heap {wp wr : World} {T n size k : Nat} {V : Nat → Nat → Value} (h : Filling wp wr T n size k V) {C : Nat} {ob : Obj} (hC : wp.heap[C]? = some ob) : wr.heap[C]? = some ob :=
  (h.2.block C (lt_of_heap hC)).trans hC

/-- What a stage leaves: the field's slice, made anew, in the control message's own block C. -/
theorem stage_done {wp wr : World} {C T D n size : Nat} {V : Nat → Nat → Value} {arr : Array Value} (h : Filling wp wr T n size n V) (hC : wp.heap[C]? = some (.cells arr D (0, 0))) (j : Nat) :
    (wr.setCell ⟨C, j, none⟩ (.slice (some ⟨wp.heap.size, 0, none⟩) n n)).heap[C]? = some (.cells (arr.setIfInBounds j (.slice (some ⟨wp.heap.size, 0, none⟩) n n)) D (0, 0)) ∧
    RowNew (wr.setCell ⟨C, j, none⟩ (.slice (some ⟨wp.heap.size, 0, none⟩) n n)) C (some ⟨wp.heap.size, 0, none⟩) n size V ∧
    Keep C wp (wr.setCell ⟨C, j, none⟩ (.slice (some ⟨wp.heap.size, 0, none⟩) n n)) := by
  have hlt := lt_of_heap hC
  refine ⟨set_heap (h.heap hC) _ _, RowNew.ofFill (T := T) (h.1.congr (Below.heap_setCell _ _ _ _ (by show wp.heap.size ≠ C; omega))) hlt, (Keep.ofBelow h.2).setCell _ _⟩

/-- A PRUNE, built: all but where its peers lie is the source's. -/
def PrNew (w : World) (g : Nat) (y x : Pr) : Prop :=
  y.q = x.q ∧ y.s = x.s ∧ y.pn = x.pn ∧ y.ps = x.ps ∧ y.k = x.k ∧ y.v = x.v ∧ RowNew w g y.pa y.pn 2 (fun i j => (y.ps i).cell j)
theorem PrNew.keep {w w' : World} {g D : Nat} {y x : Pr} (h : PrNew w g y x) (hD : D ≤ g) (hk : Keep D w w') : PrNew w' g y x :=
  ⟨h.1, h.2.1, h.2.2.1, h.2.2.2.1, h.2.2.2.2.1, h.2.2.2.2.2.1, h.2.2.2.2.2.2.keep hD hk⟩
theorem RowNew.less {w : World} {C D : Nat} {a : Option Addr} {n size : Nat} {V : Nat → Nat → Value} (h : RowNew w C a n size V) (hD : D ≤ C) : RowNew w D a n size V := by
  intro h0
  obtain ⟨b, ha, hC, hlt, hc⟩ := h h0
  exact ⟨b, ha, by omega, hlt, hc⟩
theorem PrNew.less {w : World} {g D : Nat} {y x : Pr} (h : PrNew w g y x) (hD : D ≤ g) : PrNew w D y x :=
  ⟨h.1, h.2.1, h.2.2.1, h.2.2.2.1, h.2.2.2.2.1, h.2.2.2.2.2.1, h.2.2.2.2.2.2.less hD⟩
theorem PrNew.body {w : World} {g : Nat} {y x : Pr} (h : PrNew w g y x) : y.body = x.body := by
  obtain ⟨h1, h2, h3, h4, h5, h6, _⟩ := h
  unfold Pr.body Pr.peers
  rw [h1, h2, h3, h4, h5, h6]

/-- What a round of the loop over the PRUNEs does. -/
theorem prune_step {w3 wr wc : World} {n k : Nat} {xf f' : Nat → Pr} (hF : Filling w3 wr 92 n 3 k (fun i j => (f' i).cell j)) (hP : ∀ i, i < k → PrNew wr w3.heap.size (f' i) (xf i))
    (hb : Below wr.heap.size wr wc) {a : Option Addr} {c : Nat} (hrow : RowNew wc w3.heap.size a (xf k).pn 2 (fun i j => ((xf k).ps i).cell j)) (hk : k < n) :
    ∃ f'' : Nat → Pr, Filling w3 (((wc.setCell ⟨w3.heap.size, k * 3, none⟩ (.pointer (xf k).q)).setCell ⟨w3.heap.size, k * 3 + 1, none⟩ (.slice a (xf k).pn c)).setCell ⟨w3.heap.size, k * 3 + 2, none⟩ (.pointer (xf k).k)) 92 n 3 (k + 1) (fun i j => (f'' i).cell j) ∧
      ∀ i, i < k + 1 → PrNew (((wc.setCell ⟨w3.heap.size, k * 3, none⟩ (.pointer (xf k).q)).setCell ⟨w3.heap.size, k * 3 + 1, none⟩ (.slice a (xf k).pn c)).setCell ⟨w3.heap.size, k * 3 + 2, none⟩ (.pointer (xf k).k)) w3.heap.size (f'' i) (xf i) := by
  have hg : w3.heap.size < wr.heap.size := hF.1.lt
  have kp : Keep w3.heap.size wc (((wc.setCell ⟨w3.heap.size, k * 3, none⟩ (.pointer (xf k).q)).setCell ⟨w3.heap.size, k * 3 + 1, none⟩ (.slice a (xf k).pn c)).setCell ⟨w3.heap.size, k * 3 + 2, none⟩ (.pointer (xf k).k)) :=
    (((Keep.refl _ _).setCell _ _).setCell _ _).setCell _ _
  refine ⟨fun i => if i = k then { xf k with pa := a, pc := c } else f' i, ⟨?_, ?_⟩, ?_⟩
  · have h1 : Fill wc w3.heap.size 92 n 3 k (fun i j => ((if i = k then { xf k with pa := a, pc := c } else f' i : Pr)).cell j) :=
      (hF.1.congr (hb.block _ hg)).to (fun i j hi => by simp only []; rw [if_neg (by omega)])
    exact h1.set3 hk _ _ _ (by simp [Pr.cell]) (by simp [Pr.cell]) (by simp [Pr.cell])
  · exact (((hF.2.trans (hb.mono (Nat.le_of_lt hg))).setCell (Nat.le_refl _) _).setCell (Nat.le_refl _) _).setCell (Nat.le_refl _) _
  · intro i hi
    by_cases he : i = k
    · subst he
      simp only [if_true]
      exact ⟨rfl, rfl, rfl, rfl, rfl, rfl, hrow.keep (Nat.le_refl _) kp⟩
    · simp only [if_neg he]
      exact ((hP i (by omega)).keep (Nat.le_refl _) (Keep.ofBelow hb)).keep (Nat.le_refl _) kp

/-- What building a control message leaves: a new one, in block w.heap.size, of the same length; it stays so whatever becomes of block D. -/
def CtlBuilt (D : Nat) (w : World) (x : Ctl) (w' : World) : Prop :=
  w.heap.size < w'.heap.size ∧ Below w.heap.size w w' ∧ ∃ y : Ctl, y.body = x.body ∧ ∀ w'', Keep D w' w'' → (∀ j, j < 5 → w''.cell? ⟨w.heap.size, 0 + j, none⟩ = some (y.cell j)) ∧ y.In w'' w''.heap.size

/-- A built PRUNE lies in memory. -/
theorem PrNew.isIn {w w' : World} {g B : Nat} {y x : Pr} (h : PrNew w' g y x) (hx : x.In w B) (hb : Below B w w') (hB : B ≤ w'.heap.size) (hn : x.pn ≤ maxLen) : y.In w' w'.heap.size := by
  obtain ⟨h1, h2, h3, h4, h5, h6, h7⟩ := h
  obtain ⟨x1, x2, x3, x4⟩ := hx
  refine ⟨?_, h7.at (by rw [h3]; exact hn), ?_, ?_⟩
  · rw [h1, h2]; exact (x1.below hb).more hB
  · rw [h3, h4]; exact x3
  · rw [h5, h6]; exact (x4.below hb).more hB

theorem Pl.sum_congr {f g : Nat → Int} : ∀ {n : Nat}, (∀ k, k < n → f k = g k) → Pl.sum f n = Pl.sum g n
  | 0, _ => rfl
  | n + 1, h => by rw [Pl.sum_succ, Pl.sum_succ, Pl.sum_congr (fun k hk => h k (by omega)), h n (by omega)]

theorem ctl_built {D : Nat} {w w1 w2 w3 w4 w5 : World} {x : Ctl} {a0 a1 a2 a3 a4 : Option Addr} {k0 k1 k2 k3 k4 : Nat} {f3 : Nat → Pr} (hD : D < w.heap.size) (hx : x.In w D)
    (hh : w5.heap[w.heap.size]? = some (.cells #[.slice a0 x.h.n k0, .slice a1 x.i.n k1, .slice a2 x.g.n k2, .slice a3 x.p.n k3, .slice a4 x.d.n k4] 85 (0, 0)))
    (n0 : RowNew w1 w.heap.size a0 x.h.n 2 (fun i j => (x.h.f i).cell j)) (n1 : RowNew w2 w.heap.size a1 x.i.n 1 (fun i _ => (x.i.f i).val)) (n2 : RowNew w3 w.heap.size a2 x.g.n 1 (fun i _ => .pointer (x.g.f i).q))
    (n3 : RowNew w4 w.heap.size a3 x.p.n 3 (fun i j => (f3 i).cell j)) (n4 : RowNew w5 w.heap.size a4 x.d.n 1 (fun i _ => (x.d.f i).val))
    (e1 : Keep w.heap.size w1 w2) (e2 : Keep w.heap.size w2 w3) (e3 : Keep w.heap.size w3 w4) (e4 : Keep w.heap.size w4 w5) (hp : ∀ i, i < x.p.n → PrNew w4 w.heap.size (f3 i) (x.p.f i)) (hbb : Below w.heap.size w w5) :
    CtlBuilt D w x w5 := by
  refine ⟨lt_of_heap hh, hbb, ⟨⟨a0, x.h.n, k0, x.h.f⟩, ⟨a1, x.i.n, k1, x.i.f⟩, ⟨a2, x.g.n, k2, x.g.f⟩, ⟨a3, x.p.n, k3, f3⟩, ⟨a4, x.d.n, k4, x.d.f⟩⟩, ?_, ?_⟩
  · unfold Ctl.body Ctl.hsum Ctl.isum Ctl.gsum Ctl.psum Ctl.dsum
    simp only []
    rw [Pl.sum_congr (f := fun k => Pl.field (f3 k).body) (g := fun k => Pl.field (x.p.f k).body) (fun k hk => by rw [(hp k hk).body])]
  intro w6 e5
  have hD' : D ≤ w.heap.size := Nat.le_of_lt hD
  have hb : Below D w w6 := e5.below (hbb.mono hD') (Nat.le_trans hD' hbb.size)
  have hB : D ≤ w6.heap.size := Nat.le_trans hD' (Nat.le_trans hbb.size e5.size)
  have hh6 := (e5.block _ (lt_of_heap hh) (by omega)).trans hh
  constructor
  · intro j hj
    rw [Nat.zero_add]
    refine cell_of_heap hh6 ?_
    have : j = 0 ∨ j = 1 ∨ j = 2 ∨ j = 3 ∨ j = 4 := by omega
    rcases this with rfl | rfl | rfl | rfl | rfl <;> rfl
  · refine ⟨?_, ?_, ?_, ?_, ?_, ?_, ?_, ?_, ?_, ?_⟩
    · exact (((((n0.keep (Nat.le_refl _) e1).keep (Nat.le_refl _) e2).keep (Nat.le_refl _) e3).keep (Nat.le_refl _) e4).keep hD' e5).at hx.hr.1
    · exact fun i hi => ((hx.he i hi).below hb).more hB
    · exact ((((n1.keep (Nat.le_refl _) e2).keep (Nat.le_refl _) e3).keep (Nat.le_refl _) e4).keep hD' e5).at hx.ir.1
    · exact fun i hi => ((hx.ie i hi).below hb).more hB
    · exact (((n2.keep (Nat.le_refl _) e3).keep (Nat.le_refl _) e4).keep hD' e5).at hx.gr.1
    · exact fun i hi => ((hx.ge i hi).below hb).more hB
    · exact ((n3.keep (Nat.le_refl _) e4).keep hD' e5).at hx.pr.1
    · exact fun i hi => (((hp i hi).keep (Nat.le_refl _) e4).keep hD' e5).isIn (hx.pe i hi) hb hB (hx.pe i hi).2.1.1
    · exact (n4.keep hD' e5).at hx.dr.1
    · exact fun i hi => ((hx.de i hi).below hb).more hB

set_option maxRecDepth 100000 in
set_option maxHeartbeats 4000000 in
theorem buildCtl_any (D sb so : Nat) (x : Ctl) (w : World) (hD : D < w.heap.size) (hsb : sb < w.heap.size) (hc : ∀ j, j < 5 → w.cell? ⟨sb, so + j, none⟩ = some (x.cell j)) (hx : x.In w D) (hs : x.Small) :
    Calls Try.prog 15 #[.pointer (some ⟨sb, so, none⟩)] w fun e w' => e = .returned (.pointer (some ⟨w.heap.size, 0, none⟩)) ∧
      CtlBuilt D w x w' := by
  have HX : Hid (x.In w w.heap.size) := hx.more (Nat.le_of_lt hD)
  have HXD : Hid (x.In w D) := hx
  have HDD : Hid (D < w.heap.size) := hD
  clear hD
  have HSM : Hid x.Small := hs
  have HC : Hid (∀ j, j < 5 → w.cell? ⟨sb, so + j, none⟩ = some (x.cell j)) := hc
  have s0 := hs.h
  have s1 := hs.i
  have s2 := hs.g
  have s3 := hs.p
  have s4 := hs.d
  clear hx hs hc
  have hmk0 := run_mk 79 86 _ 2 32 x.h.n Try.underlying79 Try.info86 (by omega) (by omega)
  have hmk1 := run_mk 80 87 _ 1 24 x.i.n Try.underlying80 Try.info87 (by omega) (by omega)
  have hmk2 := run_mk 81 88 _ 1 8 x.g.n Try.underlying81 Try.info88 (by omega) (by omega)
  have hmk3 := run_mk 82 92 _ 3 40 x.p.n Try.underlying82 Try.info92 (by omega) (by omega)
  have hmk4 := run_mk 83 93 _ 1 24 x.d.n Try.underlying83 Try.info93 (by omega) (by omega)
  have d0 : w.cell? ⟨sb, so, none⟩ = some (.slice x.h.a x.h.n x.h.c) := HC.out 0 (by omega)
  go_enter Try.func15, Try.ntmps15
  go_upto_if 24 with fail
  generalize hw0 : w.alloc (Obj.cells #[.slice none 0 0, .slice none 0 0, .slice none 0 0, .slice none 0 0, .slice none 0 0] 85) = w0
  have HB0 : Hid (Below w.heap.size w w0) := by rw [← hw0]; exact (Below.refl _ _).alloc (Nat.le_refl _) _
  have HH0 : Hid (w0.heap[w.heap.size]? = some (.cells #[.slice none 0 0, .slice none 0 0, .slice none 0 0, .slice none 0 0, .slice none 0 0] 85 (0, 0))) := by rw [← hw0]; exact heap_alloc_new _ _
  clear hw0 d0
  go_cut [] (fun wc => Hid (∃ a c, wc.heap[w.heap.size]? = some (.cells #[.slice a x.h.n c, .slice none 0 0, .slice none 0 0, .slice none 0 0, .slice none 0 0] 85 (0, 0)) ∧ RowNew wc w.heap.size a x.h.n 2 (fun i j => (x.h.f i).cell j) ∧ Keep w.heap.size w0 wc))
  case first =>
    as_aux_lemma =>
    by_cases h0 : 0 < x.h.n
    · obtain ⟨rb, ro, ha, hrb, hrc⟩ := HX.out.hr.2 h0
      have HRC : Hid _ := hrc
      have HD : Hid (w0.cell? ⟨sb, so, none⟩ = some (.slice (some ⟨rb, ro, none⟩) x.h.n x.h.c)) := by show _ = _; rw [← ha]; exact (HB0.out.cell hsb).trans (HC.out 0 (by omega))
      clear ha hrc
      have q0 := HD.out
      have hsl : sb < w0.heap.size := Nat.lt_of_lt_of_le hsb (Nat.le_of_lt (lt_of_heap HH0.out))
      go_wp2_with fail
      clear q0
      go_loopw [5, 36] (fun _ i wr => ∃ k : Nat, k ≤ x.h.n ∧ i = .int .i64 k ∧ Hid (Filling w0 wr 86 x.h.n 2 k (fun i j => (x.h.f i).cell j))) (fun _ i _ => x.h.n - (intOf i).toNat)
      case atStart => exact ⟨0, Nat.zero_le _, rfl, Filling.new _ _ _ _ _ _⟩
      case round =>
      obtain ⟨k, hk, rfl, HR⟩ := hrel
      have HBR : Hid (Below w.heap.size w wr) := HB0.out.trans (HR.out.2.mono (Nat.le_of_lt (lt_of_heap HH0.out)))
      by_cases hlt : k < x.h.n
      case pos =>
        have y0 : wr.cell? ⟨rb, ro + k * 2, none⟩ = some (.pointer (x.h.f k).q) := (HBR.out.cell hrb).trans (HRC.out k 0 hlt (by omega))
        have y1 : wr.cell? ⟨rb, ro + k * 2 + 1, none⟩ = some (.slice (x.h.f k).m.a (x.h.f k).m.n (x.h.f k).m.c) := (HBR.out.cell hrb).trans (HRC.out k 1 hlt (by omega))
        obtain ⟨v0, x0⟩ : ∃ v, wr.cell? ⟨w0.heap.size, k * 2, none⟩ = some v := HR.out.1.old (i := k) (j := 0) hlt (by omega)
        obtain ⟨v1, x1⟩ : ∃ v, wr.cell? ⟨w0.heap.size, k * 2 + 1, none⟩ = some v := HR.out.1.old (i := k) (j := 1) hlt (by omega)
        have x9 := HR.out.1.free
        have q0 := (HR.out.2.cell (p := ⟨sb, so, none⟩) hsl).trans HD.out
        go_wp2_with fail
        refine ⟨⟨k + 1, by omega, by go_num, HR.out.set2 hlt _ _ rfl rfl⟩, by simp [intOf]; omega⟩
      obtain rfl : x.h.n = k := by omega
      clear hlt hk
      have q1 := cell_of_heap (HR.out.heap HH0.out) (j := 0) (v := .slice none 0 0) rfl
      have q2 := free_of_heap (HR.out.heap HH0.out) 0
      go_wp2_with fail
      go_meet
      exact ⟨_, _, stage_done HR.out HH0.out 0⟩
    · have d : w0.cell? ⟨sb, so, none⟩ = some (.slice x.h.a x.h.n x.h.c) := (HB0.out.cell hsb).trans (HC.out 0 (by omega))
      go_wp2_with fail
      go_meet
      exact ⟨none, 0, by rw [HH0.out, show x.h.n = 0 from by omega], RowNew.zero _ _ _ _ _ h0, Keep.refl _ _⟩
  case rest =>
  obtain ⟨w1, rfl⟩ : ∃ w1, w1 = wc := ⟨_, rfl⟩
  obtain ⟨a0, k0, hh, hrn, hkp⟩ := hcut.out
  clear hcut
  have HH1 : Hid _ := hh
  have HN0 : Hid _ := hrn
  have HK0 : Hid _ := hkp
  have HB1 : Hid (Below w.heap.size w w1) := hkp.below HB0.out (Nat.le_of_lt (lt_of_heap HH0.out))
  clear hh hrn hkp
  have d1 : w1.cell? ⟨sb, so + 1, none⟩ = some (.slice x.i.a x.i.n x.i.c) := (HB1.out.cell hsb).trans (HC.out 1 (by omega))
  go_upto_if 59 with fail
  clear d1
  go_cut [] (fun wc => Hid (∃ a c, wc.heap[w.heap.size]? = some (.cells #[.slice a0 x.h.n k0, .slice a x.i.n c, .slice none 0 0, .slice none 0 0, .slice none 0 0] 85 (0, 0)) ∧ RowNew wc w.heap.size a x.i.n 1 (fun i _ => (x.i.f i).val) ∧ Keep w.heap.size w1 wc))
  case first =>
    as_aux_lemma =>
    by_cases h0 : 0 < x.i.n
    · obtain ⟨rb, ro, ha, hrb, hrc⟩ := HX.out.ir.2 h0
      have HRC : Hid _ := hrc
      have HD : Hid (w1.cell? ⟨sb, so + 1, none⟩ = some (.slice (some ⟨rb, ro, none⟩) x.i.n x.i.c)) := by show _ = _; rw [← ha]; exact (HB1.out.cell hsb).trans (HC.out 1 (by omega))
      clear ha hrc
      have q0 := HD.out
      have hsl : sb < w1.heap.size := Nat.lt_of_lt_of_le hsb (Nat.le_of_lt (lt_of_heap HH1.out))
      go_wp2_with fail
      clear q0
      go_loopw [7, 71] (fun _ i wr => ∃ k : Nat, k ≤ x.i.n ∧ i = .int .i64 k ∧ Hid (Filling w1 wr 87 x.i.n 1 k (fun i _ => (x.i.f i).val))) (fun _ i _ => x.i.n - (intOf i).toNat)
      case atStart => exact ⟨0, Nat.zero_le _, rfl, Filling.new1 _ _ _ _ _⟩
      case round =>
      obtain ⟨k, hk, rfl, HR⟩ := hrel
      have HBR : Hid (Below w.heap.size w wr) := HB1.out.trans (HR.out.2.mono (Nat.le_of_lt (lt_of_heap HH1.out)))
      by_cases hlt : k < x.i.n
      case pos =>
        have y0 : wr.cell? ⟨rb, ro + k, none⟩ = some (.slice (x.i.f k).a (x.i.f k).n (x.i.f k).c) := by simpa [Ids.val] using (HBR.out.cell hrb).trans (HRC.out k 0 hlt (by omega))
        obtain ⟨v0, x0⟩ : ∃ v, wr.cell? ⟨w1.heap.size, k, none⟩ = some v := by simpa using HR.out.1.old (i := k) (j := 0) hlt (by omega)
        have x9 := HR.out.1.free
        have q0 := (HR.out.2.cell (p := ⟨sb, so + 1, none⟩) hsl).trans HD.out
        go_wp2_with fail
        refine ⟨⟨k + 1, by omega, by go_num, HR.out.set1 hlt _ rfl⟩, by simp [intOf]; omega⟩
      obtain rfl : x.i.n = k := by omega
      clear hlt hk
      have q1 := cell_of_heap (HR.out.heap HH1.out) (j := 1) (v := .slice none 0 0) rfl
      have q2 := free_of_heap (HR.out.heap HH1.out) 1
      go_wp2_with fail
      go_meet
      exact ⟨_, _, stage_done HR.out HH1.out 1⟩
    · have d : w1.cell? ⟨sb, so + 1, none⟩ = some (.slice x.i.a x.i.n x.i.c) := (HB1.out.cell hsb).trans (HC.out 1 (by omega))
      go_wp2_with fail
      go_meet
      exact ⟨none, 0, by rw [HH1.out, show x.i.n = 0 from by omega], RowNew.zero _ _ _ _ _ h0, Keep.refl _ _⟩
  case rest =>
  obtain ⟨w2, rfl⟩ : ∃ w2, w2 = wc := ⟨_, rfl⟩
  obtain ⟨a1, k1, hh, hrn, hkp⟩ := hcut.out
  clear hcut
  have HH2 : Hid _ := hh
  have HN1 : Hid _ := hrn
  have HK1 : Hid _ := hkp
  have HB2 : Hid (Below w.heap.size w w2) := hkp.below HB1.out (Nat.le_of_lt (lt_of_heap HH1.out))
  clear hh hrn hkp
  have d2 : w2.cell? ⟨sb, so + 2, none⟩ = some (.slice x.g.a x.g.n x.g.c) := (HB2.out.cell hsb).trans (HC.out 2 (by omega))
  go_upto_if 94 with fail
  clear d2
  go_cut [] (fun wc => Hid (∃ a c, wc.heap[w.heap.size]? = some (.cells #[.slice a0 x.h.n k0, .slice a1 x.i.n k1, .slice a x.g.n c, .slice none 0 0, .slice none 0 0] 85 (0, 0)) ∧ RowNew wc w.heap.size a x.g.n 1 (fun i _ => .pointer (x.g.f i).q) ∧ Keep w.heap.size w2 wc))
  case first =>
    as_aux_lemma =>
    by_cases h0 : 0 < x.g.n
    · obtain ⟨rb, ro, ha, hrb, hrc⟩ := HX.out.gr.2 h0
      have HRC : Hid _ := hrc
      have HD : Hid (w2.cell? ⟨sb, so + 2, none⟩ = some (.slice (some ⟨rb, ro, none⟩) x.g.n x.g.c)) := by show _ = _; rw [← ha]; exact (HB2.out.cell hsb).trans (HC.out 2 (by omega))
      clear ha hrc
      have q0 := HD.out
      have hsl : sb < w2.heap.size := Nat.lt_of_lt_of_le hsb (Nat.le_of_lt (lt_of_heap HH2.out))
      go_wp2_with fail
      clear q0
      go_loopw [9, 106] (fun _ i wr => ∃ k : Nat, k ≤ x.g.n ∧ i = .int .i64 k ∧ Hid (Filling w2 wr 88 x.g.n 1 k (fun i _ => .pointer (x.g.f i).q))) (fun _ i _ => x.g.n - (intOf i).toNat)
      case atStart => exact ⟨0, Nat.zero_le _, rfl, Filling.new1 _ _ _ _ _⟩
      case round =>
      obtain ⟨k, hk, rfl, HR⟩ := hrel
      have HBR : Hid (Below w.heap.size w wr) := HB2.out.trans (HR.out.2.mono (Nat.le_of_lt (lt_of_heap HH2.out)))
      by_cases hlt : k < x.g.n
      case pos =>
        have y0 : wr.cell? ⟨rb, ro + k, none⟩ = some (.pointer (x.g.f k).q) := by simpa [Ids.val] using (HBR.out.cell hrb).trans (HRC.out k 0 hlt (by omega))
        obtain ⟨v0, x0⟩ : ∃ v, wr.cell? ⟨w2.heap.size, k, none⟩ = some v := by simpa using HR.out.1.old (i := k) (j := 0) hlt (by omega)
        have x9 := HR.out.1.free
        have q0 := (HR.out.2.cell (p := ⟨sb, so + 2, none⟩) hsl).trans HD.out
        go_wp2_with fail
        refine ⟨⟨k + 1, by omega, by go_num, HR.out.set1 hlt _ rfl⟩, by simp [intOf]; omega⟩
      obtain rfl : x.g.n = k := by omega
      clear hlt hk
      have q1 := cell_of_heap (HR.out.heap HH2.out) (j := 2) (v := .slice none 0 0) rfl
      have q2 := free_of_heap (HR.out.heap HH2.out) 2
      go_wp2_with fail
      go_meet
      exact ⟨_, _, stage_done HR.out HH2.out 2⟩
    · have d : w2.cell? ⟨sb, so + 2, none⟩ = some (.slice x.g.a x.g.n x.g.c) := (HB2.out.cell hsb).trans (HC.out 2 (by omega))
      go_wp2_with fail
      go_meet
      exact ⟨none, 0, by rw [HH2.out, show x.g.n = 0 from by omega], RowNew.zero _ _ _ _ _ h0, Keep.refl _ _⟩
  case rest =>
  obtain ⟨w3, rfl⟩ : ∃ w3, w3 = wc := ⟨_, rfl⟩
  obtain ⟨a2, k2, hh, hrn, hkp⟩ := hcut.out
  clear hcut
  have HH3 : Hid _ := hh
  have HN2 : Hid _ := hrn
  have HK2 : Hid _ := hkp
  have HB3 : Hid (Below w.heap.size w w3) := hkp.below HB2.out (Nat.le_of_lt (lt_of_heap HH2.out))
  clear hh hrn hkp
  have d3 : w3.cell? ⟨sb, so + 3, none⟩ = some (.slice x.p.a x.p.n x.p.c) := (HB3.out.cell hsb).trans (HC.out 3 (by omega))
  go_upto_if 129 with fail
  clear d3
  go_cut [] (fun wc => Hid (∃ (a : Option Addr) (c : Nat) (f' : Nat → Pr), wc.heap[w.heap.size]? = some (.cells #[.slice a0 x.h.n k0, .slice a1 x.i.n k1, .slice a2 x.g.n k2, .slice a x.p.n c, .slice none 0 0] 85 (0, 0)) ∧ RowNew wc w.heap.size a x.p.n 3 (fun i j => Pr.cell (f' i) j) ∧ Keep w.heap.size w3 wc ∧ ∀ i, i < x.p.n → PrNew wc w.heap.size (f' i) (x.p.f i)))
  case first =>
    as_aux_lemma =>
    by_cases h0 : 0 < x.p.n
    · obtain ⟨rb, ro, ha, hrb, hrc⟩ := HX.out.pr.2 h0
      have HRC : Hid _ := hrc
      have HD : Hid (w3.cell? ⟨sb, so + 3, none⟩ = some (.slice (some ⟨rb, ro, none⟩) x.p.n x.p.c)) := by show _ = _; rw [← ha]; exact (HB3.out.cell hsb).trans (HC.out 3 (by omega))
      clear ha hrc
      have q0 := HD.out
      have hsl : sb < w3.heap.size := Nat.lt_of_lt_of_le hsb (Nat.le_of_lt (lt_of_heap HH3.out))
      go_wp2_with fail
      clear q0
      go_loopw [11, 12, 13, 14, 141] (fun _ _ _ _ i wr => ∃ k : Nat, k ≤ x.p.n ∧ i = .int .i64 k ∧ Hid (∃ f' : Nat → Pr, Filling w3 wr 92 x.p.n 3 k (fun i j => (f' i).cell j) ∧ ∀ i, i < k → PrNew wr w3.heap.size (f' i) (x.p.f i))) (fun _ _ _ _ i _ => x.p.n - (intOf i).toNat)
      case atStart => exact ⟨0, Nat.zero_le _, rfl, x.p.f, Filling.new _ _ _ _ _ _, fun i hi => absurd hi (by omega)⟩
      case round =>
      obtain ⟨k, hk, rfl, HR⟩ := hrel
      obtain ⟨f', HR, HP⟩ : ∃ f' : Nat → Pr, Hid (Filling w3 wr 92 x.p.n 3 k (fun i j => (f' i).cell j)) ∧ Hid (∀ i, i < k → PrNew wr w3.heap.size (f' i) (x.p.f i)) := HR.out
      have HBR : Hid (Below w.heap.size w wr) := HB3.out.trans (HR.out.2.mono (Nat.le_of_lt (lt_of_heap HH3.out)))
      by_cases hlt : k < x.p.n
      case pos =>
        have hgs : w3.heap.size < wr.heap.size := HR.out.1.lt
        have y0 : wr.cell? ⟨rb, ro + k * 3, none⟩ = some (.pointer (x.p.f k).q) := (HBR.out.cell hrb).trans (HRC.out k 0 hlt (by omega))
        have y1 : wr.cell? ⟨rb, ro + k * 3 + 1, none⟩ = some (.slice (x.p.f k).pa (x.p.f k).pn (x.p.f k).pc) := (HBR.out.cell hrb).trans (HRC.out k 1 hlt (by omega))
        have y2 : wr.cell? ⟨rb, ro + k * 3 + 2, none⟩ = some (.pointer (x.p.f k).k) := (HBR.out.cell hrb).trans (HRC.out k 2 hlt (by omega))
        have q0 := (HR.out.2.cell (p := ⟨sb, so + 3, none⟩) hsl).trans HD.out
        go_upto_if 154 with fail
        clear y0 y1 y2 q0
        obtain ⟨wo, rfl⟩ : ∃ wo : World, wo = wr := ⟨_, rfl⟩
        generalize hW1 : wo.alloc (Obj.cells #[.pointer (x.p.f k).q, .slice (x.p.f k).pa (x.p.f k).pn (x.p.f k).pc, .pointer (x.p.f k).k] 56) = W1
        have HW1 : Hid (Below wo.heap.size wo W1) := by rw [← hW1]; exact (Below.refl _ _).alloc (Nat.le_refl _) _
        have HP1 : Hid (W1.heap[wo.heap.size]? = some (.cells #[.pointer (x.p.f k).q, .slice (x.p.f k).pa (x.p.f k).pn (x.p.f k).pc, .pointer (x.p.f k).k] 56 (0, 0))) := by rw [← hW1]; exact heap_alloc_new _ _
        clear hW1
        have hw1 : wo.heap.size < W1.heap.size := lt_of_heap HP1.out
        go_cut [13] (fun s13 wc => Hid (∃ (a : Option Addr) (c : Nat), s13 = .slice a (x.p.f k).pn c ∧ RowNew wc w3.heap.size a (x.p.f k).pn 2 (fun i j => ((x.p.f k).ps i).cell j) ∧ Below W1.heap.size W1 wc))
        case first =>
          as_aux_lemma =>
          by_cases hp0 : 0 < (x.p.f k).pn
          · obtain ⟨pb, po, hpa, hpb, hpc⟩ := (HX.out.pe k hlt).2.1.2 hp0
            have HPC : Hid _ := hpc
            have HD1 : Hid (W1.cell? ⟨wo.heap.size, 1, none⟩ = some (.slice (some ⟨pb, po, none⟩) (x.p.f k).pn (x.p.f k).pc)) := cell_of_heap HP1.out (j := 1) (by rw [← hpa]; rfl)
            clear hpa hpc
            have hsmall := HSM.out.pp k hlt
            have hmkp := run_mk 89 90 _ 2 48 (x.p.f k).pn Try.underlying89 Try.info90 (by omega) (by omega)
            have q0 := HD1.out
            go_wp2_with fail
            clear q0
            go_loopw [14, 162] (fun _ i wr => ∃ t : Nat, t ≤ (x.p.f k).pn ∧ i = .int .i64 t ∧ Hid (Filling W1 wr 90 (x.p.f k).pn 2 t (fun i j => ((x.p.f k).ps i).cell j))) (fun _ i _ => (x.p.f k).pn - (intOf i).toNat)
            case atStart => exact ⟨0, Nat.zero_le _, rfl, Filling.new _ _ _ _ _ _⟩
            case round =>
            obtain ⟨t, ht, rfl, HT⟩ := hrel
            have HBT : Hid (Below w.heap.size w wr) := (HBR.out.trans (HW1.out.mono (HBR.out.size))).trans (HT.out.2.mono (Nat.le_trans HBR.out.size (Nat.le_of_lt hw1)))
            by_cases hlt2 : t < (x.p.f k).pn
            case pos =>
              have y0 : wr.cell? ⟨pb, po + t * 2, none⟩ = some (.slice ((x.p.f k).ps t).p.a ((x.p.f k).ps t).p.n ((x.p.f k).ps t).p.c) := (HBT.out.cell hpb).trans (HPC.out t 0 hlt2 (by omega))
              have y1 : wr.cell? ⟨pb, po + t * 2 + 1, none⟩ = some (.slice ((x.p.f k).ps t).r.a ((x.p.f k).ps t).r.n ((x.p.f k).ps t).r.c) := (HBT.out.cell hpb).trans (HPC.out t 1 hlt2 (by omega))
              obtain ⟨v0, x0⟩ : ∃ v, wr.cell? ⟨W1.heap.size, t * 2, none⟩ = some v := HT.out.1.old (i := t) (j := 0) hlt2 (by omega)
              obtain ⟨v1, x1⟩ : ∃ v, wr.cell? ⟨W1.heap.size, t * 2 + 1, none⟩ = some v := HT.out.1.old (i := t) (j := 1) hlt2 (by omega)
              have x9 := HT.out.1.free
              have q0 := (HT.out.2.cell (p := ⟨wo.heap.size, 1, none⟩) hw1).trans HD1.out
              go_wp2_with fail
              refine ⟨⟨t + 1, by omega, by go_num, HT.out.set2 hlt2 _ _ rfl rfl⟩, by simp [intOf]; omega⟩
            obtain rfl : (x.p.f k).pn = t := by omega
            clear hlt2 ht
            go_wp2_with fail
            go_meet
            exact ⟨_, _, rfl, RowNew.ofFill HT.out.1 (by omega), HT.out.2⟩
          · go_wp2_with fail
            go_meet
            exact ⟨none, 0, by rw [show (x.p.f k).pn = 0 from by omega], RowNew.zero _ _ _ _ _ hp0, Below.refl _ _⟩
        case rest =>
        obtain ⟨a, c, hs13, HROW, HBW⟩ : ∃ (a : Option Addr) (c : Nat), _ = Value.slice a (x.p.f k).pn c ∧ Hid (RowNew wc w3.heap.size a (x.p.f k).pn 2 (fun i j => ((x.p.f k).ps i).cell j)) ∧ Hid (Below W1.heap.size W1 wc) := hcut.out
        subst hs13
        clear hcut
        have HBO : Hid (Below wo.heap.size wo wc) := HW1.out.trans (HBW.out.mono (Nat.le_of_lt hw1))
        have z0 := (HBW.out.cell (p := ⟨wo.heap.size, 0, none⟩) hw1).trans (cell_of_heap HP1.out (j := 0) rfl)
        have z2 := (HBW.out.cell (p := ⟨wo.heap.size, 2, none⟩) hw1).trans (cell_of_heap HP1.out (j := 2) rfl)
        obtain ⟨v0, x0⟩ : ∃ v, wo.cell? ⟨w3.heap.size, k * 3, none⟩ = some v := HR.out.1.old (i := k) (j := 0) hlt (by omega)
        obtain ⟨v1, x1⟩ : ∃ v, wo.cell? ⟨w3.heap.size, k * 3 + 1, none⟩ = some v := HR.out.1.old (i := k) (j := 1) hlt (by omega)
        obtain ⟨v2, x2⟩ : ∃ v, wo.cell? ⟨w3.heap.size, k * 3 + 2, none⟩ = some v := HR.out.1.old (i := k) (j := 2) hlt (by omega)
        have x0 := (HBO.out.cell (p := ⟨w3.heap.size, k * 3, none⟩) hgs).trans x0
        have x1 := (HBO.out.cell (p := ⟨w3.heap.size, k * 3 + 1, none⟩) hgs).trans x1
        have x2 := (HBO.out.cell (p := ⟨w3.heap.size, k * 3 + 2, none⟩) hgs).trans x2
        have x9 : ∀ j, wc.frozen? ⟨w3.heap.size, j, none⟩ = false := fun j => (HBO.out.frozen (p := ⟨w3.heap.size, j, none⟩) hgs).trans (HR.out.1.free j)
        go_wp2_with fail
        refine ⟨⟨k + 1, by omega, by go_num, prune_step HR.out HP.out HBO.out HROW.out hlt⟩, by simp [intOf]; omega⟩
      obtain rfl : x.p.n = k := by omega
      clear hlt hk
      have q1 := cell_of_heap (HR.out.heap HH3.out) (j := 3) (v := .slice none 0 0) rfl
      have q2 := free_of_heap (HR.out.heap HH3.out) 3
      go_wp2_with fail
      go_meet
      obtain ⟨e1, e2, e3⟩ := stage_done HR.out HH3.out 3
      exact ⟨_, _, f', e1, e2, e3, fun i hi => (((HP.out i hi).less (Nat.le_of_lt (lt_of_heap HH3.out))).keep (Nat.le_refl _) ((Keep.refl _ _).setCell _ _))⟩
    · have d : w3.cell? ⟨sb, so + 3, none⟩ = some (.slice x.p.a x.p.n x.p.c) := (HB3.out.cell hsb).trans (HC.out 3 (by omega))
      go_wp2_with fail
      go_meet
      exact ⟨none, 0, x.p.f, by rw [HH3.out, show x.p.n = 0 from by omega], RowNew.zero _ _ _ _ _ h0, Keep.refl _ _, fun i hi => absurd hi (by omega)⟩
  case rest =>
  obtain ⟨w4, rfl⟩ : ∃ w4, w4 = wc := ⟨_, rfl⟩
  obtain ⟨a3, k3, f3, hh, hrn, hkp, hpn⟩ := hcut.out
  clear hcut
  have HH4 : Hid _ := hh
  have HN3 : Hid _ := hrn
  have HK3 : Hid _ := hkp
  have HPN : Hid _ := hpn
  have HB4 : Hid (Below w.heap.size w w4) := hkp.below HB3.out (Nat.le_of_lt (lt_of_heap HH3.out))
  clear hh hrn hkp hpn
  have d4 : w4.cell? ⟨sb, so + 4, none⟩ = some (.slice x.d.a x.d.n x.d.c) := (HB4.out.cell hsb).trans (HC.out 4 (by omega))
  go_upto_if 193 with fail
  clear d4
  go_cut [] (fun wc => Hid (∃ a c, wc.heap[w.heap.size]? = some (.cells #[.slice a0 x.h.n k0, .slice a1 x.i.n k1, .slice a2 x.g.n k2, .slice a3 x.p.n k3, .slice a x.d.n c] 85 (0, 0)) ∧ RowNew wc w.heap.size a x.d.n 1 (fun i _ => (x.d.f i).val) ∧ Keep w.heap.size w4 wc))
  case first =>
    as_aux_lemma =>
    by_cases h0 : 0 < x.d.n
    · obtain ⟨rb, ro, ha, hrb, hrc⟩ := HX.out.dr.2 h0
      have HRC : Hid _ := hrc
      have HD : Hid (w4.cell? ⟨sb, so + 4, none⟩ = some (.slice (some ⟨rb, ro, none⟩) x.d.n x.d.c)) := by show _ = _; rw [← ha]; exact (HB4.out.cell hsb).trans (HC.out 4 (by omega))
      clear ha hrc
      have q0 := HD.out
      have hsl : sb < w4.heap.size := Nat.lt_of_lt_of_le hsb (Nat.le_of_lt (lt_of_heap HH4.out))
      go_wp2_with fail
      clear q0
      go_loopw [16, 205] (fun _ i wr => ∃ k : Nat, k ≤ x.d.n ∧ i = .int .i64 k ∧ Hid (Filling w4 wr 93 x.d.n 1 k (fun i _ => (x.d.f i).val))) (fun _ i _ => x.d.n - (intOf i).toNat)
      case atStart => exact ⟨0, Nat.zero_le _, rfl, Filling.new1 _ _ _ _ _⟩
      case round =>
      obtain ⟨k, hk, rfl, HR⟩ := hrel
      have HBR : Hid (Below w.heap.size w wr) := HB4.out.trans (HR.out.2.mono (Nat.le_of_lt (lt_of_heap HH4.out)))
      by_cases hlt : k < x.d.n
      case pos =>
        have y0 : wr.cell? ⟨rb, ro + k, none⟩ = some (.slice (x.d.f k).a (x.d.f k).n (x.d.f k).c) := by simpa [Ids.val] using (HBR.out.cell hrb).trans (HRC.out k 0 hlt (by omega))
        obtain ⟨v0, x0⟩ : ∃ v, wr.cell? ⟨w4.heap.size, k, none⟩ = some v := by simpa using HR.out.1.old (i := k) (j := 0) hlt (by omega)
        have x9 := HR.out.1.free
        have q0 := (HR.out.2.cell (p := ⟨sb, so + 4, none⟩) hsl).trans HD.out
        go_wp2_with fail
        refine ⟨⟨k + 1, by omega, by go_num, HR.out.set1 hlt _ rfl⟩, by simp [intOf]; omega⟩
      obtain rfl : x.d.n = k := by omega
      clear hlt hk
      have q1 := cell_of_heap (HR.out.heap HH4.out) (j := 4) (v := .slice none 0 0) rfl
      have q2 := free_of_heap (HR.out.heap HH4.out) 4
      go_wp2_with fail
      go_meet
      exact ⟨_, _, stage_done HR.out HH4.out 4⟩
    · have d : w4.cell? ⟨sb, so + 4, none⟩ = some (.slice x.d.a x.d.n x.d.c) := (HB4.out.cell hsb).trans (HC.out 4 (by omega))
      go_wp2_with fail
      go_meet
      exact ⟨none, 0, by rw [HH4.out, show x.d.n = 0 from by omega], RowNew.zero _ _ _ _ _ h0, Keep.refl _ _⟩
  case rest =>
  obtain ⟨w5, rfl⟩ : ∃ w5, w5 = wc := ⟨_, rfl⟩
  obtain ⟨a4, k4, hh, hrn, hkp⟩ := hcut.out
  clear hcut
  have HH5 : Hid _ := hh
  have HN4 : Hid _ := hrn
  have HK4 : Hid _ := hkp
  have HB5 : Hid (Below w.heap.size w w5) := hkp.below HB4.out (Nat.le_of_lt (lt_of_heap HH4.out))
  clear hh hrn hkp
  go_wp2_with fail
  go_ret
  exact ⟨rfl, ctl_built HDD.out HXD.out HH5.out HN0.out HN1.out HN2.out HN3.out HN4.out HK1.out HK2.out HK3.out HK4.out HPN.out HB5.out⟩
end Go.Proofs.Qxb6616574a
