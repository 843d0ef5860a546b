import Derived.Test.Qxb6616796aB2
import Derived.Deep.RegionHeld3
import Derived.Deep.DeepCutAuto
namespace Go.Proofs.Qxb6616796a
open Go.RowKit

/-- What toPart hands back. -/
def Pt.agg (x : Pt) : Value := .agg #[.string x.ty, .string x.tx, .string x.st, .string x.tn, .string x.tc, x.inp.val, x.out.val, .string x.et, .pointer x.q]
/-- A part's cells, as uimessage has them. -/
def pcs (ty tx st tn tc : ByteArray) (v5 v6 : Value) (et : ByteArray) (v8 : Value) : Array Value :=
  #[.string ty, .string tx, .string st, .string tn, .string tc, v5, v6, .string et, v8, .int .i64 0, .string { data := #[] }, .slice none 0 0, .bool false, .pointer none, .pointer none]
def TpP (x : Pt) (w : World) (e : Ending) (w' : World) : Prop :=
  ∃ a1 n1 c1 a2 n2 c2 q, e = .returned (.agg (pcs x.ty x.tx x.st x.tn x.tc (.slice a1 n1 c1) (.slice a2 n2 c2) x.et (.pointer q))) ∧ Hid (Below w.heap.size w w')

/-- While toPart runs: the caller's memory, the parameter's block, the result's block. -/
def KP (w : World) (arr z : Array Value) (w' : World) : Prop :=
  Below w.heap.size w w' ∧ w'.heap[w.heap.size]? = some (.cells arr 53 (0, 0)) ∧ w'.heap[w.heap.size + 1]? = some (.cells z 33 (0, 0)) ∧ w.heap.size + 2 ≤ w'.heap.size

theorem KP.below {w w1 w2 : World} {arr z : Array Value} (h : KP w arr z w1) (hb : Below w1.heap.size w1 w2) : KP w arr z w2 :=
  ⟨h.1.trans (hb.mono h.1.size), (hb.block _ (by have := h.2.2.2; omega)).trans h.2.1, (hb.block _ (by have := h.2.2.2; omega)).trans h.2.2.1, Nat.le_trans h.2.2.2 hb.size⟩
theorem KP.sz {w w1 : World} {arr z : Array Value} (h : KP w arr z w1) : w.heap.size + 2 ≤ w1.heap.size := h.2.2.2
theorem KP.blk {w w1 : World} {arr z : Array Value} (h : KP w arr z w1) : w1.heap[w.heap.size + 1]? = some (.cells z 33 (0, 0)) := h.2.2.1
theorem KP.drew {w w1 : World} {arr z : Array Value} (h : KP w arr z w1) : KP w arr z w1.drew := ⟨h.1.drew, h.2.1, h.2.2.1, h.2.2.2⟩
theorem KP.set {w w1 : World} {arr z : Array Value} (h : KP w arr z w1) {g : Nat} (hg : w.heap.size + 2 ≤ g) (j : Nat) (v : Value) : KP w arr z (w1.setCell ⟨g, j, none⟩ v) :=
  ⟨h.1.setCell (show w.heap.size ≤ g by omega) _, (Below.heap_setCell _ _ _ _ (by show w.heap.size ≠ g; omega)).trans h.2.1, (Below.heap_setCell _ _ _ _ (by show w.heap.size + 1 ≠ g; omega)).trans h.2.2.1, by simpa [World.setCell] using h.2.2.2⟩
theorem KP.alloc {w w1 : World} {arr z : Array Value} (h : KP w arr z w1) (o : Obj) : KP w arr z (w1.alloc o) := h.below ((Below.refl _ _).alloc (Nat.le_refl _) _)
theorem KP.start (w : World) (arr z : Array Value) : KP w arr z ((w.alloc (.cells arr 53)).alloc (.cells z 33)) := by
  have h1 := heap_alloc_new w (Obj.cells arr 53)
  have h2 := heap_alloc_new (w.alloc (Obj.cells arr 53)) (Obj.cells z 33)
  have hs : (w.alloc (Obj.cells arr 53)).heap.size = w.heap.size + 1 := by simp
  rw [hs] at h2
  refine ⟨((Below.refl _ _).alloc (Nat.le_refl _) _).alloc (by simp) _, ?_, h2, by simp⟩
  exact (((Below.refl (w.heap.size + 1) (w.alloc (Obj.cells arr 53))).alloc (by simp) _).block w.heap.size (by omega)).trans h1

theorem info33 : (Try.prog.info? 33).map (·.size) = some 15 := by kernel_rfl
theorem below_lt {w w' : World} (h : Below w.heap.size w w') : ∀ b, b < w.heap.size → b < w'.heap.size := fun _ hb => Nat.lt_of_lt_of_le hb h.size
theorem below_cells {w w' : World} (h : Below w.heap.size w w') : ∀ b o, b < w.heap.size → w'.cell? ⟨b, o, none⟩ = w.cell? ⟨b, o, none⟩ := fun b o hb => h.cell (p := ⟨b, o, none⟩) hb
theorem below_frozen {w w' : World} (h : Below w.heap.size w w') : ∀ b o, b < w.heap.size → w'.frozen? ⟨b, o, none⟩ = w.frozen? ⟨b, o, none⟩ := fun b o hb => h.frozen (p := ⟨b, o, none⟩) hb

theorem store15 {w1 : World} {g : Nat} {z : Array Value} (h : w1.heap[g]? = some (.cells z 33 (0, 0))) (hz : z.size = 15) (v0 v1 v2 v3 v4 v5 v6 v7 v8 v9 v10 v11 v12 v13 v14 : Value) :
    (((((((((((((((w1.setCell ⟨g, 0, none⟩ v0).setCell ⟨g, 1, none⟩ v1).setCell ⟨g, 2, none⟩ v2).setCell ⟨g, 3, none⟩ v3).setCell ⟨g, 4, none⟩ v4).setCell ⟨g, 5, none⟩ v5).setCell ⟨g, 6, none⟩ v6).setCell ⟨g, 7, none⟩ v7).setCell ⟨g, 8, none⟩ v8).setCell ⟨g, 9, none⟩ v9).setCell ⟨g, 10, none⟩ v10).setCell ⟨g, 11, none⟩ v11).setCell ⟨g, 12, none⟩ v12).setCell ⟨g, 13, none⟩ v13).setCell ⟨g, 14, none⟩ v14).heap[g]? = some (.cells #[v0, v1, v2, v3, v4, v5, v6, v7, v8, v9, v10, v11, v12, v13, v14] 33 (0, 0)) := by
  have e := set_heap (set_heap (set_heap (set_heap (set_heap (set_heap (set_heap (set_heap (set_heap (set_heap (set_heap (set_heap (set_heap (set_heap (set_heap h 0 v0) 1 v1) 2 v2) 3 v3) 4 v4) 5 v5) 6 v6) 7 v7) 8 v8) 9 v9) 10 v10) 11 v11) 12 v12) 13 v13) 14 v14
  rw [e]
  obtain ⟨l⟩ := z
  simp only [List.size_toArray] at hz
  obtain ⟨a0, l, rfl⟩ : ∃ a t, l = a :: t := by cases l with | nil => simp at hz | cons a t => exact ⟨a, t, rfl⟩
  obtain ⟨a1, l, rfl⟩ : ∃ a t, l = a :: t := by cases l with | nil => simp at hz | cons a t => exact ⟨a, t, rfl⟩
  obtain ⟨a2, l, rfl⟩ : ∃ a t, l = a :: t := by cases l with | nil => simp at hz | cons a t => exact ⟨a, t, rfl⟩
  obtain ⟨a3, l, rfl⟩ : ∃ a t, l = a :: t := by cases l with | nil => simp at hz | cons a t => exact ⟨a, t, rfl⟩
  obtain ⟨a4, l, rfl⟩ : ∃ a t, l = a :: t := by cases l with | nil => simp at hz | cons a t => exact ⟨a, t, rfl⟩
  obtain ⟨a5, l, rfl⟩ : ∃ a t, l = a :: t := by cases l with | nil => simp at hz | cons a t => exact ⟨a, t, rfl⟩
  obtain ⟨a6, l, rfl⟩ : ∃ a t, l = a :: t := by cases l with | nil => simp at hz | cons a t => exact ⟨a, t, rfl⟩
  obtain ⟨a7, l, rfl⟩ : ∃ a t, l = a :: t := by cases l with | nil => simp at hz | cons a t => exact ⟨a, t, rfl⟩
  obtain ⟨a8, l, rfl⟩ : ∃ a t, l = a :: t := by cases l with | nil => simp at hz | cons a t => exact ⟨a, t, rfl⟩
  obtain ⟨a9, l, rfl⟩ : ∃ a t, l = a :: t := by cases l with | nil => simp at hz | cons a t => exact ⟨a, t, rfl⟩
  obtain ⟨a10, l, rfl⟩ : ∃ a t, l = a :: t := by cases l with | nil => simp at hz | cons a t => exact ⟨a, t, rfl⟩
  obtain ⟨a11, l, rfl⟩ : ∃ a t, l = a :: t := by cases l with | nil => simp at hz | cons a t => exact ⟨a, t, rfl⟩
  obtain ⟨a12, l, rfl⟩ : ∃ a t, l = a :: t := by cases l with | nil => simp at hz | cons a t => exact ⟨a, t, rfl⟩
  obtain ⟨a13, l, rfl⟩ : ∃ a t, l = a :: t := by cases l with | nil => simp at hz | cons a t => exact ⟨a, t, rfl⟩
  obtain ⟨a14, l, rfl⟩ : ∃ a t, l = a :: t := by cases l with | nil => simp at hz | cons a t => exact ⟨a, t, rfl⟩
  have hl : l = [] := by simp only [List.length_cons] at hz; exact List.eq_nil_of_length_eq_zero (by omega)
  subst hl
  simp only [List.setIfInBounds_toArray, List.set_cons_zero, List.set_cons_succ]

def Fin (x : Pt) (w : World) (a1 : Option Addr) (n1 c1 : Nat) (a2 : Option Addr) (n2 c2 : Nat) (q : Option Addr) (w' : World) : Prop :=
  w'.heap[w.heap.size + 1]? = some (.cells (pcs x.ty x.tx x.st x.tn x.tc (.slice a1 n1 c1) (.slice a2 n2 c2) x.et (.pointer q)) 33 (0, 0)) ∧ Below w.heap.size w w'
theorem fin_chain {x : Pt} {w w1 : World} {arr z : Array Value} (h : KP w arr z w1) (hz : z.size = 15) (a1 : Option Addr) (n1 c1 : Nat) (a2 : Option Addr) (n2 c2 : Nat) (q : Option Addr) :
    Fin x w a1 n1 c1 a2 n2 c2 q (((((((((((((((w1.setCell ⟨w.heap.size + 1, 0, none⟩ (.string x.ty)).setCell ⟨w.heap.size + 1, 1, none⟩ (.string x.tx)).setCell ⟨w.heap.size + 1, 2, none⟩ (.string x.st)).setCell ⟨w.heap.size + 1, 3, none⟩ (.string x.tn)).setCell ⟨w.heap.size + 1, 4, none⟩ (.string x.tc)).setCell ⟨w.heap.size + 1, 5, none⟩ (.slice a1 n1 c1)).setCell ⟨w.heap.size + 1, 6, none⟩ (.slice a2 n2 c2)).setCell ⟨w.heap.size + 1, 7, none⟩ (.string x.et)).setCell ⟨w.heap.size + 1, 8, none⟩ (.pointer q)).setCell ⟨w.heap.size + 1, 9, none⟩ (.int .i64 0)).setCell ⟨w.heap.size + 1, 10, none⟩ (.string { data := #[] })).setCell ⟨w.heap.size + 1, 11, none⟩ (.slice none 0 0)).setCell ⟨w.heap.size + 1, 12, none⟩ (.bool false)).setCell ⟨w.heap.size + 1, 13, none⟩ (.pointer none)).setCell ⟨w.heap.size + 1, 14, none⟩ (.pointer none)) := ⟨store15 h.2.2.1 hz _ _ _ _ _ _ _ _ _ _ _ _ _ _ _, (((((((((((((((h.1.setCell (show w.heap.size ≤ w.heap.size + 1 by omega) _).setCell (show w.heap.size ≤ w.heap.size + 1 by omega) _).setCell (show w.heap.size ≤ w.heap.size + 1 by omega) _).setCell (show w.heap.size ≤ w.heap.size + 1 by omega) _).setCell (show w.heap.size ≤ w.heap.size + 1 by omega) _).setCell (show w.heap.size ≤ w.heap.size + 1 by omega) _).setCell (show w.heap.size ≤ w.heap.size + 1 by omega) _).setCell (show w.heap.size ≤ w.heap.size + 1 by omega) _).setCell (show w.heap.size ≤ w.heap.size + 1 by omega) _).setCell (show w.heap.size ≤ w.heap.size + 1 by omega) _).setCell (show w.heap.size ≤ w.heap.size + 1 by omega) _).setCell (show w.heap.size ≤ w.heap.size + 1 by omega) _).setCell (show w.heap.size ≤ w.heap.size + 1 by omega) _).setCell (show w.heap.size ≤ w.heap.size + 1 by omega) _).setCell (show w.heap.size ≤ w.heap.size + 1 by omega) _)⟩
theorem Fin.alloc {x : Pt} {w w1 : World} {a1 : Option Addr} {n1 c1 : Nat} {a2 : Option Addr} {n2 c2 : Nat} {q : Option Addr} (h : Fin x w a1 n1 c1 a2 n2 c2 q w1) (o : Obj) : Fin x w a1 n1 c1 a2 n2 c2 q (w1.alloc o) :=
  ⟨(heap_alloc_old _ _ (lt_of_heap h.1)).trans h.1, h.2.alloc h.2.size _⟩
theorem Fin.drew {x : Pt} {w w1 : World} {a1 : Option Addr} {n1 c1 : Nat} {a2 : Option Addr} {n2 c2 : Nat} {q : Option Addr} (h : Fin x w a1 n1 c1 a2 n2 c2 q w1) : Fin x w a1 n1 c1 a2 n2 c2 q w1.drew := ⟨h.1, h.2.drew⟩
theorem Fin.post {x : Pt} {w w1 : World} {a1 : Option Addr} {n1 c1 : Nat} {a2 : Option Addr} {n2 c2 : Nat} {q : Option Addr} {a : Act} (h : Fin x w a1 n1 c1 a2 n2 c2 q w1) (hd : a.defers = []) (hp : a.tmps.getD 2 undef = .pointer (some ⟨w.heap.size + 1, 0, none⟩)) :
    bodyPost Try.prog Try.f17 (TpP x w) .ret a w1 := by
  refine bodyPost_ret (v := .agg (pcs x.ty x.tx x.st x.tn x.tc (.slice a1 n1 c1) (.slice a2 n2 c2) x.et (.pointer q))) (results_cell_row rfl _ _ (w.heap.size + 1) 33 _ (0, 0) _ hp h.1 Try.underlying33 rfl info33) hd ?_
  exact ⟨a1, n1, c1, a2, n2, c2, q, rfl, h.2⟩

/-- The condition under which the loads of the first region yield. -/
def TS (w : World) (ty tx st tn tc : ByteArray) (v5 v6 : Value) (et : ByteArray) (v8 : Value) (z : Array Value) (w' : World) : Prop :=
  w'.cell? ⟨w.heap.size, 0, none⟩ = some (.string ty) ∧ w'.cell? ⟨w.heap.size, 1, none⟩ = some (.string tx) ∧ w'.cell? ⟨w.heap.size, 2, none⟩ = some (.string st) ∧ w'.cell? ⟨w.heap.size, 3, none⟩ = some (.string tn) ∧
  w'.cell? ⟨w.heap.size, 4, none⟩ = some (.string tc) ∧ w'.cell? ⟨w.heap.size, 5, none⟩ = some v5 ∧ w'.cell? ⟨w.heap.size, 6, none⟩ = some v6 ∧ w'.cell? ⟨w.heap.size, 7, none⟩ = some (.string et) ∧
  Hid (KP w #[.string ty, .string tx, .string st, .string tn, .string tc, v5, v6, .string et, v8] z w')
theorem TS.of {w : World} {ty tx st tn tc et : ByteArray} {v5 v6 v8 : Value} {z : Array Value} {w' : World} (h : KP w #[.string ty, .string tx, .string st, .string tn, .string tc, v5, v6, .string et, v8] z w') : TS w ty tx st tn tc v5 v6 et v8 z w' :=
  ⟨cell_of_heap h.2.1 rfl, cell_of_heap h.2.1 rfl, cell_of_heap h.2.1 rfl, cell_of_heap h.2.1 rfl, cell_of_heap h.2.1 rfl, cell_of_heap h.2.1 rfl, cell_of_heap h.2.1 rfl, cell_of_heap h.2.1 rfl, h⟩
theorem TS.kp {w : World} {ty tx st tn tc et : ByteArray} {v5 v6 v8 : Value} {z : Array Value} {w' : World} (h : TS w ty tx st tn tc v5 v6 et v8 z w') : KP w #[.string ty, .string tx, .string st, .string tn, .string tc, v5, v6, .string et, v8] z w' := h.2.2.2.2.2.2.2.2.out
theorem TS.call {w : World} {ty tx st tn tc et : ByteArray} {v5 v6 v8 : Value} {z : Array Value} {w1 w2 : World} (hb : Hid (Below w1.heap.size w1 w2)) (h : TS w ty tx st tn tc v5 v6 et v8 z w1) : TS w ty tx st tn tc v5 v6 et v8 z w2 := .of (h.kp.below hb.out)
theorem TS.alloc {w : World} {ty tx st tn tc et : ByteArray} {v5 v6 v8 : Value} {z : Array Value} {w1 : World} {o : Obj} (h : TS w ty tx st tn tc v5 v6 et v8 z w1) : TS w ty tx st tn tc v5 v6 et v8 z (w1.alloc o) := .of (h.kp.alloc o)

set_option maxRecDepth 100000 in
set_option maxHeartbeats 4000000 in
theorem toPart_any (x : Pt) (B : Nat) (w : World) (hx : x.In w B) (hB : B ≤ w.heap.size) (hs : x.Small) : Calls Try.prog 17 #[x.agg] w (TpP x w) := by
  have HI : Hid (x.inp.In w B ∧ x.inp.n ≤ 1048576) := ⟨hx.inp, hs.1⟩
  have HO : Hid (x.out.In w B ∧ x.out.n ≤ 1048576) := ⟨hx.out, hs.2.1⟩
  have HAP : Hid _ := hx.ap
  clear hx hs
  obtain ⟨ty, tx, st, tn, tc, ⟨ia, il, ic, iff⟩, ⟨oa, ol, oc, off⟩, et, q, ap⟩ := x
  dsimp only at HI HO HAP
  unfold Pt.agg Bs.val
  dsimp only
  go_enter Try.func17, Try.ntmps17
  go_upto_region 1 with fail
  generalize hw0 : (w.alloc (Obj.cells #[Value.string ty, Value.string tx, Value.string st, Value.string tn, Value.string tc, Value.slice ia il ic, Value.slice oa ol oc, Value.string et, Value.pointer q] 53)).alloc (Obj.cells #[Value.string { data := #[] }, Value.string { data := #[] }, Value.string { data := #[] }, Value.string { data := #[] }, Value.string { data := #[] }, Value.slice none 0 0, Value.slice none 0 0, Value.string { data := #[] }, Value.pointer none, Value.int IntKind.i64 0, Value.string { data := #[] }, Value.slice none 0 0, Value.bool false, Value.pointer none, Value.pointer none] 33) = w0
  obtain ⟨z, hz⟩ : ∃ z, z = pcs { data := #[] } { data := #[] } { data := #[] } { data := #[] } { data := #[] } (.slice none 0 0) (.slice none 0 0) { data := #[] } (.pointer none) := ⟨_, rfl⟩
  have HK0 : Hid (KP w #[.string ty, .string tx, .string st, .string tn, .string tc, .slice ia il ic, .slice oa ol oc, .string et, .pointer q] z w0) := by rw [← hw0, hz]; exact KP.start w _ _
  have HZ : Hid _ := hz
  clear hw0 hz
  have HB : Hid (B ≤ w.heap.size) := hB
  clear hB
  go_cut [3] (fun v wc => ∃ a1 n1 c1 a2 n2 c2 g, v = .pointer (some ⟨g, 0, none⟩) ∧ Hid (KP w #[.string ty, .string tx, .string st, .string tn, .string tc, .slice ia il ic, .slice oa ol oc, .string et, .pointer q] z wc ∧ w.heap.size + 2 ≤ g ∧ wc.heap[g]? = some (.cells (pcs ty tx st tn tc (.slice a1 n1 c1) (.slice a2 n2 c2) et (.pointer none)) 33 (0, 0))))
  case first =>
    go_region_held3 (fun w' => w'.cell? ⟨w.heap.size, 0, none⟩ = some (.string ty) ∧ w'.cell? ⟨w.heap.size, 1, none⟩ = some (.string tx) ∧ w'.cell? ⟨w.heap.size, 2, none⟩ = some (.string st) ∧ w'.cell? ⟨w.heap.size, 3, none⟩ = some (.string tn) ∧ w'.cell? ⟨w.heap.size, 4, none⟩ = some (.string tc) ∧ w'.cell? ⟨w.heap.size, 5, none⟩ = some (.slice ia il ic) ∧ w'.cell? ⟨w.heap.size, 6, none⟩ = some (.slice oa ol oc) ∧ w'.cell? ⟨w.heap.size, 7, none⟩ = some (.string et) ∧ Hid (KP w #[.string ty, .string tx, .string st, .string tn, .string tc, .slice ia il ic, .slice oa ol oc, .string et, .pointer q] z w'))
      ((refine TS.of ?_; repeat' (first | with_reducible exact HK0.out | with_reducible exact HT1.out | with_reducible exact HT2.out | with_reducible exact HK0.out.sz | with_reducible exact HT1.out.sz | with_reducible exact HT2.out.sz | with_reducible refine KP.drew ?_ | with_reducible refine KP.alloc ?_ _ | with_reducible refine KP.set ?_ ?_ _ _)))
      (first
        | (go_at_call_of 16 (Value.slice ia il ic); refine (clone_any ⟨ia, il, ic, iff⟩ B _ (HI.out.1.below ((TS.kp (by assumption)).1.mono HB.out)) (Nat.le_trans HB.out (TS.kp (by assumption)).1.size) HI.out.2).mono ?_; rintro e w' ⟨a1, n1, c1, rfl, HB1⟩; have HT1 : Hid (KP w _ z w') := (TS.kp (by assumption)).below HB1.out; have hl1 := below_lt HB1.out; have hc1 := below_cells HB1.out; have hf1 := below_frozen HB1.out)
        | (go_at_call_of 16 (Value.slice oa ol oc); refine (clone_any ⟨oa, ol, oc, off⟩ B _ (HO.out.1.below ((TS.kp (by assumption)).1.mono HB.out)) (Nat.le_trans HB.out (TS.kp (by assumption)).1.size) HO.out.2).mono ?_; rintro e w' ⟨a2, n2, c2, rfl, HB2⟩; have HT2 : Hid (KP w _ z w') := (TS.kp (by assumption)).below HB2.out; have hl2 := below_lt HB2.out; have hc2 := below_cells HB2.out; have hf2 := below_frozen HB2.out))
    all_goals (go_wp2_with fail; go_meet)
    · exact ⟨a1, n1, c1, a2, n2, c2, _, rfl, (by repeat' (first | with_reducible exact HK0.out | with_reducible exact HT1.out | with_reducible exact HT2.out | with_reducible exact HK0.out.sz | with_reducible exact HT1.out.sz | with_reducible exact HT2.out.sz | with_reducible refine KP.drew ?_ | with_reducible refine KP.alloc ?_ _ | with_reducible refine KP.set ?_ ?_ _ _)), HT2.out.sz, heap_alloc_new _ _⟩
    · exact ⟨a1, n1, c1, a2, n2, c2, _, rfl, (by repeat' (first | with_reducible exact HK0.out | with_reducible exact HT1.out | with_reducible exact HT2.out | with_reducible exact HK0.out.sz | with_reducible exact HT1.out.sz | with_reducible exact HT2.out.sz | with_reducible refine KP.drew ?_ | with_reducible refine KP.alloc ?_ _ | with_reducible refine KP.set ?_ ?_ _ _)), HT1.out.sz, store15 ((HB2.out.block _ (by simp)).trans (heap_alloc_new _ _)) rfl _ _ _ _ _ _ _ _ _ _ _ _ _ _ _⟩
    · exact ⟨a1, n1, c1, a2, n2, c2, _, rfl, (by repeat' (first | with_reducible exact HK0.out | with_reducible exact HT1.out | with_reducible exact HT2.out | with_reducible exact HK0.out.sz | with_reducible exact HT1.out.sz | with_reducible exact HT2.out.sz | with_reducible refine KP.drew ?_ | with_reducible refine KP.alloc ?_ _ | with_reducible refine KP.set ?_ ?_ _ _)), HK0.out.sz, store15 ((HB2.out.block _ (hl1 _ (by simp))).trans ((HB1.out.block _ (by simp)).trans (heap_alloc_new _ _))) rfl _ _ _ _ _ _ _ _ _ _ _ _ _ _ _⟩
  case rest =>
    obtain ⟨a1, n1, c1, a2, n2, c2, g, rfl, HKG⟩ := hcut
    have hz := HZ.out
    subst hz
    have HBW : Hid (Below w.heap.size w wc) := HKG.out.1.1
    have x8 : wc.cell? ⟨w.heap.size, 8, none⟩ = some (.pointer q) := cell_of_heap HKG.out.1.2.1 rfl
    have g0 : wc.cell? ⟨g, 0, none⟩ = some (.string ty) := cell_of_heap HKG.out.2.2 rfl
    have g1 : wc.cell? ⟨g, 1, none⟩ = some (.string tx) := cell_of_heap HKG.out.2.2 rfl
    have g2 : wc.cell? ⟨g, 2, none⟩ = some (.string st) := cell_of_heap HKG.out.2.2 rfl
    have g3 : wc.cell? ⟨g, 3, none⟩ = some (.string tn) := cell_of_heap HKG.out.2.2 rfl
    have g4 : wc.cell? ⟨g, 4, none⟩ = some (.string tc) := cell_of_heap HKG.out.2.2 rfl
    have g5 : wc.cell? ⟨g, 5, none⟩ = some (.slice a1 n1 c1) := cell_of_heap HKG.out.2.2 rfl
    have g6 : wc.cell? ⟨g, 6, none⟩ = some (.slice a2 n2 c2) := cell_of_heap HKG.out.2.2 rfl
    have g7 : wc.cell? ⟨g, 7, none⟩ = some (.string et) := cell_of_heap HKG.out.2.2 rfl
    have g8 : wc.cell? ⟨g, 8, none⟩ = some (.pointer none) := cell_of_heap HKG.out.2.2 rfl
    have g9 : wc.cell? ⟨g, 9, none⟩ = some (.int .i64 0) := cell_of_heap HKG.out.2.2 rfl
    have g10 : wc.cell? ⟨g, 10, none⟩ = some (.string { data := #[] }) := cell_of_heap HKG.out.2.2 rfl
    have g11 : wc.cell? ⟨g, 11, none⟩ = some (.slice none 0 0) := cell_of_heap HKG.out.2.2 rfl
    have g12 : wc.cell? ⟨g, 12, none⟩ = some (.bool false) := cell_of_heap HKG.out.2.2 rfl
    have g13 : wc.cell? ⟨g, 13, none⟩ = some (.pointer none) := cell_of_heap HKG.out.2.2 rfl
    have g14 : wc.cell? ⟨g, 14, none⟩ = some (.pointer none) := cell_of_heap HKG.out.2.2 rfl
    have z0 : wc.cell? ⟨w.heap.size + 1, 0, none⟩ = some (.string { data := #[] }) := cell_of_heap HKG.out.1.2.2.1 rfl
    have z1 : wc.cell? ⟨w.heap.size + 1, 1, none⟩ = some (.string { data := #[] }) := cell_of_heap HKG.out.1.2.2.1 rfl
    have z2 : wc.cell? ⟨w.heap.size + 1, 2, none⟩ = some (.string { data := #[] }) := cell_of_heap HKG.out.1.2.2.1 rfl
    have z3 : wc.cell? ⟨w.heap.size + 1, 3, none⟩ = some (.string { data := #[] }) := cell_of_heap HKG.out.1.2.2.1 rfl
    have z4 : wc.cell? ⟨w.heap.size + 1, 4, none⟩ = some (.string { data := #[] }) := cell_of_heap HKG.out.1.2.2.1 rfl
    have z5 : wc.cell? ⟨w.heap.size + 1, 5, none⟩ = some (.slice none 0 0) := cell_of_heap HKG.out.1.2.2.1 rfl
    have z6 : wc.cell? ⟨w.heap.size + 1, 6, none⟩ = some (.slice none 0 0) := cell_of_heap HKG.out.1.2.2.1 rfl
    have z7 : wc.cell? ⟨w.heap.size + 1, 7, none⟩ = some (.string { data := #[] }) := cell_of_heap HKG.out.1.2.2.1 rfl
    have z8 : wc.cell? ⟨w.heap.size + 1, 8, none⟩ = some (.pointer none) := cell_of_heap HKG.out.1.2.2.1 rfl
    have z9 : wc.cell? ⟨w.heap.size + 1, 9, none⟩ = some (.int .i64 0) := cell_of_heap HKG.out.1.2.2.1 rfl
    have z10 : wc.cell? ⟨w.heap.size + 1, 10, none⟩ = some (.string { data := #[] }) := cell_of_heap HKG.out.1.2.2.1 rfl
    have z11 : wc.cell? ⟨w.heap.size + 1, 11, none⟩ = some (.slice none 0 0) := cell_of_heap HKG.out.1.2.2.1 rfl
    have z12 : wc.cell? ⟨w.heap.size + 1, 12, none⟩ = some (.bool false) := cell_of_heap HKG.out.1.2.2.1 rfl
    have z13 : wc.cell? ⟨w.heap.size + 1, 13, none⟩ = some (.pointer none) := cell_of_heap HKG.out.1.2.2.1 rfl
    have z14 : wc.cell? ⟨w.heap.size + 1, 14, none⟩ = some (.pointer none) := cell_of_heap HKG.out.1.2.2.1 rfl
    have gf := free_of_heap HKG.out.2.2
    have zf := free_of_heap HKG.out.1.2.2.1
    have hg : w.heap.size + 2 ≤ g := HKG.out.2.1
    have hg2 : g < wc.heap.size := lt_of_heap HKG.out.2.2
    have hgw : w.heap.size ≠ g := by omega
    have hgw1 : w.heap.size + 1 ≠ g := by omega
    clear HK0 HI HO HZ
    have HKH : Hid _ := HKG
    clear HKG
    cases q with
    | none =>
      go_wp2_with fail
      exact (fin_chain HKH.out.1 rfl a1 n1 c1 a2 n2 c2 none).post rfl rfl
    | some ad =>
      obtain ⟨b2, o2, rfl, hb2, hc2, hap⟩ := HAP.out _ rfl
      have hb2w : b2 < w.heap.size := Nat.lt_of_lt_of_le hb2 HB.out
      have y0 : wc.cell? ⟨b2, o2, none⟩ = some (.string ap.id) := (HBW.out.cell hb2w).trans (hc2 0 (by omega))
      have y1 : wc.cell? ⟨b2, o2 + 1, none⟩ = some (.pointer ap.p) := (HBW.out.cell hb2w).trans (hc2 1 (by omega))
      have y2 : wc.cell? ⟨b2, o2 + 2, none⟩ = some (.string ap.re) := (HBW.out.cell hb2w).trans (hc2 2 (by omega))
      have hbs : b2 < wc.heap.size := by omega
      have hws : w.heap.size < wc.heap.size := by omega
      have hs1 : w.heap.size + 1 < wc.heap.size := by omega
      have hs2 : w.heap.size + 1 ≠ wc.heap.size := by omega
      have hs3 : g ≠ wc.heap.size := by omega
      have hs4 : g ≠ w.heap.size + 1 := by omega
      have hs5 : wc.heap.size ≠ w.heap.size + 1 := by omega
      have hs6 : w.heap.size + 1 < wc.heap.size + 1 := by omega
      have hl3 : w.heap.size + 2 ≤ wc.heap.size := by omega
      have hap2 := hap.p
      clear hap hc2 HAP hb2
      obtain ⟨id, p, bb, re⟩ := ap
      dsimp only at y0 y1 y2 hap2
      cases p with
      | none =>
        clear hap2
        go_wp2_with fail
        go_region
        go_wp2_with fail
        exact (((fin_chain (HKH.out.1.set hg _ _) rfl a1 n1 c1 a2 n2 c2 (some ⟨wc.heap.size, 0, none⟩)).alloc _).drew).post rfl rfl
      | some ad =>
        obtain ⟨b3, o3, rfl, hb3, hc3⟩ := hap2 _ rfl
        have hb3w : b3 < w.heap.size := Nat.lt_of_lt_of_le hb3 HB.out
        have y3 : wc.cell? ⟨b3, o3, none⟩ = some (.bool bb) := (HBW.out.cell hb3w).trans hc3
        have hbs3 : b3 < wc.heap.size := by omega
        clear hb3 hc3 hap2
        go_wp2_with fail
        go_region
        go_wp2_with fail
        exact ((((fin_chain (HKH.out.1.set hg _ _) rfl a1 n1 c1 a2 n2 c2 (some ⟨wc.heap.size, 0, none⟩)).alloc _).alloc _).drew).post rfl rfl
end Go.Proofs.Qxb6616796a
