import Derived.Test.Qxb6616692aProg
import Derived.Test.Qxb6616692aA0
import Derived.WalkKit
import Derived.WalkSpells
import Derived.WalkLawsBesides
import Derived.Deep.QuietTactic
import Derived.BigQuiet
import Derived.Deep.DrawnRows
import Derived.Deep.RegionWith
namespace Go.Proofs.Qxb6616692a
open Go.RowKit

theorem bits_run (b : Nat) (w : World) : (callFunc 32 #[.float .f64 b]).run Try.prog w = .ok (.value (.int .u64 b)) w := by
  rw [run_callFunc_extern (e := Extern.MathFloatBits.float64bits) Try.func32 (by kernel_rfl) (by kernel_rfl) (by kernel_rfl) (by kernel_rfl)]
  rfl
theorem frombits_run (n : Nat) (w : World) : (callFunc 33 #[.int .u64 (n : Int)]).run Try.prog w = .ok (.value (.float .f64 n)) w := by
  rw [run_callFunc_extern (e := Extern.MathFloatBits.float64frombits) Try.func33 (by kernel_rfl) (by kernel_rfl) (by kernel_rfl) (by kernel_rfl)]
  rfl
theorem load_run (a : Addr) (n : Int) (w : World) (hc : w.cell? a = some (.int .u64 n)) : (callFunc 39 #[.pointer (some a)]).run Try.prog w = .ok (.value (.int .u64 n)) w :=
  run_call_load Try.func39 (by kernel_rfl) (by kernel_rfl) (by kernel_rfl) .u64 (by kernel_rfl) hc
theorem store_run (a : Addr) (n : Int) (u : Value) (w : World) (hc : w.cell? a = some u) (hz : w.frozen? a = false) : (callFunc 31 #[.pointer (some a), .int .u64 n]).run Try.prog w = .ok (.value (.tuple #[])) (w.setCell a (.int .u64 n)) :=
  run_call_store Try.func31 (by kernel_rfl) (by kernel_rfl) (by kernel_rfl) (by kernel_rfl) hc hz

set_option maxHeartbeats 1000000 in
theorem uStore_any (R o b : Nat) (u : Value) (w : World) (hc : w.cell? ⟨R, o, none⟩ = some u) (hz : w.frozen? ⟨R, o, none⟩ = false) :
    Calls Try.prog 24 #[.pointer (some ⟨R, o, none⟩), .int .u64 b] w fun e w' => e = .returned (.tuple #[]) ∧ w.setCell ⟨R, o, none⟩ (.int .u64 b) = w' := by
  have hs := store_run ⟨R, o, none⟩ b u w hc hz
  go_enter Try.func24, Try.ntmps24
  go_wp2
  go_end0
  exact ⟨rfl, rfl⟩

set_option maxHeartbeats 1000000 in
theorem aStore_any (R o b : Nat) (u : Value) (w : World) (hc : w.cell? ⟨R, o, none⟩ = some u) (hz : w.frozen? ⟨R, o, none⟩ = false) :
    Calls Try.prog 25 #[.pointer (some ⟨R, o, none⟩), .float .f64 b] w fun e w' => e = .returned (.tuple #[]) ∧ (w.setCell ⟨R, o, none⟩ (.int .u64 b)).drew = w' := by
  have hb := bits_run
  have HC : Hid (∀ w' : World, w'.cell? ⟨R, o, none⟩ = some u → w'.frozen? ⟨R, o, none⟩ = false → Calls Try.prog 24 #[.pointer (some ⟨R, o, none⟩), .int .u64 b] w' fun e w'' => e = .returned (.tuple #[]) ∧ w'.setCell ⟨R, o, none⟩ (.int .u64 b) = w'') := fun w' h1 h2 => uStore_any R o b u w' h1 h2
  go_enter Try.func25, Try.ntmps25
  go_region_with ((go_at_call 24; refine (HC.out _ ?_ ?_).mono ?_; (simp [hc]); (simp [hz]); rintro e w' ⟨rfl, rfl⟩))
  all_goals go_wp2
  all_goals go_end0
  all_goals exact ⟨rfl, rfl⟩

set_option maxHeartbeats 1000000 in
theorem aLoad_any (R o b : Nat) (w : World) (hc : w.cell? ⟨R, o, none⟩ = some (.int .u64 b)) :
    Calls Try.prog 26 #[.pointer (some ⟨R, o, none⟩)] w fun e w' => e = .returned (.float .f64 b) ∧ w = w' := by
  have hl := load_run ⟨R, o, none⟩ b w hc
  have hf := frombits_run
  go_enter Try.func26, Try.ntmps26
  go_wp2
  go_ret
  exact ⟨rfl, rfl⟩

set_option maxHeartbeats 1000000 in
theorem loadLimit_any (R b : Nat) (w : World) (hc : w.cell? ⟨R, 2, none⟩ = some (.int .u64 b)) :
    Calls Try.prog 28 #[.pointer (some ⟨R, 0, none⟩)] w fun e w' => e = .returned (.float .f64 b) ∧ w = w' := by
  go_enter Try.func28, Try.ntmps28
  go_wp2_with fail
  refine (aLoad_any R 2 b w hc).mono ?_
  rintro e w' ⟨rfl, rfl⟩
  go_wp2
  go_ret
  exact ⟨rfl, rfl⟩

/-- The estimate in block E, its limit in block R. -/
structure LL (w : World) (R E : Nat) (o : Nat) (least : Int) (lim : Nat) (slow sif : Int) : Prop where
  ne : R ≠ E
  of : w.cell? ⟨R, 2, none⟩ = some (.int .u64 o)
  fz : w.frozen? ⟨R, 2, none⟩ = false
  e : w.heap[E]? = some (.cells #[.pointer (some ⟨R, 0, none⟩), .int .i64 least, .float .f64 lim, .int .i64 slow, .int .i64 sif] 94 (0, 0))

theorem cell_of_heap {w : World} {C T : Nat} {arr : Array Value} (h : w.heap[C]? = some (.cells arr T (0, 0))) {j : Nat} {v : Value} (hv : arr[j]? = some v) : w.cell? ⟨C, j, none⟩ = some v := by
  simp [World.cell?, h, hv]
theorem free_of_heap {w : World} {C T : Nat} {arr : Array Value} (h : w.heap[C]? = some (.cells arr T (0, 0))) (j : Nat) : w.frozen? ⟨C, j, none⟩ = false := by
  simp [World.frozen?, h]
theorem lt_of_heap {w : World} {C : Nat} {ob : Obj} (h : w.heap[C]? = some ob) : C < w.heap.size := (Array.getElem?_eq_some_iff.1 h).1
theorem set_heap {w : World} {g T : Nat} {arr : Array Value} (hh : w.heap[g]? = some (.cells arr T (0, 0))) (c : Nat) (v : Value) :
    (w.setCell ⟨g, c, none⟩ v).heap[g]? = some (.cells (arr.setIfInBounds c v) T (0, 0)) := by
  simp [World.setCell, Array.getElem?_modify, hh]
theorem zero80 : Try.zeroCells80[2]? = some (.int .u64 0) := by kernel_rfl

theorem new_ll (o : Nat) (w w1 : World) (hw : (w.alloc (Obj.cells Try.zeroCells80 80)).setCell ⟨w.heap.size, 2, none⟩ (.int .u64 o) = w1) :
    w1.heap.size = w.heap.size + 1 ∧ w1.cell? ⟨w.heap.size, 2, none⟩ = some (.int .u64 o) ∧ w1.frozen? ⟨w.heap.size, 2, none⟩ = false ∧ Below w.heap.size w w1 := by
  subst hw
  have h1 := heap_alloc_new w (Obj.cells Try.zeroCells80 80)
  have h2 := set_heap h1 2 (.int .u64 o)
  refine ⟨by simp [World.setCell], cell_of_heap h2 ?_, free_of_heap h2 2, ((Below.refl _ _).alloc (Nat.le_refl _) _).setCell (Nat.le_refl _) _⟩
  simp

set_option maxHeartbeats 1000000 in
theorem new_any (o : Nat) (least : Int) (lim : Nat) (slow sif : Int) (w : World) :
    Calls Try.prog 17 #[.float .f64 o, .int .i64 least, .float .f64 lim, .int .i64 slow, .int .i64 sif] w fun e w' =>
      ∃ R E, e = .returned (.pointer (some ⟨E, 0, none⟩)) ∧ Hid (LL w' R E o least lim slow sif ∧ w.heap.size ≤ R ∧ w.heap.size ≤ E ∧ Below w.heap.size w w') := by
  have hu := cell_of_heap (heap_alloc_new w (Obj.cells Try.zeroCells80 80)) zero80
  have hf := free_of_heap (heap_alloc_new w (Obj.cells Try.zeroCells80 80)) 2
  have HU : Hid _ := hu
  have HF : Hid _ := hf
  clear hu hf
  go_enter Try.func17, Try.ntmps17
  go_wp2_with fail
  refine (aStore_any w.heap.size 2 o _ _ HU.out HF.out).mono ?_
  rintro e w' ⟨rfl, hw'⟩
  obtain ⟨w1, hw1⟩ : ∃ w1, (w.alloc (Obj.cells Try.zeroCells80 80)).setCell ⟨w.heap.size, 2, none⟩ (.int .u64 o) = w1 := ⟨_, rfl⟩
  rw [hw1] at hw'
  obtain ⟨hs, hc, hz, hb⟩ := new_ll o w w1 hw1
  clear hw1
  subst hw'
  have HX : Hid (w1.cell? ⟨w.heap.size, 2, none⟩ = some (.int .u64 o) ∧ w1.frozen? ⟨w.heap.size, 2, none⟩ = false ∧ Below w.heap.size w w1) := ⟨hc, hz, hb⟩
  have HS : Hid (w1.heap.size = w.heap.size + 1) := hs
  clear hc hz hb hs
  go_wp2
  go_ret
  refine ⟨w.heap.size, w1.heap.size, rfl, ?_, Nat.le_refl _, HX.out.2.2.size, (HX.out.2.2.alloc HX.out.2.2.size _).drew⟩
  have hlt : w.heap.size < w1.heap.size := by rw [HS.out]; omega
  refine ⟨by omega, ?_, ?_, ?_⟩
  · exact (((Below.refl w1.heap.size w1).alloc (Nat.le_refl _) _).cell (p := ⟨w.heap.size, 2, none⟩) hlt).trans HX.out.1
  · exact (((Below.refl w1.heap.size w1).alloc (Nat.le_refl _) _).frozen (p := ⟨w.heap.size, 2, none⟩) hlt).trans HX.out.2.1
  · exact heap_alloc_new _ _

theorem LL.cells {w : World} {R E o : Nat} {least : Int} {lim : Nat} {slow sif : Int} (h : LL w R E o least lim slow sif) :
    w.cell? ⟨E, 0, none⟩ = some (.pointer (some ⟨R, 0, none⟩)) ∧ w.cell? ⟨E, 1, none⟩ = some (.int .i64 least) ∧ w.cell? ⟨E, 2, none⟩ = some (.float .f64 lim) ∧ w.cell? ⟨E, 3, none⟩ = some (.int .i64 slow) ∧ w.cell? ⟨E, 4, none⟩ = some (.int .i64 sif) :=
  ⟨cell_of_heap h.e rfl, cell_of_heap h.e rfl, cell_of_heap h.e rfl, cell_of_heap h.e rfl, cell_of_heap h.e rfl⟩
theorem LL.free {w : World} {R E o : Nat} {least : Int} {lim : Nat} {slow sif : Int} (h : LL w R E o least lim slow sif) (j : Nat) : w.frozen? ⟨E, j, none⟩ = false := free_of_heap h.e j
theorem LL.drew {w : World} {R E o : Nat} {least : Int} {lim : Nat} {slow sif : Int} (h : LL w R E o least lim slow sif) : LL w.drew R E o least lim slow sif := ⟨h.ne, h.of, h.fz, h.e⟩
theorem LL.old {w : World} {R E o : Nat} {least : Int} {lim : Nat} {slow sif : Int} (h : LL w R E o least lim slow sif) (c : Nat) (v : Value) :
    (w.setCell ⟨E, c, none⟩ v).cell? ⟨R, 2, none⟩ = some (.int .u64 o) ∧ (w.setCell ⟨E, c, none⟩ v).frozen? ⟨R, 2, none⟩ = false :=
  ⟨(World.cell?_of_block (w := w) (Below.heap_setCell _ _ _ _ h.ne)).trans h.of, (World.frozen?_of_block (w := w) (Below.heap_setCell _ _ _ _ h.ne)).trans h.fz⟩
theorem LL.set1 {w : World} {R E o : Nat} {least : Int} {lim : Nat} {slow sif : Int} (h : LL w R E o least lim slow sif) (x : Int) : LL (w.setCell ⟨E, 1, none⟩ (.int .i64 x)) R E o x lim slow sif := ⟨h.ne, (h.old _ _).1, (h.old _ _).2, set_heap h.e 1 _⟩
theorem LL.set2 {w : World} {R E o : Nat} {least : Int} {lim : Nat} {slow sif : Int} (h : LL w R E o least lim slow sif) (x : Nat) : LL (w.setCell ⟨E, 2, none⟩ (.float .f64 x)) R E o least x slow sif := ⟨h.ne, (h.old _ _).1, (h.old _ _).2, set_heap h.e 2 _⟩
theorem LL.set3 {w : World} {R E o : Nat} {least : Int} {lim : Nat} {slow sif : Int} (h : LL w R E o least lim slow sif) (x : Int) : LL (w.setCell ⟨E, 3, none⟩ (.int .i64 x)) R E o least lim x sif := ⟨h.ne, (h.old _ _).1, (h.old _ _).2, set_heap h.e 3 _⟩
theorem LL.set4 {w : World} {R E o : Nat} {least : Int} {lim : Nat} {slow sif : Int} (h : LL w R E o least lim slow sif) (x : Int) : LL (w.setCell ⟨E, 4, none⟩ (.int .i64 x)) R E o least lim slow x := ⟨h.ne, (h.old _ _).1, (h.old _ _).2, set_heap h.e 4 _⟩

/-- All blocks but E are as they were. -/
def KB (E : Nat) (w w' : World) : Prop := ∀ k, k ≠ E → w'.heap[k]? = w.heap[k]?
theorem KB.refl (E : Nat) (w : World) : KB E w w := fun _ _ => rfl
theorem KB.trans {E : Nat} {a b c : World} (h : KB E a b) (k : KB E b c) : KB E a c := fun i hi => (k i hi).trans (h i hi)
theorem KB.set {E : Nat} {a b : World} (h : KB E a b) (c : Nat) (v : Value) : KB E a (b.setCell ⟨E, c, none⟩ v) := fun i hi => (Below.heap_setCell _ _ _ _ hi).trans (h i hi)
theorem KB.drew {E : Nat} {a b : World} (h : KB E a b) : KB E a b.drew := h
theorem KB.drewN {E : Nat} {a b : World} (h : KB E a b) (n : Nat) : KB E a (b.drewN n) := h
theorem LL.drewN {w : World} {R E o : Nat} {least : Int} {lim : Nat} {slow sif : Int} (h : LL w R E o least lim slow sif) (n : Nat) : LL (w.drewN n) R E o least lim slow sif := ⟨h.ne, h.of, h.fz, h.e⟩

/-- What a call leaves: the estimate as told, blocks below E as they were. -/
def LP (E : Nat) (w : World) (R o : Nat) (least : Int) (lim : Nat) (slow sif : Int) (e : Ending) (w' : World) : Prop := e = .returned (.tuple #[]) ∧ Hid (LL w' R E o least lim slow sif) ∧ Hid (KB E w w') ∧ Hid (Below E w w')

set_option maxHeartbeats 1000000 in
theorem endRun_any (R E o : Nat) (least : Int) (lim : Nat) (slow sif : Int) (w : World) (h : LL w R E o least lim slow sif) :
    Calls Try.prog 35 #[.pointer (some ⟨E, 0, none⟩)] w (LP E w R o least lim 0 0) := by
  obtain ⟨_, _, _, c3, c4⟩ := h.cells
  have f3 := h.free 3
  have f4 := h.free 4
  have HL : Hid _ := h
  clear h
  go_enter Try.func35, Try.ntmps35
  go_wp2
  go_end0
  exact ⟨rfl, (HL.out.set3 0).set4 0, ((KB.refl _ _).set 3 _).set 4 _, ((Below.refl _ _).setCell (Nat.le_refl E) _).setCell (Nat.le_refl E) _⟩

set_option maxHeartbeats 1000000 in
theorem learn_any (R E o : Nat) (least d : Int) (lim : Nat) (slow sif : Int) (w : World) (h : LL w R E o least lim slow sif) :
    Calls Try.prog 36 #[.pointer (some ⟨E, 0, none⟩), .int .i64 d] w (LP E w R o d lim 0 0) := by
  obtain ⟨_, c1, _, _, _⟩ := h.cells
  have f1 := h.free 1
  have HL : Hid _ := h
  clear h
  go_enter Try.func36, Try.ntmps36
  go_wp2_with fail
  refine (endRun_any R E o d lim slow sif _ (HL.out.set1 d)).mono ?_
  rintro e w' ⟨rfl, hl, hk, hb⟩
  go_wp2
  go_end0
  exact ⟨rfl, hl, ((KB.refl _ _).set 1 _).trans hk.out, ((Below.refl _ _).setCell (Nat.le_refl E) _).trans hb.out⟩
end Go.Proofs.Qxb6616692a
