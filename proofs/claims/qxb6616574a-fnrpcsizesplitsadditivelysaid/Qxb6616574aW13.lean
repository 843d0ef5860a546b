import Derived.Test.Qxb6616574aW12
namespace Go.Proofs.Qxb6616574a
open Go.RowKit

/-- The cells that make lays. -/
def made (z : Array Value) (n : Nat) : Array Value := madeCells z n

theorem run_mk (t e : Nat) (z : Value) (size bytes n : Nat) (ht : Try.prog.underlying t = some (.slice e)) (hinfo : (Try.prog.info? e).map (fun i => (i.zero, i.size, i.bytes)) = some (some z, size, bytes))
    (hb : bytes * n ≤ 281474976710656) (h63 : n ≤ 9223372036854775807) (w : World) :
    (Instr.makeSlice t (.int .i64 (n : Int)) (.int .i64 (n : Int))).run Try.prog w = .ok (.slice (some ⟨w.heap.size, 0, none⟩) n n) (w.alloc (.cells (made z.cells (n * size)) e)) := by
  obtain ⟨i, hi, hzz⟩ := Option.map_eq_some_iff.1 hinfo
  simp only [Prod.mk.injEq] at hzz
  obtain ⟨hz, hs, hbb⟩ := hzz
  have hb' : (i.bytes : Int) * (n : Int) ≤ 281474976710656 := by
    have h : ((i.bytes * n : Nat) : Int) ≤ 281474976710656 := by rw [hbb]; omega
    rwa [Int.natCast_mul] at h
  have hr := run_make (P := Try.prog) w t e i z ht hi hz .i64 .i64 n n (by omega) (Int.le_refl _) hb' (by omega)
  simp only [Int.toNat_natCast, hs] at hr
  exact hr

/-- Block g is a row of n elements of 'size' cells of type T; the first k elements hold V. -/
def Fill (w : World) (g T n size k : Nat) (V : Nat → Nat → Value) : Prop :=
  ∃ arr : Array Value, w.heap[g]? = some (.cells arr T (0, 0)) ∧ arr.size = n * size ∧ ∀ i j, i < k → j < size → arr[i * size + j]? = some (V i j)

theorem Fill.new (w : World) (z : Array Value) (T n size : Nat) (V : Nat → Nat → Value) : Fill (w.alloc (.cells (made z (n * size)) T)) w.heap.size T n size 0 V :=
  ⟨_, heap_alloc_new _ _, size_madeCells _ _, fun i j hi _ => absurd hi (by omega)⟩
theorem idx_lt {i n j size : Nat} (hi : i < n) (hj : j < size) : i * size + j < n * size := by
  have h1 : i * size + size ≤ n * size := by
    have : (i + 1) * size ≤ n * size := Nat.mul_le_mul_right _ hi
    rwa [Nat.succ_mul] at this
  omega
theorem Fill.cell {w : World} {g T n size k : Nat} {V : Nat → Nat → Value} (h : Fill w g T n size k V) {i j : Nat} (hi : i < k) (hj : j < size) : w.cell? ⟨g, i * size + j, none⟩ = some (V i j) := by
  obtain ⟨arr, hh, hs, hc⟩ := h
  simp [World.cell?, hh, hc i j hi hj]
theorem Fill.old {w : World} {g T n size k : Nat} {V : Nat → Nat → Value} (h : Fill w g T n size k V) {i j : Nat} (hi : i < n) (hj : j < size) : ∃ v, w.cell? ⟨g, i * size + j, none⟩ = some v := by
  obtain ⟨arr, hh, hs, hc⟩ := h
  have hlt : i * size + j < arr.size := by rw [hs]; exact idx_lt hi hj
  exact ⟨arr[i * size + j], by simp [World.cell?, hh, hlt]⟩
theorem Fill.free {w : World} {g T n size k : Nat} {V : Nat → Nat → Value} (h : Fill w g T n size k V) (c : Nat) : w.frozen? ⟨g, c, none⟩ = false := by
  obtain ⟨arr, hh, hs, hc⟩ := h
  simp [World.frozen?, hh]
theorem Fill.lt {w : World} {g T n size k : Nat} {V : Nat → Nat → Value} (h : Fill w g T n size k V) : g < w.heap.size := by
  obtain ⟨arr, hh, hs, hc⟩ := h
  exact (Array.getElem?_eq_some_iff.1 hh).1
theorem Fill.congr {w w' : World} {g T n size k : Nat} {V : Nat → Nat → Value} (h : Fill w g T n size k V) (hb : w'.heap[g]? = w.heap[g]?) : Fill w' g T n size k V := by
  obtain ⟨arr, hh, hs, hc⟩ := h
  exact ⟨arr, hb.trans hh, hs, hc⟩
theorem Fill.to {w : World} {g T n size k : Nat} {V V' : Nat → Nat → Value} (h : Fill w g T n size k V) (hv : ∀ i j, i < k → V i j = V' i j) : Fill w g T n size k V' := by
  obtain ⟨arr, hh, hs, hc⟩ := h
  exact ⟨arr, hh, hs, fun i j hi hj => (hc i j hi hj).trans (by rw [hv i j hi])⟩

theorem set_heap {w : World} {g T : Nat} {arr : Array Value} (hh : w.heap[g]? = some (.cells arr T (0, 0))) (c : Nat) (v : Value) :
    (w.setCell ⟨g, c, none⟩ v).heap[g]? = some (.cells (arr.setIfInBounds c v) T (0, 0)) := by
  simp [World.setCell, Array.getElem?_modify, hh]

/-- One cell of element k is stored; cell j: the elements before k stay. -/
theorem Fill.put {w : World} {g T n size k : Nat} {V : Nat → Nat → Value} (h : Fill w g T n size k V) (j : Nat) (v : Value) : Fill (w.setCell ⟨g, k * size + j, none⟩ v) g T n size k V := by
  obtain ⟨arr, hh, hs, hc⟩ := h
  refine ⟨_, set_heap hh _ _, by simpa using hs, fun i j' hi hj => ?_⟩
  have := idx_lt (size := size) hi hj
  rw [Array.getElem?_setIfInBounds, if_neg (by omega)]
  exact hc i j' hi hj

theorem Fill.set1 {w : World} {g T n k : Nat} {V : Nat → Nat → Value} (h : Fill w g T n 1 k V) (hk : k < n) (v : Value) (hv : V k 0 = v) : Fill (w.setCell ⟨g, k, none⟩ v) g T n 1 (k + 1) V := by
  obtain ⟨arr, hh, hs, hc⟩ := h
  refine ⟨_, set_heap hh _ _, by simpa using hs, fun i j hi hj => ?_⟩
  obtain rfl : j = 0 := by omega
  rw [Array.getElem?_setIfInBounds]
  by_cases he : i = k
  · subst he
    rw [if_pos (by omega), if_pos (by omega), hv]
  · rw [if_neg (by omega)]
    exact hc i 0 (by omega) (by omega)

theorem Fill.set2 {w : World} {g T n k : Nat} {V : Nat → Nat → Value} (h : Fill w g T n 2 k V) (hk : k < n) (v0 v1 : Value) (h0 : V k 0 = v0) (h1 : V k 1 = v1) :
    Fill ((w.setCell ⟨g, k * 2, none⟩ v0).setCell ⟨g, k * 2 + 1, none⟩ v1) g T n 2 (k + 1) V := by
  obtain ⟨arr, hh, hs, hc⟩ := h
  refine ⟨_, set_heap (set_heap hh _ _) _ _, by simpa using hs, fun i j hi hj => ?_⟩
  rw [Array.getElem?_setIfInBounds, Array.getElem?_setIfInBounds]
  by_cases he : i = k
  · subst he
    have hj : j = 0 ∨ j = 1 := by omega
    rcases hj with rfl | rfl
    · rw [if_neg (by omega), if_pos (by omega), if_pos (by omega), h0]
    · rw [if_pos (by omega), if_pos (by simp; omega), h1]
  · rw [if_neg (by omega), if_neg (by omega)]
    exact hc i j (by omega) (by omega)

theorem Fill.set3 {w : World} {g T n k : Nat} {V : Nat → Nat → Value} (h : Fill w g T n 3 k V) (hk : k < n) (v0 v1 v2 : Value) (h0 : V k 0 = v0) (h1 : V k 1 = v1) (h2 : V k 2 = v2) :
    Fill (((w.setCell ⟨g, k * 3, none⟩ v0).setCell ⟨g, k * 3 + 1, none⟩ v1).setCell ⟨g, k * 3 + 2, none⟩ v2) g T n 3 (k + 1) V := by
  obtain ⟨arr, hh, hs, hc⟩ := h
  refine ⟨_, set_heap (set_heap (set_heap hh _ _) _ _) _ _, by simpa using hs, fun i j hi hj => ?_⟩
  rw [Array.getElem?_setIfInBounds, Array.getElem?_setIfInBounds, Array.getElem?_setIfInBounds]
  by_cases he : i = k
  · subst he
    have hj : j = 0 ∨ j = 1 ∨ j = 2 := by omega
    rcases hj with rfl | rfl | rfl
    · rw [if_neg (by omega), if_neg (by omega), if_pos (by omega), if_pos (by omega), h0]
    · rw [if_neg (by omega), if_pos (by omega), if_pos (by simp; omega), h1]
    · rw [if_pos (by omega), if_pos (by simp; omega), h2]
  · rw [if_neg (by omega), if_neg (by omega), if_neg (by omega)]
    exact hc i j (by omega) (by omega)

/-- All that was there but block C is as it was. -/
structure Keep (C : Nat) (w w' : World) : Prop where
  os : w'.os = w.os
  tape : w'.tape = w.tape
  output : w'.output = w.output
  size : w.heap.size ≤ w'.heap.size
  block : ∀ k, k < w.heap.size → k ≠ C → w'.heap[k]? = w.heap[k]?

theorem Keep.refl (C : Nat) (w : World) : Keep C w w := ⟨rfl, rfl, rfl, Nat.le_refl _, fun _ _ _ => rfl⟩
theorem Keep.trans {C : Nat} {a b c : World} (h : Keep C a b) (k : Keep C b c) : Keep C a c :=
  ⟨k.os.trans h.os, k.tape.trans h.tape, k.output.trans h.output, Nat.le_trans h.size k.size, fun i hi hn => (k.block i (Nat.lt_of_lt_of_le hi h.size) hn).trans (h.block i hi hn)⟩
theorem Keep.ofBelow {C : Nat} {w w' : World} (h : Below w.heap.size w w') : Keep C w w' := ⟨h.os, h.tape, h.output, h.size, fun k hk _ => h.block k hk⟩
theorem Keep.setCell {C : Nat} {a w : World} (h : Keep C a w) (c : Nat) (u : Value) : Keep C a (w.setCell ⟨C, c, none⟩ u) :=
  h.trans ⟨rfl, rfl, rfl, by simp [World.setCell], fun k _ hn => Below.heap_setCell _ _ _ _ hn⟩
theorem Keep.below {C : Nat} {w a b : World} (h : Keep C a b) (hb : Below C w a) (hC : C ≤ a.heap.size) : Below C w b :=
  hb.trans ⟨h.os, h.tape, h.output, h.size, fun k hk => h.block k (by omega) (by omega)⟩

/-- A slice that the call has made: its row lies behind block C. -/
def RowNew (w : World) (C : Nat) (a : Option Addr) (n size : Nat) (V : Nat → Nat → Value) : Prop :=
  0 < n → ∃ b, a = some ⟨b, 0, none⟩ ∧ C < b ∧ b < w.heap.size ∧ ∀ i j, i < n → j < size → w.cell? ⟨b, i * size + j, none⟩ = some (V i j)

theorem RowNew.keep {w w' : World} {C D : Nat} {a : Option Addr} {n size : Nat} {V : Nat → Nat → Value} (h : RowNew w C a n size V) (hD : D ≤ C) (hk : Keep D w w') : RowNew w' C a n size V := by
  intro h0
  obtain ⟨b, ha, hC, hlt, hc⟩ := h h0
  exact ⟨b, ha, hC, Nat.lt_of_lt_of_le hlt hk.size, fun i j hi hj => (World.cell?_of_block (w := w) (hk.block b hlt (by omega))).trans (hc i j hi hj)⟩
theorem RowNew.ofFill {w : World} {C g T n size : Nat} {V : Nat → Nat → Value} (h : Fill w g T n size n V) (hC : C < g) : RowNew w C (some ⟨g, 0, none⟩) n size V :=
  fun _ => ⟨g, rfl, hC, h.lt, fun _ _ hi hj => h.cell hi hj⟩
theorem RowNew.zero (w : World) (C : Nat) (a : Option Addr) {n : Nat} (size : Nat) (V : Nat → Nat → Value) (h : ¬ 0 < n) : RowNew w C a n size V := fun h0 => absurd h0 h
theorem RowNew.at {w : World} {C : Nat} {a : Option Addr} {n size : Nat} {V : Nat → Nat → Value} (h : RowNew w C a n size V) (hn : n ≤ maxLen) : RowAt w w.heap.size a n size V := by
  refine ⟨hn, fun h0 => ?_⟩
  obtain ⟨b, ha, _, hlt, hc⟩ := h h0
  exact ⟨b, 0, ha, hlt, fun i j hi hj => by rw [Nat.zero_add]; exact hc i j hi hj⟩

end Go.Proofs.Qxb6616574a
