import Derived.Test.Qxb6616796aB0
import Derived.Lib.SliceRun
namespace Go.Proofs.Qxb6616796a
open Go.RowKit

theorem Try.info5 : (Try.prog.info? 5).map (fun i => (i.zero, i.size, i.bytes)) = some (some (.int .u8 0), 1, 1) := by kernel_rfl
theorem Try.cells5 : Try.prog.cellsOf 5 = 1 := by kernel_rfl

/-- The cells that make lays. -/
def made (z : Array Value) (n : Nat) : Array Value := madeCells z n

theorem run_mk (t e : Nat) (z : Value) (size bytes n : Nat) (ht : Try.prog.underlying t = some (.slice e)) (hinfo : (Try.prog.info? e).map (fun i => (i.zero, i.size, i.bytes)) = some (some z, size, bytes))
    (hb : bytes * n ≤ 281474976710656) (h63 : n ≤ 9223372036854775807) (w : World) :
    (Instr.makeSlice t (.int .i64 (n : Int)) (.int .i64 (n : Int))).run Try.prog w = .ok (.slice (some ⟨w.heap.size, 0, none⟩) n n) (w.alloc (.cells (made z.cells (n * size)) e)) := by
  obtain ⟨i, hi, hzz⟩ := Option.map_eq_some_iff.1 hinfo
  simp only [Prod.mk.injEq] at hzz
  obtain ⟨hz, hs, hbb⟩ := hzz
  have hb' : (i.bytes : Int) * (n : Int) ≤ 281474976710656 := by
    have h : ((i.bytes * n : Nat) : Int) ≤ 281474976710656 := by rw [hbb]; omega
    rwa [Int.natCast_mul] at h
  have hr := run_make (P := Try.prog) w t e i z ht hi hz .i64 .i64 n n (by omega) (Int.le_refl _) hb' (by omega)
  simp only [Int.toNat_natCast, hs] at hr
  exact hr

/-- The row that cloneBytes fills. -/
def Fl (wp wr : World) (n : Nat) : Prop := ∃ arr : Array Value, wr.heap[wp.heap.size]? = some (.cells arr 5 (0, 0)) ∧ arr.size = n ∧ Below wp.heap.size wp wr
theorem Fl.new (wp : World) (z : Array Value) (n : Nat) : Fl wp (wp.alloc (.cells (made z n) 5)) n :=
  ⟨_, heap_alloc_new _ _, size_madeCells _ _, (Below.refl _ _).alloc (Nat.le_refl _) _⟩
theorem Fl.set {wp wr : World} {n : Nat} (h : Fl wp wr n) (c : Nat) (v : Value) : Fl wp (wr.setCell ⟨wp.heap.size, c, none⟩ v) n := by
  obtain ⟨arr, h1, h2, h3⟩ := h
  exact ⟨_, set_heap h1 c v, by simpa using h2, h3.setCell (Nat.le_refl _) _⟩
theorem Fl.old {wp wr : World} {n : Nat} (h : Fl wp wr n) {k : Nat} (hk : k < n) : ∃ v, wr.cell? ⟨wp.heap.size, k, none⟩ = some v := by
  obtain ⟨arr, h1, h2, h3⟩ := h
  exact ⟨_, cell_of_heap h1 (Array.getElem?_eq_getElem (by omega))⟩
theorem Fl.free {wp wr : World} {n : Nat} (h : Fl wp wr n) (k : Nat) : wr.frozen? ⟨wp.heap.size, k, none⟩ = false := by
  obtain ⟨arr, h1, h2, h3⟩ := h
  exact free_of_heap h1 k

/-- What cloneBytes leaves. -/
def ClP (w : World) (e : Ending) (w' : World) : Prop := ∃ a n c, e = .returned (.slice a n c) ∧ Hid (Below w.heap.size w w')

set_option maxRecDepth 100000 in
set_option maxHeartbeats 4000000 in
theorem clone_any (x : Bs) (B : Nat) (w : World) (hx : x.In w B) (hB : B ≤ w.heap.size) (hs : x.n ≤ 1048576) : Calls Try.prog 16 #[.slice x.a x.n x.c] w (ClP w) := by
  obtain ⟨a, n, c, f⟩ := x
  obtain ⟨hnil, hm, hr⟩ := hx
  dsimp only at hnil hm hr hs
  clear hm
  have hnl := fun (w : World) (a : Option Addr) (n c : Nat) => Go.Lib.run_eql_slice_nil (P := Try.prog) w 28 5 a n c 0 0 Try.underlying28
  cases a with
  | none =>
    obtain ⟨rfl, rfl⟩ := hnil rfl
    clear hnil hr
    go_enter Try.func16, Try.ntmps16
    go_wp2_with fail
    go_ret
    exact ⟨_, _, _, rfl, Below.refl _ _⟩
  | some ad =>
    clear hnil
    have hmk := run_mk 28 5 _ 1 1 n Try.underlying28 Try.info5 (by omega) (by omega)
    by_cases hn : 0 < n
    · obtain ⟨b, off, hab, hb, hc⟩ := hr hn
      obtain rfl := Option.some.inj hab
      have HC : Hid (∀ i, i < n → w.cell? ⟨b, off + i, none⟩ = some (.int .u8 (f i))) := fun i hi => by simpa using hc i 0 hi (by omega)
      have hbw : b < w.heap.size := by omega
      clear hr hc hab hb hB
      go_enter Try.func16, Try.ntmps16
      go_wp2_with fail
      go_loopw [4] (fun i wr => ∃ k : Nat, k ≤ n ∧ i = .int .i64 k ∧ Hid (Fl w wr n)) (fun i _ => n - (intOf i).toNat)
      case atStart => exact ⟨0, Nat.zero_le _, rfl, Fl.new w _ n⟩
      case round =>
      obtain ⟨k, hk, rfl, HF⟩ := hrel
      by_cases hlt : k < n
      · have HB : Hid (Below w.heap.size w wr) := by obtain ⟨_, _, _, h⟩ := HF.out; exact h
        have y0 : wr.cell? ⟨b, off + k, none⟩ = some (.int .u8 (f k)) := (HB.out.cell hbw).trans (HC.out k hlt)
        obtain ⟨v0, x0⟩ := HF.out.old hlt
        have x1 := HF.out.free
        go_wp2_with fail
        exact ⟨⟨k + 1, by omega, by go_num, HF.out.set _ _⟩, by simp [intOf]; omega⟩
      · obtain rfl : n = k := by omega
        clear hlt hk
        go_wp2_with fail
        go_ret
        exact ⟨_, _, _, rfl, by obtain ⟨_, _, _, h⟩ := HF.out; exact h⟩
    · obtain rfl : n = 0 := by omega
      clear hr hn hmk
      have hmk0 : ∀ w, (Instr.makeSlice 28 (.int .i64 0) (.int .i64 0)).run Try.prog w = .ok (.slice (some ⟨w.heap.size, 0, none⟩) 0 0) (w.alloc (.cells (made #[.int .u8 0] (0 * 1)) 5)) :=
        run_mk 28 5 _ 1 1 0 Try.underlying28 Try.info5 (by omega) (by omega)
      go_enter Try.func16, Try.ntmps16
      go_wp2_with fail
      refine wp_loop_rounds 1 ?_
      rw [rounds_succ]
      go_wp2_with fail
      go_ret
      exact ⟨_, _, _, rfl, (Below.refl _ _).alloc (Nat.le_refl _) _⟩

end Go.Proofs.Qxb6616796a
