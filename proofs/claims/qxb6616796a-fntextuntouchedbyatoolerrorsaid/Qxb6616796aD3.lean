import Derived.Test.Qxb6616796aD1
import Derived.Test.Qxb6616796aB5
import Derived.Lib.Builder
namespace Go.Proofs.Qxb6616796a
open Go.RowKit

/-- 'dynamic-tool', 'input-streaming', 'output-error', 'text'. -/
def dt : ByteArray := { data := #[100, 121, 110, 97, 109, 105, 99, 45, 116, 111, 111, 108] }
def isg : ByteArray := { data := #[105, 110, 112, 117, 116, 45, 115, 116, 114, 101, 97, 109, 105, 110, 103] }
def oe : ByteArray := { data := #[111, 117, 116, 112, 117, 116, 45, 101, 114, 114, 111, 114] }
def tx4 : ByteArray := { data := #[116, 101, 120, 116] }

def TcP (g n : Nat) (w : World) (e : Ending) (w' : World) : Prop := e = .returned (.pointer (some ⟨g, (n + 2) * 15, none⟩)) ∧ w = w'

set_option maxRecDepth 100000 in
set_option maxHeartbeats 4000000 in
theorem toolCall_any (M g n c : Nat) (T : Nat → ByteArray) (w : World) (hm : w.cell? ⟨M, 9, none⟩ = some (.slice (some ⟨g, 0, none⟩) (n + 3) c)) (hn : n ≤ 70000)
    (hrow : ∀ i, i < n + 3 → w.cell? ⟨g, i * 15, none⟩ = some (.string (T i))) (hl : lastStep T (n + 3) = n + 1) (h1 : T (n + 1) = tx4) (h2 : T (n + 2) = dt) :
    Calls Try.prog 20 #[.pointer (some ⟨M, 0, none⟩), .int .i64 0] w (TcP g n w) := by
  have HROW : Hid _ := hrow
  have y1 : w.cell? ⟨g, (n + 1) * 15, none⟩ = some (.string tx4) := by rw [hrow (n + 1) (by omega), h1]
  have y2 : w.cell? ⟨g, (n + 2) * 15, none⟩ = some (.string dt) := by rw [hrow (n + 2) (by omega), h2]
  have HL : Hid _ := hl
  clear hrow h1 h2 hl
  go_enter Try.func20, Try.ntmps20
  go_wp2_with fail
  refine (stepStart_any M g (n + 3) c T w hm (by omega) HROW.out).mono ?_
  rintro e w' ⟨he, rfl⟩
  rw [HL.out] at he
  subst he
  go_wp2_with fail
  go_loop [1, 5] (fun m i => ∃ k : Nat, (k = n + 1 ∨ k = n + 2) ∧ m = .int .i64 0 ∧ i = .int .i64 k) (fun _ i => n + 3 - (intOf i).toNat)
  case atStart => exact ⟨n + 1, .inl rfl, rfl, rfl⟩
  case round =>
  obtain ⟨k, hk, rfl, rfl⟩ := hrel
  rcases hk with rfl | rfl
  · have hd : (tx4.toList == [100, 121, 110, 97, 109, 105, 99, 45, 116, 111, 111, 108]) = false := lit_no (fun h => absurd (congrArg ByteArray.size h) (by decide))
    go_wp2_with fail
    exact ⟨⟨n + 2, .inr rfl, rfl, by go_num⟩, by simp [intOf]; omega⟩
  · have hd : (dt.toList == [100, 121, 110, 97, 109, 105, 99, 45, 116, 111, 111, 108]) = true := lit_yes rfl
    go_wp2_with fail
    go_ret
    exact ⟨rfl, rfl⟩

def EmP (w : World) (e : Ending) (w' : World) : Prop := e = .returned (.tuple #[]) ∧ Hid (Below w.heap.size w w')

set_option maxRecDepth 100000 in
set_option maxHeartbeats 4000000 in
theorem emit_any (M : Nat) (C : Array Value) (w : World) (hm : w.cell? ⟨M, 10, none⟩ = some .nilFunc) (hM : M < w.heap.size) :
    Calls Try.prog 21 #[.pointer (some ⟨M, 0, none⟩), .agg C] w (EmP w) := by
  have hnil : ∀ w : World, (binOp BinOp.neq 42 .nilFunc .nilFunc).run Try.prog w = .ok (.bool false) w := fun _ => by kernel_rfl
  go_enter Try.func21, Try.ntmps21
  go_wp2_with fail
  go_region
  all_goals (go_wp2_with fail; go_end0; exact ⟨rfl, (((Below.refl _ _).alloc (Nat.le_refl _) _).drew)⟩)

theorem addr_ne {g a b : Nat} (h : a ≠ b) : (⟨g, a, none⟩ : Addr) ≠ ⟨g, b, none⟩ := fun e => h (by cases e; rfl)

/-- One cell of part p is written. -/
theorem Row.set {w : World} {g n : Nat} {T X : Nat → ByteArray} {S : Nat → Sh} (h : Row w g n T X S) (p j0 : Nat) (v : Value) (s' : Sh) (hp : p < n) (hj0 : j0 < 15) (hv : (pc (T p) (X p) s')[j0]? = some v)
    (ho : ∀ j, j < 15 → j ≠ j0 → (pc (T p) (X p) s')[j]? = (pc (T p) (X p) (S p))[j]?) : Row (w.setCell ⟨g, p * 15 + j0, none⟩ v) g n T X (fun i => if i = p then s' else S i) := by
  intro i j hi hj
  show _ = (pc (T i) (X i) (if i = p then s' else S i))[j]?
  by_cases hip : i = p
  · subst hip
    rw [if_pos rfl]
    by_cases hjj : j = j0
    · subst hjj
      have h0 := h i j hi hj
      obtain ⟨u, hu⟩ : ∃ u, w.cell? ⟨g, i * 15 + j, none⟩ = some u := by
        rw [h0]
        exact ⟨_, Array.getElem?_eq_getElem (by rw [pc_size]; exact hj)⟩
      rw [World.cell?_setCell_same _ _ _ hu, hv]
    · rw [World.cell?_setCell_other _ _ _ _ (addr_ne (by omega)), ho j hj hjj]
      exact h i j hi hj
  · rw [if_neg hip, World.cell?_setCell_other _ _ _ _ (addr_ne (by omega))]
    exact h i j hi hj

/-- What SetToolError makes of the last part. -/
def Sh.err (s : Sh) (a1 : Option Addr) (n1 c1 : Nat) (et : ByteArray) : Sh := { s with st := oe, a1 := a1, n1 := n1, c1 := c1, et := et }

theorem Row.err {w : World} {g n : Nat} {T X : Nat → ByteArray} {S : Nat → Sh} (h : Row w g n T X S) (p : Nat) (hp : p < n) (a1 : Option Addr) (n1 c1 : Nat) (et : ByteArray) :
    Row (((w.setCell ⟨g, p * 15 + 2, none⟩ (.string oe)).setCell ⟨g, p * 15 + 5, none⟩ (.slice a1 n1 c1)).setCell ⟨g, p * 15 + 7, none⟩ (.string et)) g n T X (fun i => if i = p then (S p).err a1 n1 c1 et else S i) := by
  have h1 := h.set p 2 (.string oe) { S p with st := oe } hp (by omega) rfl (fun j hj hne => by
    have : j = 0 ∨ j = 1 ∨ j = 3 ∨ j = 4 ∨ j = 5 ∨ j = 6 ∨ j = 7 ∨ j = 8 ∨ j = 9 ∨ j = 10 ∨ j = 11 ∨ j = 12 ∨ j = 13 ∨ j = 14 := by omega
    rcases this with rfl | rfl | rfl | rfl | rfl | rfl | rfl | rfl | rfl | rfl | rfl | rfl | rfl | rfl <;> rfl)
  have h2 := h1.set p 5 (.slice a1 n1 c1) { S p with st := oe, a1 := a1, n1 := n1, c1 := c1 } hp (by omega) rfl (fun j hj hne => by
    rw [if_pos rfl]
    have : j = 0 ∨ j = 1 ∨ j = 2 ∨ j = 3 ∨ j = 4 ∨ j = 6 ∨ j = 7 ∨ j = 8 ∨ j = 9 ∨ j = 10 ∨ j = 11 ∨ j = 12 ∨ j = 13 ∨ j = 14 := by omega
    rcases this with rfl | rfl | rfl | rfl | rfl | rfl | rfl | rfl | rfl | rfl | rfl | rfl | rfl | rfl <;> rfl)
  have h3 := h2.set p 7 (.string et) ((S p).err a1 n1 c1 et) hp (by omega) rfl (fun j hj hne => by
    rw [if_pos rfl]
    have : j = 0 ∨ j = 1 ∨ j = 2 ∨ j = 3 ∨ j = 4 ∨ j = 5 ∨ j = 6 ∨ j = 8 ∨ j = 9 ∨ j = 10 ∨ j = 11 ∨ j = 12 ∨ j = 13 ∨ j = 14 := by omega
    rcases this with rfl | rfl | rfl | rfl | rfl | rfl | rfl | rfl | rfl | rfl | rfl | rfl | rfl | rfl <;> rfl)
  intro i j hi hj
  rw [h3 i j hi hj]
  by_cases hip : i = p
  · simp only [if_pos hip]
  · simp only [if_neg hip]

/-- What SetToolError leaves. -/
def SeP (M g n : Nat) (T X : Nat → ByteArray) (S : Nat → Sh) (a1 : Option Addr) (n1 c1 : Nat) (et : ByteArray) (w : World) (e : Ending) (w' : World) : Prop :=
  e = .returned (.tuple #[]) ∧ Hid (Row w' g (n + 3) T X (fun i => if i = n + 2 then (S (n + 2)).err a1 n1 c1 et else S i) ∧ w'.heap[M]? = w.heap[M]? ∧ ∀ B, B ≤ g → B ≤ w.heap.size → Below B w w')

set_option maxRecDepth 100000 in
set_option maxHeartbeats 8000000 in
theorem setToolError_any (M g n c : Nat) (T X : Nat → ByteArray) (S : Nat → Sh) (a1 : Option Addr) (n1 c1 : Nat) (et : ByteArray) (w : World) (hm : w.cell? ⟨M, 9, none⟩ = some (.slice (some ⟨g, 0, none⟩) (n + 3) c)) (hmt : w.cell? ⟨M, 10, none⟩ = some .nilFunc) (hn : n ≤ 70000)
    (hrow : Row w g (n + 3) T X S) (hfree : ∀ j, w.frozen? ⟨g, j, none⟩ = false) (hl : lastStep T (n + 3) = n + 1) (h1 : T (n + 1) = tx4) (h2 : T (n + 2) = dt) (h3 : (S (n + 2)).st = isg) (hM : M < w.heap.size) (hg : g < w.heap.size) (hMg : M ≠ g) :
    Calls Try.prog 15 #[.pointer (some ⟨M, 0, none⟩), .int .i64 0, .slice a1 n1 c1, .string et] w (SeP M g n T X S a1 n1 c1 et w) := by
  have HROW : Hid (Row w g (n + 3) T X S) := hrow
  have HL : Hid _ := And.intro hl (And.intro h1 h2)
  have y2 : w.cell? ⟨g, (n + 2) * 15 + 2, none⟩ = some (.string isg) := by rw [← h3]; exact hrow (n + 2) 2 (by omega) (by omega)
  have y3 : w.cell? ⟨g, (n + 2) * 15 + 3, none⟩ = some (.string (S (n + 2)).tn) := hrow (n + 2) 3 (by omega) (by omega)
  have y4 : w.cell? ⟨g, (n + 2) * 15 + 4, none⟩ = some (.string (S (n + 2)).tc) := hrow (n + 2) 4 (by omega) (by omega)
  have y5 : w.cell? ⟨g, (n + 2) * 15 + 5, none⟩ = some (.slice (S (n + 2)).a1 (S (n + 2)).n1 (S (n + 2)).c1) := hrow (n + 2) 5 (by omega) (by omega)
  have y7 : w.cell? ⟨g, (n + 2) * 15 + 7, none⟩ = some (.string (S (n + 2)).et) := hrow (n + 2) 7 (by omega) (by omega)
  have hd : (isg.toList == [105, 110, 112, 117, 116, 45, 115, 116, 114, 101, 97, 109, 105, 110, 103]) = true := lit_yes rfl
  have hgs : g ≠ w.heap.size := by omega
  clear hrow hl h1 h2 h3
  go_enter Try.func15, Try.ntmps15
  go_wp2_with fail
  refine (toolCall_any M g n c T w hm hn HROW.out.ty HL.out.1 HL.out.2.1 HL.out.2.2).mono ?_
  rintro e w' ⟨rfl, rfl⟩
  go_wp2_with fail
  go_region
  all_goals go_wp2_with fail
  generalize hwe : World.drew _ = we
  have HRE : Hid (Row we g (n + 3) T X (fun i => if i = n + 2 then (S (n + 2)).err a1 n1 c1 et else S i)) := by
    rw [← hwe]
    exact (HROW.out.err (n + 2) (by omega) a1 n1 c1 et).block (Lib.alloc_old _ _ _ (by simpa [World.setCell] using hg))
  have hME : we.heap[M]? = w.heap[M]? := by
    rw [← hwe]
    exact (Lib.alloc_old _ _ _ (by simpa [World.setCell] using hM)).trans ((Below.heap_setCell _ _ _ _ hMg).trans ((Below.heap_setCell _ _ _ _ hMg).trans (Below.heap_setCell _ _ _ _ hMg)))
  have HBE : Hid (∀ B, B ≤ g → B ≤ w.heap.size → Below B w we) := by
    intro B hBg hBw
    rw [← hwe]
    exact (((((Below.refl B w).setCell (p := ⟨g, (n + 2) * 15 + 2, none⟩) hBg _).setCell (p := ⟨g, (n + 2) * 15 + 5, none⟩) hBg _).setCell (p := ⟨g, (n + 2) * 15 + 7, none⟩) hBg _).alloc (by simpa [World.setCell] using hBw) _).drew
  have hse : w.heap.size ≤ we.heap.size := by rw [← hwe]; simp [World.setCell]
  have hce : we.cell? ⟨M, 10, none⟩ = some .nilFunc := (World.cell?_of_block (a := ⟨M, 10, none⟩) hME).trans hmt
  have HME : Hid _ := hME
  clear hwe hME
  refine (emit_any M _ we hce (by omega)).mono ?_
  rintro e w2 ⟨rfl, HB2⟩
  go_wp2_with fail
  go_end0
  refine ⟨rfl, HRE.out.block (HB2.out.block g (by omega)), (HB2.out.block M (by omega)).trans HME.out, fun B hBg hBw => (HBE.out B hBg hBw).trans (HB2.out.mono (by omega))⟩
end Go.Proofs.Qxb6616796a
