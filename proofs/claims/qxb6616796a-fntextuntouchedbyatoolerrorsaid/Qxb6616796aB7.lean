import Derived.Test.Qxb6616796aB2
import Derived.ProofKit
import Derived.Deep.Slices
namespace Go.Proofs.Qxb6616796a
open Go.RowKit

/-- What the cells read as, as data of type t: something. -/
def Rd (w : World) (t : Nat) (cs : List Value) : Prop :=
  ∃ (H : Type) (enc : TypeId × Value → H) (base : Nat) (spare : Nat → Bool) (held : Bool) (fuel : Nat) (x : DataW H × List MemPlace), DataW.trod enc Try.prog w base spare held fuel t cs = some x

theorem blk_lt {w : World} {a : Addr} {v : Value} (h : w.cell? a = some v) : a.block < w.heap.size := by
  unfold World.cell? at h
  split at h
  · rename_i hh; exact (Array.getElem?_eq_some_iff.1 hh).1
  · cases h

theorem Rd.str {w : World} {t : Nat} {cs : List Value} (ht : Try.prog.underlying t = some .string) (h : Rd w t cs) : ∃ s, cs = [.string s] ∧ s.size ≤ maxLen := by
  obtain ⟨H, enc, base, spare, held, fuel, x, h⟩ := h
  obtain ⟨s, h1, _, h2⟩ := DataW.trod_string ht h
  exact ⟨s, h1, h2⟩
theorem Rd.bool {w : World} {t : Nat} {cs : List Value} (ht : Try.prog.underlying t = some .bool) (h : Rd w t cs) : ∃ b, cs = [.bool b] := by
  obtain ⟨H, enc, base, spare, held, fuel, x, h⟩ := h
  obtain ⟨b, h1, _⟩ := DataW.trod_bool ht h
  exact ⟨b, h1⟩
theorem Rd.u8 {w : World} {t : Nat} {cs : List Value} (ht : Try.prog.underlying t = some (.int .u8)) (h : Rd w t cs) : ∃ n : Int, cs = [.int .u8 n] := by
  obtain ⟨H, enc, base, spare, held, fuel, x, h⟩ := h
  obtain ⟨n, h1, _⟩ := DataW.trod_int ht h
  exact ⟨n, h1⟩

theorem add_at (b o j : Nat) : (⟨b, o, none⟩ : Addr).add j = ⟨b, o + j, none⟩ := by
  by_cases h : j = 0
  · subst h; rw [Addr.add_zero']; rfl
  · simp [Addr.add, h]

theorem cells_at {w : World} {base : Nat} {a : Addr} {k : Nat} {cs : List Value} (h : w.cells? base a k = some cs) (hk : 0 < k) :
    ∃ b o, a = ⟨b, o, none⟩ ∧ b < w.heap.size ∧ cs.length = k ∧ ∀ j, j < k → w.cell? ⟨b, o + j, none⟩ = cs[j]? := by
  obtain ⟨_, hl, hc⟩ := World.cells?_some h
  have h0 := hc 0 hk
  rw [Addr.add_zero', List.getElem?_eq_getElem (by omega)] at h0
  obtain ⟨b, o, sp⟩ := a
  have hs : sp = none := World.cell?_spot h0
  subst hs
  refine ⟨b, o, rfl, blk_lt h0, hl, fun j hj => ?_⟩
  rw [← hc j hj, add_at]

theorem Rd.ptr {w : World} {t e k : Nat} {cs : List Value} (ht : Try.prog.underlying t = some (.pointer e)) (hk : Try.prog.cellsOf e = k) (h0 : 0 < k) (h : Rd w t cs) :
    cs = [.pointer none] ∨ ∃ b o cs', cs = [.pointer (some ⟨b, o, none⟩)] ∧ b < w.heap.size ∧ cs'.length = k ∧ (∀ j, j < k → w.cell? ⟨b, o + j, none⟩ = cs'[j]?) ∧ Rd w e cs' := by
  obtain ⟨H, enc, base, spare, held, fuel, x, h⟩ := h
  rcases DataW.trod_pointer ht h with ⟨h1, _⟩ | ⟨a, cs', y, n, _, h1, _, h2, h3⟩
  · exact .inl h1
  · rw [hk] at h2
    obtain ⟨b, o, rfl, hb, hl, hc⟩ := cells_at h2 h0
    exact .inr ⟨b, o, cs', h1, hb, hl, hc, H, enc, base, spare, held, n, y, h3⟩

theorem Rd.slice {w : World} {t e k : Nat} {cs : List Value} (ht : Try.prog.underlying t = some (.slice e)) (hk : Try.prog.cellsOf e = k) (h0 : 0 < k) (h : Rd w t cs) :
    ∃ a n c, cs = [.slice a n c] ∧ (a = none → n = 0 ∧ c = 0) ∧ n ≤ maxLen ∧ (0 < n → ∃ b off, a = some ⟨b, off, none⟩ ∧ b < w.heap.size ∧ ∀ i, i < n → ∃ cs', cs'.length = k ∧ (∀ j, j < k → w.cell? ⟨b, off + i * k + j, none⟩ = cs'[j]?) ∧ Rd w e cs') := by
  obtain ⟨H, enc, base, spare, held, fuel, x, h⟩ := h
  rcases Go.Deep.open_slice ht h with ⟨h1, _⟩ | ⟨a, len, cap, m, n, D, Pl, h1, _, hl, hm, hmm, _, hx⟩
  · exact ⟨none, 0, 0, h1, fun _ => ⟨rfl, rfl⟩, Nat.zero_le _, fun h => absurd h (by omega)⟩
  refine ⟨some a, len, cap, h1, (fun h => by cases h), Nat.le_trans hl hm, fun hn => ?_⟩
  have hml : len ≤ m := by rw [hmm]; split <;> omega
  rw [hk] at hx
  obtain ⟨cs0, g0, _⟩ := hx 0 (by omega)
  obtain ⟨b, o, ha, hb, _, _⟩ := cells_at g0 h0
  have ha' : a = ⟨b, o, none⟩ := by rw [← ha, Nat.zero_mul, Addr.add_zero']
  refine ⟨b, o, by rw [ha'], hb, fun i hi => ?_⟩
  obtain ⟨cs', g1, g2⟩ := hx i (by omega)
  obtain ⟨b', o', he, _, hl', hc'⟩ := cells_at g1 h0
  refine ⟨cs', hl', fun j hj => ?_, H, enc, base, spare, held, n, _, g2⟩
  rw [← hc' j hj]
  have hbo : b' = b ∧ o' = o + i * k := by
    rw [ha', add_at] at he
    simp only [Addr.mk.injEq, and_true] at he
    exact ⟨he.1.symm, he.2.symm⟩
  rw [hbo.1, hbo.2]

theorem Rd.struct {w : World} {t k : Nat} {fs : Array Field} {cs : List Value} (ht : Try.prog.underlying t = some (.struct fs)) (hk : Try.prog.cellsOf t = k) (h : Rd w t cs) :
    cs.length = k ∧ ∀ (i : Nat) (f : Field), fs[i]? = some f → Rd w f.type ((cs.drop f.offset).take (Try.prog.cellsOf f.type)) := by
  obtain ⟨H, enc, base, spare, held, fuel, x, h⟩ := h
  obtain ⟨xs, n, _, _, hl, hxl, hf⟩ := DataW.trod_struct ht h
  refine ⟨by rw [hl, hk], fun i f hi => ?_⟩
  have h1 := hf i f hi
  have hlt : i < fs.size := (Array.getElem?_eq_some_iff.1 hi).1
  rw [List.getElem?_eq_getElem (by omega)] at h1
  exact ⟨H, enc, base, spare, held, n, _, h1⟩

theorem Try.cells9 : Try.prog.cellsOf 9 = 1 := by kernel_rfl
theorem Try.cells4 : Try.prog.cellsOf 4 = 1 := by kernel_rfl
theorem Try.cells28 : Try.prog.cellsOf 28 = 1 := by kernel_rfl
theorem Try.cells51 : Try.prog.cellsOf 51 = 1 := by kernel_rfl
theorem Try.cells54 : Try.prog.cellsOf 54 = 1 := by kernel_rfl
theorem Try.cells56 : Try.prog.cellsOf 56 = 3 := by kernel_rfl
theorem Try.cells53 : Try.prog.cellsOf 53 = 9 := by kernel_rfl

/-- A slice whose elements are each some x of a type of ours. -/
theorem rd_row {w : World} {t e k : Nat} {α : Type} (d : α) (cell : α → Nat → Value) (Q : α → Prop) {v : Value} (ht : Try.prog.underlying t = some (.slice e)) (hk : Try.prog.cellsOf e = k) (h0 : 0 < k) (h : Rd w t [v])
    (hel : ∀ cs, Rd w e cs → ∃ x : α, (∀ j, j < k → cs[j]? = some (cell x j)) ∧ Q x) :
    ∃ (a : Option Addr) (n c : Nat) (f : Nat → α), v = .slice a n c ∧ (a = none → n = 0 ∧ c = 0) ∧ RowAt w w.heap.size a n k (fun i j => cell (f i) j) ∧ ∀ i, i < n → Q (f i) := by
  obtain ⟨a, n, c, h1, hnc, hn, hr⟩ := h.slice ht hk h0
  simp only [List.cons.injEq, and_true] at h1
  by_cases hn0 : 0 < n
  · obtain ⟨b, off, ha, hb, hx⟩ := hr hn0
    obtain ⟨f, hf⟩ := @Go.Deep.choose_lt α ⟨d⟩ n (fun i x => (∀ j, j < k → w.cell? ⟨b, off + i * k + j, none⟩ = some (cell x j)) ∧ Q x) (fun i hi => by
      obtain ⟨cs', _, hc, hrd⟩ := hx i hi
      obtain ⟨x, hx1, hx2⟩ := hel cs' hrd
      exact ⟨x, fun j hj => (hc j hj).trans (hx1 j hj), hx2⟩)
    exact ⟨a, n, c, f, h1, hnc, ⟨hn, fun _ => ⟨b, off, ha, hb, fun i j hi hj => (hf i hi).1 j hj⟩⟩, fun i hi => (hf i hi).2⟩
  · exact ⟨a, n, c, fun _ => d, h1, hnc, ⟨hn, fun h => absurd h hn0⟩, fun i hi => absurd hi (by omega)⟩

theorem list1 {α : Type} {l : List α} (h : l.length = 1) : ∃ a, l = [a] := List.length_eq_one_iff.1 h
theorem list_cons {α : Type} {l : List α} {n : Nat} (h : l.length = n + 1) : ∃ a r, l = a :: r ∧ r.length = n := by
  cases l with
  | nil => simp at h
  | cons a r => exact ⟨a, r, rfl, by simpa using h⟩
theorem list2 {α : Type} {l : List α} (h : l.length = 2) : ∃ a b, l = [a, b] := by
  obtain ⟨a, r, rfl, h1⟩ := list_cons h
  obtain ⟨b, rfl⟩ := list1 h1
  exact ⟨a, b, rfl⟩
theorem list3 {α : Type} {l : List α} (h : l.length = 3) : ∃ a b c, l = [a, b, c] := by
  obtain ⟨a, r, rfl, h1⟩ := list_cons h
  obtain ⟨b, c, rfl⟩ := list2 h1
  exact ⟨a, b, c, rfl⟩
/-- A field of one cell. -/
theorem fld {w : World} {fs : Array Field} {cs : List Value} (hf : ∀ (i : Nat) (f : Field), fs[i]? = some f → Rd w f.type ((cs.drop f.offset).take (Try.prog.cellsOf f.type))) (i : Nat) (f : Field) (hi : fs[i]? = some f) (hc : Try.prog.cellsOf f.type = 1) {v : Value}
    (hv : cs[f.offset]? = some v) : Rd w f.type [v] := by
  have h := hf i f hi
  rw [hc] at h
  obtain ⟨hlt, he⟩ := List.getElem?_eq_some_iff.1 hv
  rw [List.drop_eq_getElem_cons hlt, he] at h
  simpa using h

theorem rd_bs {w : World} {v : Value} (h : Rd w 28 [v]) : ∃ x : Bs, v = x.val ∧ x.In w w.heap.size := by
  obtain ⟨a, n, c, f, h1, h2, h3, _⟩ := rd_row (α := Int) 0 (fun x _ => .int .u8 x) (fun _ => True) Try.underlying28 Try.cells5 (by omega) h (fun cs hcs => by
    obtain ⟨n, rfl⟩ := hcs.u8 Try.underlying5
    refine ⟨n, fun j hj => ?_, trivial⟩
    obtain rfl : j = 0 := by omega
    rfl)
  exact ⟨⟨a, n, c, f⟩, h1, h2, h3⟩

theorem rd_str {w : World} {v : Value} (h : Rd w 9 [v]) : ∃ s : ByteArray, v = .string s ∧ s.size ≤ maxLen := by
  obtain ⟨s, hs, o⟩ := h.str Try.underlying9
  simp only [List.cons.injEq, and_true] at hs
  exact ⟨s, hs, o⟩

theorem rd_ap {w : World} {cs : List Value} (h : Rd w 56 cs) : ∃ x : Ap, (∀ j, j < 3 → cs[j]? = some (x.cell j)) ∧ x.In w w.heap.size := by
  obtain ⟨hl, hf⟩ := h.struct Try.underlying56 Try.cells56
  obtain ⟨v0, v1, v2, rfl⟩ := list3 hl
  have f0 : Rd w 9 [v0] := fld hf 0 _ rfl Try.cells9 rfl
  have f1 : Rd w 54 [v1] := fld hf 1 _ rfl Try.cells54 rfl
  have f2 : Rd w 9 [v2] := fld hf 2 _ rfl Try.cells9 rfl
  obtain ⟨s0, rfl, o0⟩ := rd_str f0
  obtain ⟨s2, rfl, o2⟩ := rd_str f2
  rcases f1.ptr Try.underlying54 Try.cells4 (by omega) with h1 | ⟨b, o, cs', h1, hb, hl, hc, hr⟩
  · simp only [List.cons.injEq, and_true] at h1
    subst h1
    refine ⟨⟨s0, none, false, s2⟩, fun j hj => ?_, o0, o2, fun a ha => by cases ha⟩
    have : j = 0 ∨ j = 1 ∨ j = 2 := by omega
    rcases this with rfl | rfl | rfl <;> rfl
  · simp only [List.cons.injEq, and_true] at h1
    subst h1
    obtain ⟨bb, rfl⟩ := hr.bool Try.underlying4
    refine ⟨⟨s0, some ⟨b, o, none⟩, bb, s2⟩, fun j hj => ?_, o0, o2, fun a ha => ?_⟩
    · have : j = 0 ∨ j = 1 ∨ j = 2 := by omega
      rcases this with rfl | rfl | rfl <;> rfl
    · cases ha
      exact ⟨b, o, rfl, hb, hc 0 (by omega)⟩

theorem rd_part {w : World} {cs : List Value} (h : Rd w 53 cs) : ∃ x : Pt, (∀ j, j < 9 → cs[j]? = some (x.cell j)) ∧ x.In w w.heap.size := by
  obtain ⟨hl, hf⟩ := h.struct Try.underlying53 Try.cells53
  obtain ⟨v0, r0, rfl, l0⟩ := list_cons hl
  obtain ⟨v1, r1, rfl, l1⟩ := list_cons l0
  obtain ⟨v2, r2, rfl, l2⟩ := list_cons l1
  obtain ⟨v3, r3, rfl, l3⟩ := list_cons l2
  obtain ⟨v4, r4, rfl, l4⟩ := list_cons l3
  obtain ⟨v5, r5, rfl, l5⟩ := list_cons l4
  obtain ⟨v6, v7, v8, rfl⟩ := list3 l5
  have f0 : Rd w 9 [v0] := fld hf 0 _ rfl Try.cells9 rfl
  have f1 : Rd w 9 [v1] := fld hf 1 _ rfl Try.cells9 rfl
  have f2 : Rd w 9 [v2] := fld hf 2 _ rfl Try.cells9 rfl
  have f3 : Rd w 9 [v3] := fld hf 3 _ rfl Try.cells9 rfl
  have f4 : Rd w 9 [v4] := fld hf 4 _ rfl Try.cells9 rfl
  have f5 : Rd w 28 [v5] := fld hf 5 _ rfl Try.cells28 rfl
  have f6 : Rd w 28 [v6] := fld hf 6 _ rfl Try.cells28 rfl
  have f7 : Rd w 9 [v7] := fld hf 7 _ rfl Try.cells9 rfl
  have f8 : Rd w 51 [v8] := fld hf 8 _ rfl Try.cells51 rfl
  obtain ⟨s0, rfl, o0⟩ := rd_str f0
  obtain ⟨s1, rfl, o1⟩ := rd_str f1
  obtain ⟨s2, rfl, o2⟩ := rd_str f2
  obtain ⟨s3, rfl, o3⟩ := rd_str f3
  obtain ⟨s4, rfl, o4⟩ := rd_str f4
  obtain ⟨b5, rfl, o5⟩ := rd_bs f5
  obtain ⟨b6, rfl, o6⟩ := rd_bs f6
  obtain ⟨s7, rfl, o7⟩ := rd_str f7
  rcases f8.ptr Try.underlying51 Try.cells56 (by omega) with h1 | ⟨b, o, cs', h1, hb, hl, hc, hr⟩
  · simp only [List.cons.injEq, and_true] at h1
    subst h1
    refine ⟨⟨s0, s1, s2, s3, s4, b5, b6, s7, none, ⟨.empty, none, false, .empty⟩⟩, fun j hj => ?_, o0, o1, o2, o3, o4, o7, o5, o6, fun a ha => by cases ha⟩
    have : j = 0 ∨ j = 1 ∨ j = 2 ∨ j = 3 ∨ j = 4 ∨ j = 5 ∨ j = 6 ∨ j = 7 ∨ j = 8 := by omega
    rcases this with rfl | rfl | rfl | rfl | rfl | rfl | rfl | rfl | rfl <;> rfl
  · simp only [List.cons.injEq, and_true] at h1
    subst h1
    obtain ⟨y, hy, hi⟩ := rd_ap hr
    refine ⟨⟨s0, s1, s2, s3, s4, b5, b6, s7, some ⟨b, o, none⟩, y⟩, fun j hj => ?_, o0, o1, o2, o3, o4, o7, o5, o6, fun a ha => ?_⟩
    · have : j = 0 ∨ j = 1 ∨ j = 2 ∨ j = 3 ∨ j = 4 ∨ j = 5 ∨ j = 6 ∨ j = 7 ∨ j = 8 := by omega
      rcases this with rfl | rfl | rfl | rfl | rfl | rfl | rfl | rfl | rfl <;> rfl
    · cases ha
      exact ⟨b, o, rfl, hb, fun j hj => (hc j hj).trans (hy j hj), hi⟩

theorem rd_parts {w : World} {v : Value} (h : Rd w 22 [v]) : ∃ x : Pts, v = .slice x.a x.n x.c ∧ x.In w w.heap.size := by
  obtain ⟨a, n, c, f, h1, _, h3, h4⟩ := rd_row (α := Pt) ⟨.empty, .empty, .empty, .empty, .empty, ⟨none, 0, 0, fun _ => 0⟩, ⟨none, 0, 0, fun _ => 0⟩, .empty, none, ⟨.empty, none, false, .empty⟩⟩ (fun x j => x.cell j) (fun x => x.In w w.heap.size) Try.underlying22 Try.cells53 (by omega) h (fun cs hcs => rd_part hcs)
  exact ⟨⟨a, n, c, f⟩, h1, h3, h4⟩

end Go.Proofs.Qxb6616796a
