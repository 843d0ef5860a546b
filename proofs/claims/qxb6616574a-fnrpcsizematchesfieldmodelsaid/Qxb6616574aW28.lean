import Derived.Test.Qxb6616574aW26
import Derived.ProofKit
import Derived.Deep.Slices
namespace Go.Proofs.Qxb6616574a
open Go.RowKit

/-- What the cells read as, as data of type t: something. -/
def Rd (w : World) (t : Nat) (cs : List Value) : Prop :=
  ∃ (H : Type) (enc : TypeId × Value → H) (base : Nat) (spare : Nat → Bool) (held : Bool) (fuel : Nat) (x : DataW H × List MemPlace), DataW.trod enc Try.prog w base spare held fuel t cs = some x

theorem blk_lt {w : World} {a : Addr} {v : Value} (h : w.cell? a = some v) : a.block < w.heap.size := by
  unfold World.cell? at h
  split at h
  · rename_i hh; exact (Array.getElem?_eq_some_iff.1 hh).1
  · cases h

theorem Rd.str {w : World} {t : Nat} {cs : List Value} (ht : Try.prog.underlying t = some .string) (h : Rd w t cs) : ∃ s, cs = [.string s] ∧ s.size ≤ maxLen := by
  obtain ⟨H, enc, base, spare, held, fuel, x, h⟩ := h
  obtain ⟨s, h1, _, h2⟩ := DataW.trod_string ht h
  exact ⟨s, h1, h2⟩
theorem Rd.bool {w : World} {t : Nat} {cs : List Value} (ht : Try.prog.underlying t = some .bool) (h : Rd w t cs) : ∃ b, cs = [.bool b] := by
  obtain ⟨H, enc, base, spare, held, fuel, x, h⟩ := h
  obtain ⟨b, h1, _⟩ := DataW.trod_bool ht h
  exact ⟨b, h1⟩
theorem Rd.u64 {w : World} {t : Nat} {cs : List Value} (ht : Try.prog.underlying t = some (.int .u64)) (h : Rd w t cs) : ∃ n : Int, cs = [.int .u64 n] ∧ 0 ≤ n ∧ n < 18446744073709551616 := by
  obtain ⟨H, enc, base, spare, held, fuel, x, h⟩ := h
  obtain ⟨n, h1, _, h2⟩ := DataW.trod_int ht h
  refine ⟨n, h1, ?_⟩
  simp [Lit.wf] at h2
  have e1 : IntKind.u64.min = 0 := by decide
  have e2 : IntKind.u64.max = 18446744073709551615 := by decide
  omega

theorem add_at (b o j : Nat) : (⟨b, o, none⟩ : Addr).add j = ⟨b, o + j, none⟩ := by
  by_cases h : j = 0
  · subst h; rw [Addr.add_zero']; rfl
  · simp [Addr.add, h]

theorem cells_at {w : World} {base : Nat} {a : Addr} {k : Nat} {cs : List Value} (h : w.cells? base a k = some cs) (hk : 0 < k) :
    ∃ b o, a = ⟨b, o, none⟩ ∧ b < w.heap.size ∧ cs.length = k ∧ ∀ j, j < k → w.cell? ⟨b, o + j, none⟩ = cs[j]? := by
  obtain ⟨_, hl, hc⟩ := World.cells?_some h
  have h0 := hc 0 hk
  rw [Addr.add_zero', List.getElem?_eq_getElem (by omega)] at h0
  obtain ⟨b, o, sp⟩ := a
  have hs : sp = none := World.cell?_spot h0
  subst hs
  refine ⟨b, o, rfl, blk_lt h0, hl, fun j hj => ?_⟩
  rw [← hc j hj, add_at]

theorem Rd.ptr {w : World} {t e k : Nat} {cs : List Value} (ht : Try.prog.underlying t = some (.pointer e)) (hk : Try.prog.cellsOf e = k) (h0 : 0 < k) (h : Rd w t cs) :
    cs = [.pointer none] ∨ ∃ b o cs', cs = [.pointer (some ⟨b, o, none⟩)] ∧ b < w.heap.size ∧ cs'.length = k ∧ (∀ j, j < k → w.cell? ⟨b, o + j, none⟩ = cs'[j]?) ∧ Rd w e cs' := by
  obtain ⟨H, enc, base, spare, held, fuel, x, h⟩ := h
  rcases DataW.trod_pointer ht h with ⟨h1, _⟩ | ⟨a, cs', y, n, _, h1, _, h2, h3⟩
  · exact .inl h1
  · rw [hk] at h2
    obtain ⟨b, o, rfl, hb, hl, hc⟩ := cells_at h2 h0
    exact .inr ⟨b, o, cs', h1, hb, hl, hc, H, enc, base, spare, held, n, y, h3⟩

theorem Rd.slice {w : World} {t e k : Nat} {cs : List Value} (ht : Try.prog.underlying t = some (.slice e)) (hk : Try.prog.cellsOf e = k) (h0 : 0 < k) (h : Rd w t cs) :
    ∃ a n c, cs = [.slice a n c] ∧ n ≤ c ∧ n ≤ maxLen ∧ (0 < n → ∃ b off, a = some ⟨b, off, none⟩ ∧ b < w.heap.size ∧ ∀ i, i < n → ∃ cs', cs'.length = k ∧ (∀ j, j < k → w.cell? ⟨b, off + i * k + j, none⟩ = cs'[j]?) ∧ Rd w e cs') := by
  obtain ⟨H, enc, base, spare, held, fuel, x, h⟩ := h
  rcases Go.Deep.open_slice ht h with ⟨h1, _⟩ | ⟨a, len, cap, m, n, D, Pl, h1, _, hl, hm, hmm, _, hx⟩
  · exact ⟨none, 0, 0, h1, Nat.le_refl _, Nat.zero_le _, fun h => absurd h (by omega)⟩
  refine ⟨some a, len, cap, h1, hl, Nat.le_trans hl hm, fun hn => ?_⟩
  have hml : len ≤ m := by rw [hmm]; split <;> omega
  rw [hk] at hx
  obtain ⟨cs0, g0, _⟩ := hx 0 (by omega)
  obtain ⟨b, o, ha, hb, _, _⟩ := cells_at g0 h0
  have ha' : a = ⟨b, o, none⟩ := by rw [← ha, Nat.zero_mul, Addr.add_zero']
  refine ⟨b, o, by rw [ha'], hb, fun i hi => ?_⟩
  obtain ⟨cs', g1, g2⟩ := hx i (by omega)
  obtain ⟨b', o', he, _, hl', hc'⟩ := cells_at g1 h0
  refine ⟨cs', hl', fun j hj => ?_, H, enc, base, spare, held, n, _, g2⟩
  rw [← hc' j hj]
  have hbo : b' = b ∧ o' = o + i * k := by
    rw [ha', add_at] at he
    simp only [Addr.mk.injEq, and_true] at he
    exact ⟨he.1.symm, he.2.symm⟩
  rw [hbo.1, hbo.2]

theorem Rd.struct {w : World} {t k : Nat} {fs : Array Field} {cs : List Value} (ht : Try.prog.underlying t = some (.struct fs)) (hk : Try.prog.cellsOf t = k) (h : Rd w t cs) :
    cs.length = k ∧ ∀ (i : Nat) (f : Field), fs[i]? = some f → Rd w f.type ((cs.drop f.offset).take (Try.prog.cellsOf f.type)) := by
  obtain ⟨H, enc, base, spare, held, fuel, x, h⟩ := h
  obtain ⟨xs, n, _, _, hl, hxl, hf⟩ := DataW.trod_struct ht h
  refine ⟨by rw [hl, hk], fun i f hi => ?_⟩
  have h1 := hf i f hi
  have hlt : i < fs.size := (Array.getElem?_eq_some_iff.1 hi).1
  rw [List.getElem?_eq_getElem (by omega)] at h1
  exact ⟨H, enc, base, spare, held, n, _, h1⟩

theorem Try.cells5 : Try.prog.cellsOf 5 = 1 := by kernel_rfl
theorem Try.cells9 : Try.prog.cellsOf 9 = 1 := by kernel_rfl
theorem Try.cells4 : Try.prog.cellsOf 4 = 1 := by kernel_rfl
theorem Try.cells96 : Try.prog.cellsOf 96 = 1 := by kernel_rfl
theorem Try.cells33 : Try.prog.cellsOf 33 = 1 := by kernel_rfl
theorem Try.cells34 : Try.prog.cellsOf 34 = 1 := by kernel_rfl
theorem Try.cells36 : Try.prog.cellsOf 36 = 2 := by kernel_rfl
theorem Try.cells37 : Try.prog.cellsOf 37 = 1 := by kernel_rfl
theorem Try.cells39 : Try.prog.cellsOf 39 = 6 := by kernel_rfl
theorem Try.cells27 : Try.prog.cellsOf 27 = 1 := by kernel_rfl
theorem Try.cells40 : Try.prog.cellsOf 40 = 1 := by kernel_rfl
theorem Try.cells41 : Try.prog.cellsOf 41 = 1 := by kernel_rfl
theorem Try.cells42 : Try.prog.cellsOf 42 = 1 := by kernel_rfl
theorem Try.cells43 : Try.prog.cellsOf 43 = 1 := by kernel_rfl
theorem Try.cells45 : Try.prog.cellsOf 45 = 5 := by kernel_rfl
theorem Try.cells46 : Try.prog.cellsOf 46 = 1 := by kernel_rfl
theorem Try.cells48 : Try.prog.cellsOf 48 = 2 := by kernel_rfl
theorem Try.cells50 : Try.prog.cellsOf 50 = 1 := by kernel_rfl
theorem Try.cells52 : Try.prog.cellsOf 52 = 1 := by kernel_rfl
theorem Try.cells53 : Try.prog.cellsOf 53 = 1 := by kernel_rfl
theorem Try.cells54 : Try.prog.cellsOf 54 = 1 := by kernel_rfl
theorem Try.cells56 : Try.prog.cellsOf 56 = 3 := by kernel_rfl
theorem Try.cells58 : Try.prog.cellsOf 58 = 2 := by kernel_rfl

theorem rd_bs {w : World} {v : Value} (h : Rd w 37 [v]) : ∃ x : Bs, v = x.val ∧ x.n ≤ maxLen := by
  obtain ⟨a, n, c, h1, _, h2, _⟩ := h.slice Try.underlying37 Try.cells5 (by omega)
  simp only [List.cons.injEq, and_true] at h1
  exact ⟨⟨a, n, c⟩, h1, h2⟩

theorem rd_strp {w : World} {v : Value} (h : Rd w 34 [v]) : ∃ q s, v = .pointer q ∧ StrIn w w.heap.size q s := by
  rcases h.ptr Try.underlying34 Try.cells9 (by omega) with h1 | ⟨b, o, cs', h1, hb, hl, hc, hr⟩
  · simp only [List.cons.injEq, and_true] at h1
    exact ⟨none, .empty, h1, fun a ha => by cases ha⟩
  · simp only [List.cons.injEq, and_true] at h1
    obtain ⟨s, rfl, hs⟩ := hr.str Try.underlying9
    refine ⟨_, s, h1, fun a ha => ?_⟩
    cases ha
    exact ⟨hb, hc 0 (by omega), hs⟩

theorem rd_boolp {w : World} {v : Value} (h : Rd w 33 [v]) : ∃ q s, v = .pointer q ∧ BoolIn w w.heap.size q s := by
  rcases h.ptr Try.underlying33 Try.cells4 (by omega) with h1 | ⟨b, o, cs', h1, hb, hl, hc, hr⟩
  · simp only [List.cons.injEq, and_true] at h1
    exact ⟨none, false, h1, fun a ha => by cases ha⟩
  · simp only [List.cons.injEq, and_true] at h1
    obtain ⟨s, rfl⟩ := hr.bool Try.underlying4
    refine ⟨_, s, h1, fun a ha => ?_⟩
    cases ha
    exact ⟨hb, hc 0 (by omega)⟩

theorem rd_nump {w : World} {v : Value} (h : Rd w 54 [v]) : ∃ q s, v = .pointer q ∧ NumIn w w.heap.size q s := by
  rcases h.ptr Try.underlying54 Try.cells96 (by omega) with h1 | ⟨b, o, cs', h1, hb, hl, hc, hr⟩
  · simp only [List.cons.injEq, and_true] at h1
    exact ⟨none, 0, h1, fun a ha => by cases ha⟩
  · simp only [List.cons.injEq, and_true] at h1
    obtain ⟨s, rfl, hs⟩ := hr.u64 Try.underlying96
    refine ⟨_, s, h1, fun a ha => ?_⟩
    cases ha
    exact ⟨hb, hc 0 (by omega), hs⟩

/-- A slice whose elements are each some x of a type of ours. -/
theorem rd_row {w : World} {t e k : Nat} {α : Type} (d : α) (cell : α → Nat → Value) (Q : α → Prop) {v : Value} (ht : Try.prog.underlying t = some (.slice e)) (hk : Try.prog.cellsOf e = k) (h0 : 0 < k) (h : Rd w t [v])
    (hel : ∀ cs, Rd w e cs → ∃ x : α, (∀ j, j < k → cs[j]? = some (cell x j)) ∧ Q x) :
    ∃ (a : Option Addr) (n c : Nat) (f : Nat → α), v = .slice a n c ∧ n ≤ c ∧ RowAt w w.heap.size a n k (fun i j => cell (f i) j) ∧ ∀ i, i < n → Q (f i) := by
  obtain ⟨a, n, c, h1, hnc, hn, hr⟩ := h.slice ht hk h0
  simp only [List.cons.injEq, and_true] at h1
  by_cases hn0 : 0 < n
  · obtain ⟨b, off, ha, hb, hx⟩ := hr hn0
    obtain ⟨f, hf⟩ := @Go.Deep.choose_lt α ⟨d⟩ n (fun i x => (∀ j, j < k → w.cell? ⟨b, off + i * k + j, none⟩ = some (cell x j)) ∧ Q x) (fun i hi => by
      obtain ⟨cs', _, hc, hrd⟩ := hx i hi
      obtain ⟨x, hx1, hx2⟩ := hel cs' hrd
      exact ⟨x, fun j hj => (hc j hj).trans (hx1 j hj), hx2⟩)
    exact ⟨a, n, c, f, h1, hnc, ⟨hn, fun _ => ⟨b, off, ha, hb, fun i j hi hj => (hf i hi).1 j hj⟩⟩, fun i hi => (hf i hi).2⟩
  · exact ⟨a, n, c, fun _ => d, h1, hnc, ⟨hn, fun h => absurd h hn0⟩, fun i hi => absurd hi (by omega)⟩

theorem rd_ids {w : World} {v : Value} (h : Rd w 46 [v]) : ∃ x : Ids, v = x.val ∧ x.In w w.heap.size := by
  obtain ⟨a, n, c, f, h1, _, h2, h3⟩ := rd_row (α := Bs) ⟨none, 0, 0⟩ (fun x _ => x.val) (fun x => x.n ≤ maxLen) Try.underlying46 Try.cells37 (by omega) h (fun cs hcs => by
    obtain ⟨_, _, _, rfl, _⟩ := hcs.slice Try.underlying37 Try.cells5 (by omega)
    obtain ⟨x, hx1, hx2⟩ := rd_bs hcs
    exact ⟨x, fun j hj => by obtain rfl : j = 0 := by omega
                             rw [hx1]; rfl, hx2⟩)
  exact ⟨⟨a, n, c, f⟩, h1, h2, h3⟩

theorem list1 {α : Type} {l : List α} (h : l.length = 1) : ∃ a, l = [a] := List.length_eq_one_iff.1 h
theorem list_cons {α : Type} {l : List α} {n : Nat} (h : l.length = n + 1) : ∃ a r, l = a :: r ∧ r.length = n := by
  cases l with
  | nil => simp at h
  | cons a r => exact ⟨a, r, rfl, by simpa using h⟩
theorem list2 {α : Type} {l : List α} (h : l.length = 2) : ∃ a b, l = [a, b] := by
  obtain ⟨a, r, rfl, h1⟩ := list_cons h
  obtain ⟨b, rfl⟩ := list1 h1
  exact ⟨a, b, rfl⟩
theorem list3 {α : Type} {l : List α} (h : l.length = 3) : ∃ a b c, l = [a, b, c] := by
  obtain ⟨a, r, rfl, h1⟩ := list_cons h
  obtain ⟨b, c, rfl⟩ := list2 h1
  exact ⟨a, b, c, rfl⟩
theorem list5 {α : Type} {l : List α} (h : l.length = 5) : ∃ a b c d e, l = [a, b, c, d, e] := by
  obtain ⟨a, r, rfl, h1⟩ := list_cons h
  obtain ⟨b, r, rfl, h2⟩ := list_cons h1
  obtain ⟨c, d, e, rfl⟩ := list3 h2
  exact ⟨a, b, c, d, e, rfl⟩
theorem list6 {α : Type} {l : List α} (h : l.length = 6) : ∃ a b c d e f, l = [a, b, c, d, e, f] := by
  obtain ⟨a, r, rfl, h1⟩ := list_cons h
  obtain ⟨b, c, d, e, f, rfl⟩ := list5 h1
  exact ⟨a, b, c, d, e, f, rfl⟩

/-- A field of one cell. -/
theorem fld {w : World} {fs : Array Field} {cs : List Value} (hf : ∀ (i : Nat) (f : Field), fs[i]? = some f → Rd w f.type ((cs.drop f.offset).take (Try.prog.cellsOf f.type))) (i : Nat) (f : Field) (hi : fs[i]? = some f) (hc : Try.prog.cellsOf f.type = 1) {v : Value}
    (hv : cs[f.offset]? = some v) : Rd w f.type [v] := by
  have h := hf i f hi
  rw [hc] at h
  obtain ⟨hlt, he⟩ := List.getElem?_eq_some_iff.1 hv
  rw [List.drop_eq_getElem_cons hlt, he] at h
  simpa using h

theorem rd_sub {w : World} {cs : List Value} (h : Rd w 36 cs) : ∃ x : Sub, (∀ j, j < 2 → cs[j]? = some (x.cell j)) ∧ x.In w w.heap.size := by
  obtain ⟨hl, hf⟩ := h.struct Try.underlying36 Try.cells36
  obtain ⟨v0, v1, rfl⟩ := list2 hl
  have f0 : Rd w 33 [v0] := fld hf 0 _ rfl Try.cells33 rfl
  have f1 : Rd w 34 [v1] := fld hf 1 _ rfl Try.cells34 rfl
  obtain ⟨p, b, rfl, hp⟩ := rd_boolp f0
  obtain ⟨q, s, rfl, hq⟩ := rd_strp f1
  refine ⟨⟨p, q, b, s⟩, fun j hj => ?_, hp, hq⟩
  have : j = 0 ∨ j = 1 := by omega
  rcases this with rfl | rfl <;> rfl

theorem rd_msg {w : World} {cs : List Value} (h : Rd w 39 cs) : ∃ x : Msg, (∀ j, j < 6 → cs[j]? = some (x.cell j)) ∧ x.Ok := by
  obtain ⟨hl, hf⟩ := h.struct Try.underlying39 Try.cells39
  obtain ⟨v0, v1, v2, v3, v4, v5, rfl⟩ := list6 hl
  have f0 : Rd w 37 [v0] := fld hf 0 _ rfl Try.cells37 rfl
  have f1 : Rd w 37 [v1] := fld hf 1 _ rfl Try.cells37 rfl
  have f2 : Rd w 37 [v2] := fld hf 2 _ rfl Try.cells37 rfl
  have f3 : Rd w 9 [v3] := fld hf 3 _ rfl Try.cells9 rfl
  have f4 : Rd w 37 [v4] := fld hf 4 _ rfl Try.cells37 rfl
  have f5 : Rd w 37 [v5] := fld hf 5 _ rfl Try.cells37 rfl
  obtain ⟨a0, rfl, o0⟩ := rd_bs f0
  obtain ⟨a1, rfl, o1⟩ := rd_bs f1
  obtain ⟨a2, rfl, o2⟩ := rd_bs f2
  obtain ⟨s, hs, o3⟩ := f3.str Try.underlying9
  simp only [List.cons.injEq, and_true] at hs
  subst hs
  obtain ⟨a4, rfl, o4⟩ := rd_bs f4
  obtain ⟨a5, rfl, o5⟩ := rd_bs f5
  refine ⟨⟨a0, a1, a2, s, a4, a5⟩, fun j hj => ?_, o0, o1, o2, o3, o4, o5⟩
  have : j = 0 ∨ j = 1 ∨ j = 2 ∨ j = 3 ∨ j = 4 ∨ j = 5 := by omega
  rcases this with rfl | rfl | rfl | rfl | rfl | rfl <;> rfl

theorem rd_peer {w : World} {cs : List Value} (h : Rd w 58 cs) : ∃ x : Peer, (∀ j, j < 2 → cs[j]? = some (x.cell j)) ∧ x.Ok := by
  obtain ⟨hl, hf⟩ := h.struct Try.underlying58 Try.cells58
  obtain ⟨v0, v1, rfl⟩ := list2 hl
  have f0 : Rd w 37 [v0] := fld hf 0 _ rfl Try.cells37 rfl
  have f1 : Rd w 37 [v1] := fld hf 1 _ rfl Try.cells37 rfl
  obtain ⟨a0, rfl, o0⟩ := rd_bs f0
  obtain ⟨a1, rfl, o1⟩ := rd_bs f1
  refine ⟨⟨a0, a1⟩, fun j hj => ?_, o0, o1⟩
  have : j = 0 ∨ j = 1 := by omega
  rcases this with rfl | rfl <;> rfl

theorem rd_ih {w : World} {cs : List Value} (h : Rd w 48 cs) : ∃ x : IH, (∀ j, j < 2 → cs[j]? = some (x.cell j)) ∧ x.In w w.heap.size := by
  obtain ⟨hl, hf⟩ := h.struct Try.underlying48 Try.cells48
  obtain ⟨v0, v1, rfl⟩ := list2 hl
  have f0 : Rd w 34 [v0] := fld hf 0 _ rfl Try.cells34 rfl
  have f1 : Rd w 46 [v1] := fld hf 1 _ rfl Try.cells46 rfl
  obtain ⟨q, s, rfl, hq⟩ := rd_strp f0
  obtain ⟨m, rfl, hm⟩ := rd_ids f1
  refine ⟨⟨q, s, m⟩, fun j hj => ?_, hq, hm⟩
  have : j = 0 ∨ j = 1 := by omega
  rcases this with rfl | rfl <;> rfl

theorem rd_idsS {w : World} {cs : List Value} (h : Rd w 50 cs) : ∃ x : Ids, (∀ j, j < 1 → cs[j]? = some x.val) ∧ x.In w w.heap.size := by
  obtain ⟨hl, hf⟩ := h.struct Try.underlying50 Try.cells50
  obtain ⟨v0, rfl⟩ := list1 hl
  have f0 : Rd w 46 [v0] := fld hf 0 _ rfl Try.cells46 rfl
  obtain ⟨m, rfl, hm⟩ := rd_ids f0
  refine ⟨m, fun j hj => ?_, hm⟩
  obtain rfl : j = 0 := by omega
  rfl

theorem rd_gr {w : World} {cs : List Value} (h : Rd w 52 cs) : ∃ x : Gr, (∀ j, j < 1 → cs[j]? = some (.pointer x.q)) ∧ StrIn w w.heap.size x.q x.s := by
  obtain ⟨hl, hf⟩ := h.struct Try.underlying52 Try.cells52
  obtain ⟨v0, rfl⟩ := list1 hl
  have f0 : Rd w 34 [v0] := fld hf 0 _ rfl Try.cells34 rfl
  obtain ⟨q, s, rfl, hq⟩ := rd_strp f0
  refine ⟨⟨q, s⟩, fun j hj => ?_, hq⟩
  obtain rfl : j = 0 := by omega
  rfl

theorem rd_pr {w : World} {cs : List Value} (h : Rd w 56 cs) : ∃ x : Pr, (∀ j, j < 3 → cs[j]? = some (x.cell j)) ∧ x.In w w.heap.size := by
  obtain ⟨hl, hf⟩ := h.struct Try.underlying56 Try.cells56
  obtain ⟨v0, v1, v2, rfl⟩ := list3 hl
  have f0 : Rd w 34 [v0] := fld hf 0 _ rfl Try.cells34 rfl
  have f1 : Rd w 53 [v1] := fld hf 1 _ rfl Try.cells53 rfl
  have f2 : Rd w 54 [v2] := fld hf 2 _ rfl Try.cells54 rfl
  obtain ⟨q, s, rfl, hq⟩ := rd_strp f0
  obtain ⟨a, n, c, f, rfl, _, hr, he⟩ := rd_row (α := Peer) ⟨⟨none, 0, 0⟩, ⟨none, 0, 0⟩⟩ (fun x j => x.cell j) (fun x => x.Ok) Try.underlying53 Try.cells58 (by omega) f1 (fun cs hcs => rd_peer hcs)
  obtain ⟨k, v, rfl, hk⟩ := rd_nump f2
  refine ⟨⟨q, s, a, n, c, f, k, v⟩, fun j hj => ?_, hq, hr, he, hk⟩
  have : j = 0 ∨ j = 1 ∨ j = 2 := by omega
  rcases this with rfl | rfl | rfl <;> rfl

theorem rd_ctl {w : World} {cs : List Value} (h : Rd w 45 cs) : ∃ x : Ctl, (∀ j, j < 5 → cs[j]? = some (x.cell j)) ∧ x.In w w.heap.size := by
  obtain ⟨hl, hf⟩ := h.struct Try.underlying45 Try.cells45
  obtain ⟨v0, v1, v2, v3, v4, rfl⟩ := list5 hl
  have f0 : Rd w 40 [v0] := fld hf 0 _ rfl Try.cells40 rfl
  have f1 : Rd w 41 [v1] := fld hf 1 _ rfl Try.cells41 rfl
  have f2 : Rd w 42 [v2] := fld hf 2 _ rfl Try.cells42 rfl
  have f3 : Rd w 43 [v3] := fld hf 3 _ rfl Try.cells43 rfl
  have f4 : Rd w 41 [v4] := fld hf 4 _ rfl Try.cells41 rfl
  obtain ⟨a0, n0, c0, g0, rfl, _, r0, e0⟩ := rd_row (α := IH) ⟨none, .empty, ⟨none, 0, 0, fun _ => ⟨none, 0, 0⟩⟩⟩ (fun x j => x.cell j) (fun x => x.In w w.heap.size) Try.underlying40 Try.cells48 (by omega) f0 (fun cs hcs => rd_ih hcs)
  obtain ⟨a1, n1, c1, g1, rfl, _, r1, e1⟩ := rd_row (α := Ids) ⟨none, 0, 0, fun _ => ⟨none, 0, 0⟩⟩ (fun x _ => x.val) (fun x => x.In w w.heap.size) Try.underlying41 Try.cells50 (by omega) f1 (fun cs hcs => rd_idsS hcs)
  obtain ⟨a2, n2, c2, g2, rfl, _, r2, e2⟩ := rd_row (α := Gr) ⟨none, .empty⟩ (fun x _ => .pointer x.q) (fun x => StrIn w w.heap.size x.q x.s) Try.underlying42 Try.cells52 (by omega) f2 (fun cs hcs => rd_gr hcs)
  obtain ⟨a3, n3, c3, g3, rfl, _, r3, e3⟩ := rd_row (α := Pr) ⟨none, .empty, none, 0, 0, fun _ => ⟨⟨none, 0, 0⟩, ⟨none, 0, 0⟩⟩, none, 0⟩ (fun x j => x.cell j) (fun x => x.In w w.heap.size) Try.underlying43 Try.cells56 (by omega) f3 (fun cs hcs => rd_pr hcs)
  obtain ⟨a4, n4, c4, g4, rfl, _, r4, e4⟩ := rd_row (α := Ids) ⟨none, 0, 0, fun _ => ⟨none, 0, 0⟩⟩ (fun x _ => x.val) (fun x => x.In w w.heap.size) Try.underlying41 Try.cells50 (by omega) f4 (fun cs hcs => rd_idsS hcs)
  refine ⟨⟨⟨a0, n0, c0, g0⟩, ⟨a1, n1, c1, g1⟩, ⟨a2, n2, c2, g2⟩, ⟨a3, n3, c3, g3⟩, ⟨a4, n4, c4, g4⟩⟩, fun j hj => ?_, ⟨r0, e0, r1, e1, r2, e2, r3, e3, r4, e4⟩⟩
  have : j = 0 ∨ j = 1 ∨ j = 2 ∨ j = 3 ∨ j = 4 := by omega
  rcases this with rfl | rfl | rfl | rfl | rfl <;> rfl

/-- The three arguments. -/
theorem rd_subs {w : World} {v : Value} (h : Rd w 22 [v]) : ∃ (a : Option Addr) (n c : Nat) (f : Nat → Sub), v = .slice a n c ∧ n ≤ c ∧ RowAt w w.heap.size a n 2 (fun i j => (f i).cell j) ∧ ∀ i, i < n → (f i).In w w.heap.size :=
  rd_row (α := Sub) ⟨none, none, false, .empty⟩ (fun x j => x.cell j) (fun x => x.In w w.heap.size) Try.underlying22 Try.cells36 (by omega) h (fun cs hcs => rd_sub hcs)

theorem rd_pubs {w : World} {v : Value} (h : Rd w 23 [v]) : ∃ (a : Option Addr) (n c : Nat) (P : Nat → Option Addr) (f : Nat → Msg), v = .slice a n c ∧ n ≤ c ∧ RowAt w w.heap.size a n 1 (fun i _ => .pointer (P i)) ∧ PubIn w w.heap.size P f n := by
  obtain ⟨a, n, c, f, h1, h2, h3, h4⟩ := rd_row (α := Option Addr × Msg) (none, ⟨⟨none, 0, 0⟩, ⟨none, 0, 0⟩, ⟨none, 0, 0⟩, .empty, ⟨none, 0, 0⟩, ⟨none, 0, 0⟩⟩) (fun x _ => .pointer x.1)
    (fun x => ∀ a, x.1 = some a → ∃ b o, a = ⟨b, o, none⟩ ∧ b < w.heap.size ∧ (∀ j, j < 6 → w.cell? ⟨b, o + j, none⟩ = some (x.2.cell j)) ∧ x.2.Ok) Try.underlying23 Try.cells27 (by omega) h (fun cs hcs => by
      rcases hcs.ptr Try.underlying27 Try.cells39 (by omega) with rfl | ⟨b, o, cs', rfl, hb, hl, hc, hr⟩
      · refine ⟨(none, ⟨⟨none, 0, 0⟩, ⟨none, 0, 0⟩, ⟨none, 0, 0⟩, .empty, ⟨none, 0, 0⟩, ⟨none, 0, 0⟩⟩), fun j hj => ?_, fun a ha => by cases ha⟩
        obtain rfl : j = 0 := by omega
        rfl
      · obtain ⟨x, hx, ho⟩ := rd_msg hr
        refine ⟨(some ⟨b, o, none⟩, x), fun j hj => ?_, fun a ha => ?_⟩
        · obtain rfl : j = 0 := by omega
          rfl
        · cases ha
          exact ⟨b, o, rfl, hb, fun j hj => (hc j hj).trans (hx j hj), ho⟩)
  exact ⟨a, n, c, fun i => (f i).1, fun i => (f i).2, h1, h2, h3, h4⟩

theorem rd_ctrl {w : World} {v : Value} (h : Rd w 24 [v]) : v = .pointer none ∨ ∃ b o y, v = .pointer (some ⟨b, o, none⟩) ∧ b < w.heap.size ∧ (∀ j, j < 5 → w.cell? ⟨b, o + j, none⟩ = some (Ctl.cell y j)) ∧ y.In w w.heap.size := by
  rcases h.ptr Try.underlying24 Try.cells45 (by omega) with h1 | ⟨b, o, cs', h1, hb, hl, hc, hr⟩
  · simp only [List.cons.injEq, and_true] at h1
    exact .inl h1
  · simp only [List.cons.injEq, and_true] at h1
    obtain ⟨y, hy, hi⟩ := rd_ctl hr
    exact .inr ⟨b, o, y, h1, hb, fun j hj => (hc j hj).trans (hy j hj), hi⟩

end Go.Proofs.Qxb6616574a
