import Derived.Test.Qxb6616796aProg
import Derived.WalkKit
import Derived.WalkSpells
import Derived.WalkLawsBesides
import Derived.Deep.QuietTactic
import Derived.BigQuiet
import Derived.Deep.DrawnRows
import Derived.Deep.RegionWith
namespace Go.Proofs.Qxb6616796a
open Go.RowKit

/-- A slice of elements of 'size' cells each: element i's cell j holds V i j. -/
def RowAt (w : World) (B : Nat) (a : Option Addr) (n size : Nat) (V : Nat → Nat → Value) : Prop :=
  n ≤ maxLen ∧ (0 < n → ∃ b off, a = some ⟨b, off, none⟩ ∧ b < B ∧ ∀ i j, i < n → j < size → w.cell? ⟨b, off + i * size + j, none⟩ = some (V i j))

theorem RowAt.below {w w' : World} {B : Nat} {a : Option Addr} {n size : Nat} {V : Nat → Nat → Value} (h : RowAt w B a n size V) (hb : Below B w w') : RowAt w' B a n size V := by
  refine ⟨h.1, fun h0 => ?_⟩
  obtain ⟨b, off, ha, hlt, hc⟩ := h.2 h0
  exact ⟨b, off, ha, hlt, fun i j hi hj => (hb.cell hlt).trans (hc i j hi hj)⟩

theorem RowAt.more {w : World} {B B' : Nat} {a : Option Addr} {n size : Nat} {V : Nat → Nat → Value} (h : RowAt w B a n size V) (hB : B ≤ B') : RowAt w B' a n size V := by
  refine ⟨h.1, fun h0 => ?_⟩
  obtain ⟨b, off, ha, hlt, hc⟩ := h.2 h0
  exact ⟨b, off, ha, Nat.lt_of_lt_of_le hlt hB, hc⟩

/-- A []byte: where it begins, its length, its capacity, its bytes. -/
structure Bs where
  a : Option Addr
  n : Nat
  c : Nat
  f : Nat → Int
def Bs.val (b : Bs) : Value := .slice b.a b.n b.c
structure Bs.In (x : Bs) (w : World) (B : Nat) : Prop where
  nil : x.a = none → x.n = 0 ∧ x.c = 0
  row : RowAt w B x.a x.n 1 (fun i _ => .int .u8 (x.f i))
theorem Bs.In.below {x : Bs} {w w' : World} {B : Nat} (h : x.In w B) (hb : Below B w w') : x.In w' B := ⟨h.nil, h.row.below hb⟩
theorem Bs.In.more {x : Bs} {w : World} {B B' : Nat} (h : x.In w B) (hB : B ≤ B') : x.In w B' := ⟨h.nil, h.row.more hB⟩

/-- An approval. -/
structure Ap where
  id : ByteArray
  p : Option Addr
  b : Bool
  re : ByteArray
def Ap.cell (x : Ap) : Nat → Value
  | 0 => .string x.id
  | 1 => .pointer x.p
  | _ => .string x.re
structure Ap.In (x : Ap) (w : World) (B : Nat) : Prop where
  id : x.id.size ≤ maxLen
  re : x.re.size ≤ maxLen
  p : ∀ a, x.p = some a → ∃ b o, a = ⟨b, o, none⟩ ∧ b < B ∧ w.cell? ⟨b, o, none⟩ = some (.bool x.b)
theorem Ap.In.below {x : Ap} {w w' : World} {B : Nat} (h : x.In w B) (hb : Below B w w') : x.In w' B :=
  ⟨h.id, h.re, fun a ha => by obtain ⟨b, o, h1, h2, h3⟩ := h.p a ha; exact ⟨b, o, h1, h2, (hb.cell h2).trans h3⟩⟩
theorem Ap.In.more {x : Ap} {w : World} {B B' : Nat} (h : x.In w B) (hB : B ≤ B') : x.In w B' :=
  ⟨h.id, h.re, fun a ha => by obtain ⟨b, o, h1, h2, h3⟩ := h.p a ha; exact ⟨b, o, h1, Nat.lt_of_lt_of_le h2 hB, h3⟩⟩

/-- A part. -/
structure Pt where
  ty : ByteArray
  tx : ByteArray
  st : ByteArray
  tn : ByteArray
  tc : ByteArray
  inp : Bs
  out : Bs
  et : ByteArray
  q : Option Addr
  ap : Ap
def Pt.cell (x : Pt) : Nat → Value
  | 0 => .string x.ty
  | 1 => .string x.tx
  | 2 => .string x.st
  | 3 => .string x.tn
  | 4 => .string x.tc
  | 5 => x.inp.val
  | 6 => x.out.val
  | 7 => .string x.et
  | _ => .pointer x.q
structure Pt.In (x : Pt) (w : World) (B : Nat) : Prop where
  ty : x.ty.size ≤ maxLen
  tx : x.tx.size ≤ maxLen
  st : x.st.size ≤ maxLen
  tn : x.tn.size ≤ maxLen
  tc : x.tc.size ≤ maxLen
  et : x.et.size ≤ maxLen
  inp : x.inp.In w B
  out : x.out.In w B
  ap : ∀ a, x.q = some a → ∃ b o, a = ⟨b, o, none⟩ ∧ b < B ∧ (∀ j, j < 3 → w.cell? ⟨b, o + j, none⟩ = some (x.ap.cell j)) ∧ x.ap.In w B
theorem Pt.In.below {x : Pt} {w w' : World} {B : Nat} (h : x.In w B) (hb : Below B w w') : x.In w' B :=
  ⟨h.ty, h.tx, h.st, h.tn, h.tc, h.et, h.inp.below hb, h.out.below hb, fun a ha => by
    obtain ⟨b, o, h1, h2, h3, h4⟩ := h.ap a ha
    exact ⟨b, o, h1, h2, fun j hj => (hb.cell h2).trans (h3 j hj), h4.below hb⟩⟩
theorem Pt.In.more {x : Pt} {w : World} {B B' : Nat} (h : x.In w B) (hB : B ≤ B') : x.In w B' :=
  ⟨h.ty, h.tx, h.st, h.tn, h.tc, h.et, h.inp.more hB, h.out.more hB, fun a ha => by
    obtain ⟨b, o, h1, h2, h3, h4⟩ := h.ap a ha
    exact ⟨b, o, h1, Nat.lt_of_lt_of_le h2 hB, h3, h4.more hB⟩⟩

/-- The slice of parts. -/
structure Pts where
  a : Option Addr
  n : Nat
  c : Nat
  f : Nat → Pt
def Pts.val (x : Pts) : Value := .slice x.a x.n x.c
structure Pts.In (x : Pts) (w : World) (B : Nat) : Prop where
  row : RowAt w B x.a x.n 9 (fun i j => (x.f i).cell j)
  el : ∀ i, i < x.n → (x.f i).In w B
theorem Pts.In.below {x : Pts} {w w' : World} {B : Nat} (h : x.In w B) (hb : Below B w w') : x.In w' B := ⟨h.row.below hb, fun i hi => (h.el i hi).below hb⟩
theorem Pts.In.more {x : Pts} {w : World} {B B' : Nat} (h : x.In w B) (hB : B ≤ B') : x.In w B' := ⟨h.row.more hB, fun i hi => (h.el i hi).more hB⟩

/-- The lengths that a copy makes are small. -/
def Pt.Small (x : Pt) : Prop := x.inp.n ≤ 1048576 ∧ x.out.n ≤ 1048576 ∧ x.tx.size ≤ 1048576
def Pts.Small (x : Pts) : Prop := ∀ i, i < x.n → (x.f i).Small

theorem cell_of_heap {w : World} {C T : Nat} {arr : Array Value} (h : w.heap[C]? = some (.cells arr T (0, 0))) {j : Nat} {v : Value} (hv : arr[j]? = some v) : w.cell? ⟨C, j, none⟩ = some v := by
  simp [World.cell?, h, hv]
theorem free_of_heap {w : World} {C T : Nat} {arr : Array Value} (h : w.heap[C]? = some (.cells arr T (0, 0))) (j : Nat) : w.frozen? ⟨C, j, none⟩ = false := by
  simp [World.frozen?, h]
theorem lt_of_heap {w : World} {C : Nat} {ob : Obj} (h : w.heap[C]? = some ob) : C < w.heap.size := (Array.getElem?_eq_some_iff.1 h).1
theorem set_heap {w : World} {g T : Nat} {arr : Array Value} (hh : w.heap[g]? = some (.cells arr T (0, 0))) (c : Nat) (v : Value) :
    (w.setCell ⟨g, c, none⟩ v).heap[g]? = some (.cells (arr.setIfInBounds c v) T (0, 0)) := by
  simp [World.setCell, Array.getElem?_modify, hh]

/-! ### addLen, partsBytes, hasStepStart -/
/-- What addLen answers. -/
def AddP (t n : Int) (w : World) (e : Ending) (w' : World) : Prop :=
  ∃ r : Int, e = .returned (.int .i64 r) ∧ w = w' ∧ 0 ≤ r ∧ r ≤ 1048577 ∧ Hid (r ≤ 1048576 → t ≤ 1048576 ∧ n ≤ 1048576)

set_option maxHeartbeats 1000000 in
theorem addLen_any (t n : Int) (w : World) (h0 : 0 ≤ t) (h1 : t ≤ 1048577) (h2 : 0 ≤ n) : Calls Try.prog 12 #[.int .i64 t, .int .i64 n] w (AddP t n w) := by
  by_cases h3 : 1048576 < t
  · go_enter Try.func12, Try.ntmps12
    go_wp2_with fail
    go_ret
    exact ⟨_, rfl, rfl, by omega, by omega, fun h => by omega⟩
  by_cases h4 : 1048576 - t < n
  · have hd : decide (1048576 - t < n) = true := decide_eq_true h4
    go_enter Try.func12, Try.ntmps12
    go_wp2_with fail
    go_ret
    exact ⟨_, rfl, rfl, by omega, by omega, fun h => by omega⟩
  · have hd : decide (1048576 - t < n) = false := decide_eq_false h4
    go_enter Try.func12, Try.ntmps12
    go_wp2_with fail
    go_ret
    exact ⟨_, rfl, rfl, by omega, by omega, fun h => by omega⟩

end Go.Proofs.Qxb6616796a
