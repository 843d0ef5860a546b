import Derived.Test.Qxb6616796aB3
namespace Go.Proofs.Qxb6616796a
open Go.RowKit

def y33 : Value := .agg (pcs { data := #[] } { data := #[] } { data := #[] } { data := #[] } { data := #[] } (.slice none 0 0) (.slice none 0 0) { data := #[] } (.pointer none))
theorem Try.infoQ : (Try.prog.info? 33).map (fun i => (i.zero, i.size, i.bytes)) = some (some y33, 15, 224) := by kernel_rfl

/-- What a part holds beside its Type and its Text. -/
structure Sh where
  st : ByteArray
  tn : ByteArray
  tc : ByteArray
  a1 : Option Addr
  n1 : Nat
  c1 : Nat
  a2 : Option Addr
  n2 : Nat
  c2 : Nat
  et : ByteArray
  q : Option Addr
/-- A part's cells. -/
def pc (ty tx : ByteArray) (s : Sh) : Array Value := pcs ty tx s.st s.tn s.tc (.slice s.a1 s.n1 s.c1) (.slice s.a2 s.n2 s.c2) s.et (.pointer s.q)
theorem pc_size (ty tx : ByteArray) (s : Sh) : (pc ty tx s).size = 15 := rfl
theorem pc_one (ty tx : ByteArray) (s : Sh) : ∀ u ∈ (pc ty tx s).toList, u.oneCell' = true := by
  intro u hu
  simp only [pc, pcs, List.mem_cons, List.not_mem_nil, or_false] at hu
  rcases hu with h | h | h | h | h | h | h | h | h | h | h | h | h | h | h <;> (subst h; rfl)

/-- The cells of a row of n parts. -/
structure TU (xs : List Value) (n : Nat) (T X : Nat → ByteArray) (S : Nat → Sh) : Prop where
  len : xs.length = n * 15
  one : ∀ u ∈ xs, u.oneCell' = true
  sh : ∀ i j, i < n → j < 15 → xs[i * 15 + j]? = (pc (T i) (X i) (S i))[j]?

theorem TU.nil (T X : Nat → ByteArray) (S : Nat → Sh) : TU [] 0 T X S := ⟨rfl, (fun _ h => by simp at h), fun i j h => absurd h (by omega)⟩
theorem TU.app {xs ys : List Value} {n m : Nat} {T X T' X' : Nat → ByteArray} {S S' : Nat → Sh} (h : TU xs n T X S) (k : TU ys m T' X' S') :
    TU (xs ++ ys) (n + m) (fun i => if i < n then T i else T' (i - n)) (fun i => if i < n then X i else X' (i - n)) (fun i => if i < n then S i else S' (i - n)) := by
  refine ⟨by rw [List.length_append, h.len, k.len, Nat.add_mul], fun u hu => ?_, fun i j hi hj => ?_⟩
  · rcases List.mem_append.1 hu with hu | hu
    · exact h.one u hu
    · exact k.one u hu
  · by_cases hin : i < n
    · rw [List.getElem?_append_left (by rw [h.len]; omega), if_pos hin, if_pos hin, if_pos hin]
      exact h.sh i j hin hj
    · rw [List.getElem?_append_right (by rw [h.len]; omega), if_neg hin, if_neg hin, if_neg hin, h.len, show i * 15 + j - n * 15 = (i - n) * 15 + j by omega]
      exact k.sh (i - n) j (by omega) hj
theorem TU.congr {xs : List Value} {n : Nat} {T X T' X' : Nat → ByteArray} {S S' : Nat → Sh} (h : TU xs n T X S) (hT : ∀ i, i < n → T i = T' i) (hX : ∀ i, i < n → X i = X' i) (hS : ∀ i, i < n → S i = S' i) : TU xs n T' X' S' :=
  ⟨h.len, h.one, fun i j hi hj => (h.sh i j hi hj).trans (by rw [hT i hi, hX i hi, hS i hi])⟩
/-- One part. -/
theorem TU.single (ty tx : ByteArray) (s : Sh) : TU (pc ty tx s).toList 1 (fun _ => ty) (fun _ => tx) (fun _ => s) := by
  refine ⟨rfl, pc_one ty tx s, fun i j hi hj => ?_⟩
  obtain rfl : i = 0 := by omega
  simp

theorem new_cellz (w : World) (arr : Array Value) (t : Nat) : ∀ j u, arr.toList[j]? = some u → (w.alloc (.cells arr t)).cell? ((⟨w.heap.size, 0, none⟩ : Addr).add j) = some u := by
  intro j u hj
  have hadd : (⟨w.heap.size, 0, none⟩ : Addr).add j = ⟨w.heap.size, j, none⟩ := by unfold Addr.add; split <;> simp_all
  rw [hadd]
  exact cell_of_heap (heap_alloc_new w _) (by simpa using hj)

/-- A row of parts of the call's own. -/
def Ownz (w : World) (base : Nat) (g n c : Nat) (T X : Nat → ByteArray) (S : Nat → Sh) : Prop :=
  ∃ xs, w.ownsRow base 33 15 (.slice (some ⟨g, 0, none⟩) n c) n xs ∧ TU xs n T X S

theorem Ownz.base {w : World} {base g n c : Nat} {T X : Nat → ByteArray} {S : Nat → Sh} (h : Ownz w base g n c T X S) : base ≤ g ∧ g < w.heap.size := by
  obtain ⟨xs, h, _⟩ := h
  exact h.lt g rfl
theorem Ownz.block {w w' : World} {base g n c : Nat} {T X : Nat → ByteArray} {S : Nat → Sh} (h : Ownz w base g n c T X S) (hb : w'.heap[g]? = w.heap[g]?) : Ownz w' base g n c T X S := by
  obtain ⟨xs, h, k⟩ := h
  refine ⟨xs, ⟨h.1, ?_⟩, k⟩
  rcases h.2 with hn | ⟨g', cap, cur, hv, hbb, hgg, rest⟩
  · exact .inl hn
  · refine .inr ⟨g', cap, cur, hv, hbb, ?_, rest⟩
    simp only [Value.slice.injEq, Option.some.injEq, Addr.mk.injEq, and_true, true_and] at hv
    rw [← hv.1] at hgg ⊢
    exact hb.trans hgg
theorem Ownz.below {w w' : World} {base B g n c : Nat} {T X : Nat → ByteArray} {S : Nat → Sh} (h : Ownz w base g n c T X S) (hb : Below B w w') (hg : g < B) : Ownz w' base g n c T X S := h.block (hb.block g hg)
theorem Ownz.less {w : World} {base base' g n c : Nat} {T X : Nat → ByteArray} {S : Nat → Sh} (h : Ownz w base g n c T X S) (hb : base' ≤ base) : Ownz w base' g n c T X S := by
  obtain ⟨xs, h, k⟩ := h
  refine ⟨xs, ⟨h.1, ?_⟩, k⟩
  rcases h.2 with hn | ⟨g', cap, cur, hv, hbb, rest⟩
  · exact .inl hn
  · exact .inr ⟨g', cap, cur, hv, Nat.le_trans hb hbb, rest⟩
/-- What append leaves, as Ownz. -/
theorem Ownz.of {w : World} {base n : Nat} {v : Value} {xs : List Value} {T X : Nat → ByteArray} {S : Nat → Sh} (h : w.ownsRow base 33 15 v n xs) (k : TU xs n T X S) (hv : v = .slice none 0 0 → False) : ∃ g c, v = .slice (some ⟨g, 0, none⟩) n c ∧ Ownz w base g n c T X S := by
  rcases h.2 with ⟨hn, _⟩ | ⟨g, cap, cur, rfl, rest⟩
  · exact (hv hn).elim
  · exact ⟨g, cap, rfl, xs, h, k⟩

/-- A row of parts as the heap has it. -/
def Row (w : World) (g n : Nat) (T X : Nat → ByteArray) (S : Nat → Sh) : Prop := ∀ i j, i < n → j < 15 → w.cell? ⟨g, i * 15 + j, none⟩ = (pc (T i) (X i) (S i))[j]?
theorem Ownz.row {w : World} {base g n c : Nat} {T X : Nat → ByteArray} {S : Nat → Sh} (h : Ownz w base g n c T X S) : Row w g n T X S := by
  intro i j hi hj
  obtain ⟨xs, h, k⟩ := h
  rw [h.cellAt (i * 15 + j) (by omega)]
  exact k.sh i j hi hj
theorem Ownz.free {w : World} {base g n c : Nat} {T X : Nat → ByteArray} {S : Nat → Sh} (h : Ownz w base g n c T X S) (j : Nat) : w.frozen? ⟨g, j, none⟩ = false := by
  obtain ⟨xs, h, k⟩ := h
  exact h.frozenAt j
theorem Row.block {w w' : World} {g n : Nat} {T X : Nat → ByteArray} {S : Nat → Sh} (h : Row w g n T X S) (hb : w'.heap[g]? = w.heap[g]?) : Row w' g n T X S :=
  fun i j hi hj => (World.cell?_of_block (a := ⟨g, i * 15 + j, none⟩) hb).trans (h i j hi hj)
theorem Row.ty {w : World} {g n : Nat} {T X : Nat → ByteArray} {S : Nat → Sh} (h : Row w g n T X S) : ∀ i, i < n → w.cell? ⟨g, i * 15, none⟩ = some (.string (T i)) := fun i hi => h i 0 hi (by omega)

/-- What toParts leaves. -/
def TqsP (x : Pts) (w : World) (e : Ending) (w' : World) : Prop :=
  ∃ g c S, e = .returned (.slice (some ⟨g, 0, none⟩) x.n c) ∧ Hid (Ownz w' w.heap.size g x.n c (fun i => (x.f i).ty) (fun i => (x.f i).tx) S ∧ Below w.heap.size w w')

/-- The loop's relation. -/
def TV (w wr : World) (f : Nat → Pt) (g k c : Nat) : Prop := ∃ S, Ownz wr w.heap.size g k c (fun i => (f i).ty) (fun i => (f i).tx) S ∧ Below w.heap.size w wr

theorem TV.step {w wr w1 w2 : World} {f : Nat → Pt} {g k : Nat} {v : Value} {xs ys : List Value} {S : Nat → Sh} {s : Sh} (hb : Below w.heap.size w wr) (h1 : Below wr.heap.size wr w1) (o : Obj) (hgw : w.heap.size ≤ g) (kx : TU xs k (fun i => (f i).ty) (fun i => (f i).tx) S)
    (hy : TU ys 1 (fun _ => (f k).ty) (fun _ => (f k).tx) (fun _ => s)) (hown : w2.ownsRow w.heap.size 33 15 v (k + 1) (xs ++ ys)) (hg : (w1.alloc o).grownBy w2 (some g)) : ∃ g' c', v = .slice (some ⟨g', 0, none⟩) (k + 1) c' ∧ Hid (TV w w2 f g' (k + 1) c') := by
  have kk : TU (xs ++ ys) (k + 1) (fun i => (f i).ty) (fun i => (f i).tx) (fun i => if i < k then S i else s) := (kx.app hy).congr (fun i hi => by
    by_cases h : i < k
    · rw [if_pos h]
    · rw [if_neg h, show i = k by omega]) (fun i hi => by
    by_cases h : i < k
    · rw [if_pos h]
    · rw [if_neg h, show i = k by omega]) (fun i hi => rfl)
  obtain ⟨g', c', rfl, ho⟩ := Ownz.of hown kk (fun e => by
    rcases hown.2 with ⟨_, h⟩ | ⟨_, _, _, h, _⟩
    · omega
    · rw [e] at h; cases h)
  have hb1 : Below w.heap.size w (w1.alloc o) := (hb.trans (h1.mono hb.size)).alloc (Nat.le_trans hb.size h1.size) o
  refine ⟨g', c', rfl, _, ho, hb1.trans ⟨hg.os, hg.tape, hg.output, hg.size, fun i hi => hg.block i (Nat.lt_of_lt_of_le hi hb1.size) (fun e => by cases e; omega)⟩⟩

set_option maxRecDepth 100000 in
set_option maxHeartbeats 4000000 in
theorem toParts_full (x : Pts) (B : Nat) (w : World) (hx : x.In w B) (hB : B ≤ w.heap.size) (hs : x.Small) (hn : x.n ≤ 65536) : Calls Try.prog 9 #[.slice x.a x.n x.c] w (TqsP x w) := by
  obtain ⟨a, n, c, f⟩ := x
  obtain ⟨⟨hm, hr⟩, hel⟩ := hx
  dsimp only at hm hr hel hn
  clear hm
  have HEL : Hid (∀ i, i < n → (f i).In w B) := hel
  have HS : Hid (∀ i, i < n → (f i).Small) := hs
  have HB : Hid (B ≤ w.heap.size) := hB
  clear hel hs hB
  obtain ⟨i0, hi, hz0, hz1, hz2⟩ := info_parts Try.infoQ
  obtain ⟨Z, hZ⟩ : ∃ Z, Z = y33.cells := ⟨_, rfl⟩
  have hmk : ∀ w : World, (Instr.makeSlice 26 (.int .i64 0) (.int .i64 (n : Int))).run Try.prog w = .ok (.slice (some ⟨w.heap.size, 0, none⟩) 0 n) (w.alloc (.cells (made Z (n * 15)) 33)) := by
    intro w
    rw [hZ]
    have h1 : (i0.bytes : Int) * (n : Int) ≤ 281474976710656 := by rw [hz2]; omega
    have := run_make (P := Try.prog) w 26 33 i0 y33 Try.underlying26 hi hz0 .i64 .i64 0 n (by omega) (by omega) h1 (by omega)
    simp only [Int.toNat_zero, Int.toNat_natCast, hz1] at this
    exact this
  have HR : Hid (0 < n → ∃ b off, a = some ⟨b, off, none⟩ ∧ b < B ∧ ∀ i j, i < n → j < 9 → w.cell? ⟨b, off + i * 9 + j, none⟩ = some ((f i).cell j)) := hr
  clear hr
  have HI : Hid _ := hi
  have HZ : Hid _ := And.intro hz0 (And.intro hz1 hz2)
  clear hi hz0 hz1 hz2 hZ
  go_enter Try.func9, Try.ntmps9
  go_wp2_with fail
  go_loopw [3, 4] (fun v i wr => ∃ k g c : Nat, k ≤ n ∧ v = .slice (some ⟨g, 0, none⟩) k c ∧ i = .int .i64 k ∧ Hid (TV w wr f g k c)) (fun _ i _ => n - (intOf i).toNat)
  case atStart => exact ⟨0, _, _, Nat.zero_le _, rfl, rfl, fun _ => ⟨.empty, .empty, .empty, none, 0, 0, none, 0, 0, .empty, none⟩, ⟨_, World.ownsRow_made w _ n (Nat.le_refl _) (by unfold maxLen; omega) (size_madeCells _ _), TU.nil _ _ _⟩, (Below.refl _ _).alloc (Nat.le_refl _) _⟩
  case round =>
  obtain ⟨k, g, c2, hk, rfl, rfl, HTR⟩ := hrel
  by_cases hlt : k < n
  case neg =>
    obtain rfl : n = k := by omega
    clear hlt hk hmk
    go_wp2_with fail
    go_ret
    obtain ⟨S, hS⟩ := HTR.out
    exact ⟨g, c2, S, rfl, hS⟩
  obtain ⟨b, off, rfl, hb, hc⟩ := HR.out (by omega)
  have HBW : Hid (Below w.heap.size w wr) := by obtain ⟨_, h⟩ := HTR.out; exact h.2
  have hbw : b < w.heap.size := Nat.lt_of_lt_of_le hb HB.out
  have hel := HEL.out k hlt
  have y0 : wr.cell? ⟨b, off + k * 9, none⟩ = some (.string (f k).ty) := (HBW.out.cell hbw).trans (hc k 0 hlt (by omega))
  have y1 : wr.cell? ⟨b, off + k * 9 + 1, none⟩ = some (.string (f k).tx) := (HBW.out.cell hbw).trans (hc k 1 hlt (by omega))
  have y2 : wr.cell? ⟨b, off + k * 9 + 2, none⟩ = some (.string (f k).st) := (HBW.out.cell hbw).trans (hc k 2 hlt (by omega))
  have y3 : wr.cell? ⟨b, off + k * 9 + 3, none⟩ = some (.string (f k).tn) := (HBW.out.cell hbw).trans (hc k 3 hlt (by omega))
  have y4 : wr.cell? ⟨b, off + k * 9 + 4, none⟩ = some (.string (f k).tc) := (HBW.out.cell hbw).trans (hc k 4 hlt (by omega))
  have y5 : wr.cell? ⟨b, off + k * 9 + 5, none⟩ = some (.slice (f k).inp.a (f k).inp.n (f k).inp.c) := (HBW.out.cell hbw).trans (hc k 5 hlt (by omega))
  have y6 : wr.cell? ⟨b, off + k * 9 + 6, none⟩ = some (.slice (f k).out.a (f k).out.n (f k).out.c) := (HBW.out.cell hbw).trans (hc k 6 hlt (by omega))
  have y7 : wr.cell? ⟨b, off + k * 9 + 7, none⟩ = some (.string (f k).et) := (HBW.out.cell hbw).trans (hc k 7 hlt (by omega))
  have y8 : wr.cell? ⟨b, off + k * 9 + 8, none⟩ = some (.pointer (f k).q) := (HBW.out.cell hbw).trans (hc k 8 hlt (by omega))
  have HEK : Hid ((f k).In wr B) := hel.below (HBW.out.mono HB.out)
  have HBR : Hid (B ≤ wr.heap.size) := Nat.le_trans HB.out HBW.out.size
  clear hc hel hmk
  go_wp2_with fail
  refine (toPart_any (f k) B wr HEK.out HBR.out (HS.out k hlt)).mono ?_
  rintro e w1 ⟨a1, n1, c1, a2, n2, c3, q, rfl, HB1⟩
  obtain ⟨S, ⟨xs, hown, kx⟩, _⟩ := HTR.out
  have HOW : Hid (w1.ownsRow w.heap.size 33 15 (.slice (some ⟨g, 0, none⟩) k c2) k xs) := by
    refine hown.kept (row := none) ⟨HB1.out.os, HB1.out.tape, HB1.out.output, HB1.out.size, fun i hi _ => HB1.out.block i hi⟩ (.inr (by simp [Value.ownBlock]))
  have hgw := (hown.lt g rfl).1
  have HKX : Hid _ := kx
  clear hown kx
  unfold pcs
  clear y0 y1 y2 y3 y4 y5 y6 y7 y8
  go_wp2_with (at_builtin; refine wpList_append_own _ rfl _ _ 26 rfl w.heap.size 33 i0 y33 15 224 Try.underlying26 HI.out HZ.out.1 HZ.out.2.1 HZ.out.2.2 rfl (by decide) _ _ _ rfl (HOW.out.alloc _) ⟨w1.heap.size, 0, none⟩ 1 1 (pc (f k).ty (f k).tx ⟨(f k).st, (f k).tn, (f k).tc, a1, n1, c1, a2, n2, c3, (f k).et, q⟩).toList rfl rfl ?c1 ?c2 ?c3 ?c4 ?c5 ?_)
  case c1 => exact new_cellz w1 _ 33
  case c2 => exact pc_one _ _ _
  case c3 => unfold maxLen; omega
  case c4 => omega
  case c5 => have h1 := HBW.out.size; have h2 := HB1.out.size; simp; omega
  · intro v' w2 hown' hgrow _
    obtain ⟨g', c', rfl, HT2⟩ := TV.step HBW.out HB1.out _ hgw HKX.out (TU.single _ _ _) hown' hgrow
    clear hown' hgrow
    go_wp2_with fail
    exact ⟨⟨k + 1, g', c', by omega, rfl, by go_num, HT2⟩, by simp [intOf]; omega⟩
end Go.Proofs.Qxb6616796a
