import Derived.Test.Qxb6616796aD1
import Derived.Test.Qxb6616796aC1
import Derived.Test.Qxb6616796aB5
namespace Go.Proofs.Qxb6616796a
open Go.RowKit

/-- 'text'. -/
def tt : ByteArray := { data := #[116, 101, 120, 116] }
theorem tt_yes {s : ByteArray} (h : s = tt) : (s.toList == [116, 101, 120, 116]) = true := lit_yes h
theorem tt_no {s : ByteArray} (h : ¬ s = tt) : (s.toList == [116, 101, 120, 116]) = false := lit_no h

/-- The text of the first n parts. -/
def txt (T X : Nat → ByteArray) : Nat → List UInt8
  | 0 => []
  | n + 1 => if T n = tt then txt T X n ++ (X n).data.toList else txt T X n
theorem txt_yes {T X : Nat → ByteArray} {n : Nat} (h : T n = tt) : txt T X (n + 1) = txt T X n ++ (X n).data.toList := by
  show (if T n = tt then txt T X n ++ (X n).data.toList else txt T X n) = _
  rw [if_pos h]
theorem txt_no {T X : Nat → ByteArray} {n : Nat} (h : ¬ T n = tt) : txt T X (n + 1) = txt T X n := by
  show (if T n = tt then txt T X n ++ (X n).data.toList else txt T X n) = _
  rw [if_neg h]
theorem txt_len {T X : Nat → ByteArray} {K : Nat} : ∀ {n : Nat}, (∀ i, i < n → (X i).size ≤ K) → (txt T X n).length ≤ n * K
  | 0, _ => Nat.zero_le _
  | n + 1, h => by
    have ih := txt_len (T := T) (fun i hi => h i (by omega) : ∀ i, i < n → (X i).size ≤ K)
    have hn := h n (by omega)
    rw [Nat.succ_mul]
    by_cases ht : T n = tt
    · rw [txt_yes ht, List.length_append]
      exact Nat.add_le_add ih (by rw [Array.length_toList]; exact hn)
    · rw [txt_no ht]
      exact Nat.le_trans ih (Nat.le_add_right _ _)
theorem txt_congr {T X T' X' : Nat → ByteArray} : ∀ {n : Nat}, (∀ i, i < n → T i = T' i) → (∀ i, i < n → X i = X' i) → txt T X n = txt T' X' n
  | 0, _, _ => rfl
  | n + 1, h, k => by
    have ih := txt_congr (fun i hi => h i (by omega) : ∀ i, i < n → T i = T' i) (fun i hi => k i (by omega) : ∀ i, i < n → X i = X' i)
    show (if T n = tt then txt T X n ++ (X n).data.toList else txt T X n) = (if T' n = tt then txt T' X' n ++ (X' n).data.toList else txt T' X' n)
    rw [h n (by omega), k n (by omega), ih]

theorem builder_alloc {B b : Nat} {bs : List Value} {w : World} (h : Lib.IsBuilder 69 5 B b bs w) (o : Obj) : Lib.IsBuilder 69 5 B b bs (w.alloc o) := by
  have go : ∀ p, Lib.BuilderAt 69 5 B b p bs w → Lib.BuilderAt 69 5 B b p bs (w.alloc o) := by
    rintro p ⟨hB, v, hb, hown, hne⟩
    exact ⟨hB, v, (Lib.alloc_old _ _ _ (lt_of_heap hb)).trans hb, hown.alloc o, hne⟩
  rcases h with h | h
  · exact .inl (go _ h)
  · exact .inr (go _ h)

/-- What textOf and Text leave. -/
def TxP (T X : Nat → ByteArray) (N : Nat) (w : World) (e : Ending) (w' : World) : Prop := e = .returned (.string ⟨(txt T X N).toArray⟩) ∧ Hid (Below w.heap.size w w')
/-- The loop's relation. -/
def TxR (T X : Nat → ByteArray) (k : Nat) (w wr : World) : Prop := Lib.IsBuilder 69 5 w.heap.size w.heap.size (Lib.byteCells (txt T X k)) wr ∧ Below w.heap.size w wr

set_option maxRecDepth 100000 in
set_option maxHeartbeats 4000000 in
theorem textOf_any (g N c : Nat) (T X : Nat → ByteArray) (S : Nat → Sh) (w : World) (hrow : Row w g N T X S) (hg : g < w.heap.size) (hN : N ≤ 70000) (hX : ∀ i, i < N → (X i).size ≤ 1048576) :
    Calls Try.prog 19 #[.slice (some ⟨g, 0, none⟩) N c] w (TxP T X N w) := by
  have HROW : Hid (Row w g N T X S) := hrow
  have HX : Hid _ := hX
  clear hrow hX
  go_enter Try.func19, Try.ntmps19
  go_wp2_with fail
  go_loopw [8] (fun i wr => ∃ k : Nat, k ≤ N ∧ i = .int .i64 k ∧ Hid (TxR T X k w wr)) (fun i _ => N - (intOf i).toNat)
  case atStart => exact ⟨0, Nat.zero_le _, rfl, Lib.fresh_isBuilder 69 5 w, (Below.refl _ _).alloc (Nat.le_refl _) _⟩
  case round =>
  obtain ⟨k, hk, rfl, HR⟩ := hrel
  by_cases hlt : k < N
  case neg =>
    obtain rfl : N = k := by omega
    clear hlt hk
    go_wp2_with fail
    refine (string_any w.heap.size w.heap.size (txt T X N) wr HR.out.1 HR.out.2.size).mono ?_
    rintro e w1 ⟨rfl, HB1⟩
    go_wp2_with fail
    go_ret
    exact ⟨rfl, HR.out.2.trans HB1.out⟩
  have HBW : Hid (Below w.heap.size w wr) := HR.out.2
  have hc : ∀ j, j < 15 → wr.cell? ⟨g, k * 15 + j, none⟩ = (pc (T k) (X k) (S k))[j]? := fun j hj => (HBW.out.cell hg).trans (HROW.out k j hlt hj)
  have y0 : wr.cell? ⟨g, k * 15, none⟩ = some (.string (T k)) := hc 0 (by omega)
  have y1 : wr.cell? ⟨g, k * 15 + 1, none⟩ = some (.string (X k)) := hc 1 (by omega)
  have y2 : wr.cell? ⟨g, k * 15 + 2, none⟩ = some (.string (S k).st) := hc 2 (by omega)
  have y3 : wr.cell? ⟨g, k * 15 + 3, none⟩ = some (.string (S k).tn) := hc 3 (by omega)
  have y4 : wr.cell? ⟨g, k * 15 + 4, none⟩ = some (.string (S k).tc) := hc 4 (by omega)
  have y5 : wr.cell? ⟨g, k * 15 + 5, none⟩ = some (.slice (S k).a1 (S k).n1 (S k).c1) := hc 5 (by omega)
  have y6 : wr.cell? ⟨g, k * 15 + 6, none⟩ = some (.slice (S k).a2 (S k).n2 (S k).c2) := hc 6 (by omega)
  have y7 : wr.cell? ⟨g, k * 15 + 7, none⟩ = some (.string (S k).et) := hc 7 (by omega)
  have y8 : wr.cell? ⟨g, k * 15 + 8, none⟩ = some (.pointer (S k).q) := hc 8 (by omega)
  have y9 : wr.cell? ⟨g, k * 15 + 9, none⟩ = some (.int .i64 0) := hc 9 (by omega)
  have y10 : wr.cell? ⟨g, k * 15 + 10, none⟩ = some (.string { data := #[] }) := hc 10 (by omega)
  have y11 : wr.cell? ⟨g, k * 15 + 11, none⟩ = some (.slice none 0 0) := hc 11 (by omega)
  have y12 : wr.cell? ⟨g, k * 15 + 12, none⟩ = some (.bool false) := hc 12 (by omega)
  have y13 : wr.cell? ⟨g, k * 15 + 13, none⟩ = some (.pointer none) := hc 13 (by omega)
  have y14 : wr.cell? ⟨g, k * 15 + 14, none⟩ = some (.pointer none) := hc 14 (by omega)
  clear hc
  by_cases h : T k = tt
  · have hd := tt_yes h
    have HH : Hid _ := h
    clear h
    go_wp2_with fail
    have HL : Hid ((Lib.byteCells (txt T X k)).length + (X k).size ≤ 140737488355328) := by
      have h1 := txt_len (T := T) (fun i hi => HX.out i (by omega) : ∀ i, i < k → (X i).size ≤ 1048576)
      have h2 := HX.out k hlt
      rw [Lib.byteCells_length]
      show _ ≤ _
      omega
    refine (writeString_any w.heap.size w.heap.size (Lib.byteCells (txt T X k)) (X k) _ (builder_alloc HR.out.1 _) HL.out (by have := HBW.out.size; simp; omega)).mono ?_
    rintro e w1 ⟨rfl, HW⟩
    have HR1 : Hid (TxR T X (k + 1) w w1) := by
      refine ⟨?_, (HBW.out.alloc HBW.out.size _).trans HW.out.2⟩
      rw [txt_yes HH.out, Lib.byteCells_append]
      exact HW.out.1
    clear HW HR HBW HL y0 y1 y2 y3 y4 y5 y6 y7 y8 y9 y10 y11 y12 y13 y14
    go_wp2_with fail
    exact ⟨⟨k + 1, by omega, by go_num, HR1⟩, by simp [intOf]; omega⟩
  · have hd := tt_no h
    have HH : Hid _ := h
    clear h
    go_wp2_with fail
    exact ⟨⟨k + 1, by omega, by go_num, by rw [txt_no HH.out]; exact builder_alloc HR.out.1 _, HBW.out.alloc HBW.out.size _⟩, by simp [intOf]; omega⟩

set_option maxHeartbeats 1000000 in
theorem text_any (M g N c : Nat) (T X : Nat → ByteArray) (S : Nat → Sh) (w : World) (hm : w.cell? ⟨M, 9, none⟩ = some (.slice (some ⟨g, 0, none⟩) N c)) (hrow : Row w g N T X S) (hg : g < w.heap.size) (hN : N ≤ 70000) (hX : ∀ i, i < N → (X i).size ≤ 1048576) :
    Calls Try.prog 13 #[.pointer (some ⟨M, 0, none⟩)] w (TxP T X N w) := by
  have HROW : Hid (Row w g N T X S) := hrow
  have HX : Hid _ := hX
  clear hrow hX
  go_enter Try.func13, Try.ntmps13
  go_wp2_with fail
  refine (textOf_any g N c T X S w HROW.out hg hN HX.out).mono ?_
  rintro e w1 ⟨rfl, HB1⟩
  go_wp2_with fail
  go_ret
  exact ⟨rfl, HB1⟩
end Go.Proofs.Qxb6616796a
