import Derived.Test.Qxb6616574aW4
namespace Go.Proofs.Qxb6616574a
open Go.RowKit

/-- A []byte's value: where it begins, its length, its capacity. -/
structure Bs where
  a : Option Addr
  n : Nat
  c : Nat
def Bs.val (b : Bs) : Value := .slice b.a b.n b.c

/-- A slice of elements of 'size' cells each: element i's cell j holds V i j. -/
def RowAt (w : World) (B : Nat) (a : Option Addr) (n size : Nat) (V : Nat → Nat → Value) : Prop :=
  n ≤ maxLen ∧ (0 < n → ∃ b off, a = some ⟨b, off, none⟩ ∧ b < B ∧ ∀ i j, i < n → j < size → w.cell? ⟨b, off + i * size + j, none⟩ = some (V i j))

theorem RowAt.below {w w' : World} {B : Nat} {a : Option Addr} {n size : Nat} {V : Nat → Nat → Value} (h : RowAt w B a n size V) (hb : Below B w w') : RowAt w' B a n size V := by
  refine ⟨h.1, fun h0 => ?_⟩
  obtain ⟨b, off, ha, hlt, hc⟩ := h.2 h0
  exact ⟨b, off, ha, hlt, fun i j hi hj => (hb.cell hlt).trans (hc i j hi hj)⟩

theorem RowAt.more {w : World} {B B' : Nat} {a : Option Addr} {n size : Nat} {V : Nat → Nat → Value} (h : RowAt w B a n size V) (hB : B ≤ B') : RowAt w B' a n size V := by
  refine ⟨h.1, fun h0 => ?_⟩
  obtain ⟨b, off, ha, hlt, hc⟩ := h.2 h0
  exact ⟨b, off, ha, Nat.lt_of_lt_of_le hlt hB, hc⟩

/-- The sum of f over the first k. -/
def Pl.sum (f : Nat → Int) : Nat → Int
  | 0 => 0
  | k + 1 => Pl.sum f k + f k

set_option maxHeartbeats 1000000 in
theorem ids_any (E : Nat) (z num : Int) (a : Option Addr) (n c : Nat) (f : Nat → Bs) (w : World) (hE : EncS E w z) (hn : num = 1 ∨ num = 2 ∨ num = 3 ∨ num = 4 ∨ num = 5 ∨ num = 6)
    (hr : RowAt w E a n 1 (fun i _ => (f i).val)) (hs : ∀ i, i < n → (f i).n ≤ maxLen) :
    Calls Try.prog 43 #[.pointer (some ⟨E, 0, none⟩), .int .i64 num, .slice a n c] w (EncP E z (Pl.sum (fun i => Pl.field (f i).n) n) w) := by
  obtain ⟨z0, hz0, HE0, HB0⟩ : ∃ x, Hid (x = wrap64 (z + 0)) ∧ Hid (EncS E w x) ∧ Hid (Below E w w) := EncR.start hE
  clear hE
  have HN : Hid _ := hn
  clear hn
  obtain ⟨hm, hr⟩ := hr
  unfold maxLen at hm
  have HS : Hid (∀ i, i < n → (f i).n ≤ maxLen) := hs
  clear hs
  obtain ⟨S, hS⟩ : ∃ S, S = Pl.sum (fun i => Pl.field (f i).n) := ⟨_, rfl⟩
  rw [← hS]
  have HS0 : Hid (S 0 = 0) := by rw [hS]; rfl
  have HSS : Hid (∀ k, S (k + 1) = S k + Pl.field (f k).n) := by rw [hS]; exact fun _ => rfl
  clear hS
  by_cases h0 : 0 < n
  · obtain ⟨b, off, rfl, hb, hc⟩ := hr h0
    have HCel : Hid (∀ i, i < n → w.cell? ⟨b, off + i, none⟩ = some (.slice (f i).a (f i).n (f i).c)) := fun i hi => by simpa [Bs.val] using hc i 0 hi (by omega)
    clear hr hc
    go_enter Try.func43, Try.ntmps43
    go_wp2_with fail
    go_loopw [7, 10] (fun _ i wr => ∃ k : Nat, k ≤ n ∧ i = .int .i64 k ∧ Hid (EncR E z (S k) w wr)) (fun _ i _ => n - (intOf i).toNat)
    case atStart => exact ⟨0, Nat.zero_le _, rfl, EncR.of ⟨z0, hz0, HE0.out, HB0.out⟩ HS0.out⟩
    case round =>
      obtain ⟨k, hk, rfl, z1, hz1, hE1, hB1⟩ := hrel
      obtain ⟨w1, rfl⟩ : ∃ w1, w1 = wr := ⟨_, rfl⟩
      have HE1 : Hid _ := hE1
      have HB1 : Hid _ := hB1
      clear hE1 hB1
      by_cases hlt : k < n
      · have hcell : w1.cell? ⟨b, off + k, none⟩ = some (.slice (f k).a (f k).n (f k).c) := (HB1.out.cell hb).trans (HCel.out k hlt)
        go_wp2_with fail
        refine (bytesField_any E z1 num _ _ _ (HS.out k hlt) w1 HE1.out HN.out).mono ?_
        rintro e w2 ⟨rfl, hr2⟩
        obtain ⟨z2, hz2, HE2, HB2⟩ : ∃ x, Hid (x = wrap64 (z + _)) ∧ Hid (EncS E w2 x) ∧ Hid (Below E w w2) := EncR.next hz1 HB1.out hr2
        clear hr2
        go_wp2
        go_roundw
        case rel => exact ⟨k + 1, by omega, by go_num, EncR.of ⟨z2, hz2, HE2.out, HB2.out⟩ (HSS.out k)⟩
        case measure => simp [intOf]; omega
      · obtain rfl : k = n := by omega
        go_wp2
        go_end0
        exact ⟨rfl, z1, hz1, HE1.out, HB1.out⟩
  · obtain rfl : n = 0 := by omega
    clear hr
    go_enter Try.func43, Try.ntmps43
    go_wp2_with fail
    refine wp_loop_rounds 1 ?_
    rw [rounds_succ]
    go_wp2
    go_end0
    exact ⟨rfl, EncR.of ⟨z0, hz0, HE0.out, HB0.out⟩ HS0.out⟩
end Go.Proofs.Qxb6616574a
