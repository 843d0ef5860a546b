import Derived.Test.Qxb6616574aW1
import Derived.Deep.RegionHeld3
import Derived.Deep.DrawnRows
import Derived.Deep.QuietTactic
import Derived.BigQuiet
namespace Go.Proofs.Qxb6616574a
open Go.RowKit

theorem wrapEq (x : Int) : IntKind.i64.wrap x = wrap64 x := by rw [IntKind.wrap_i64, wrap64]
theorem wrap_add (a b c : Int) : wrap64 (wrap64 (a + b) + c) = wrap64 (a + (b + c)) := by unfold wrap64; omega
theorem wrap_wrap (a : Int) : wrap64 (wrap64 a) = wrap64 a := by unfold wrap64; omega

/-- The encoder, sizing, lies in block E; z has been counted. -/
def EncS (E : Nat) (w : World) (z : Int) : Prop := w.heap[E]? = some (.cells #[.slice none 0 0, .int .i64 z, .bool true] 72 (0, 0)) ∧ wrap64 z = z

theorem EncS.c1 {E : Nat} {w : World} {z : Int} (h : EncS E w z) : w.cell? ⟨E, 1, none⟩ = some (.int .i64 z) := by
  have h := h.1; simp [World.cell?, h]
theorem EncS.c2 {E : Nat} {w : World} {z : Int} (h : EncS E w z) : w.cell? ⟨E, 2, none⟩ = some (.bool true) := by
  have h := h.1; simp [World.cell?, h]
theorem EncS.f1 {E : Nat} {w : World} {z : Int} (h : EncS E w z) : w.frozen? ⟨E, 1, none⟩ = false := by
  have h := h.1; simp [World.frozen?, h]
theorem EncS.put {E : Nat} {w : World} {z : Int} (h : EncS E w z) (z' : Int) (hz : wrap64 z' = z') : EncS E (w.setCell ⟨E, 1, none⟩ (.int .i64 z')) z' := by
  have h := h.1
  refine ⟨?_, hz⟩
  simp [World.setCell, Array.getElem?_modify, h]
theorem EncS.drew {E : Nat} {w : World} {z : Int} (h : EncS E w z) : EncS E w.drew z := h

/-- n more has been counted. -/
def EncR (E : Nat) (z n : Int) (w w' : World) : Prop := ∃ z', Hid (z' = wrap64 (z + n)) ∧ EncS E w' z' ∧ Below E w w'
/-- What a call that adds n to the count leaves. -/
def EncP (E : Nat) (z n : Int) (w : World) (e : Ending) (w' : World) : Prop := e = .returned (.tuple #[]) ∧ EncR E z n w w'

theorem EncR.of {E : Nat} {z n m : Int} {w w' : World} (h : EncR E z n w w') (hn : m = n) : EncR E z m w w' := hn ▸ h
theorem EncR.start {E : Nat} {z : Int} {w : World} (h : EncS E w z) : EncR E z 0 w w := ⟨z, by show _ = _; rw [Int.add_zero, h.2], h, Below.refl _ _⟩
theorem EncR.drew {E : Nat} {z n : Int} {w w' : World} (h : EncR E z n w w') : EncR E z n w w'.drew := by
  obtain ⟨z', h1, h2, h3⟩ := h
  exact ⟨z', h1, h2.drew, h3.drew⟩
/-- Two steps. -/
theorem EncR.next {E : Nat} {z n z1 m : Int} {w w1 w2 : World} (h1 : Hid (z1 = wrap64 (z + n))) (hb : Below E w w1) (h2 : EncR E z1 m w1 w2) : EncR E z (n + m) w w2 := by
  obtain ⟨z2, hz2, hE2, hb2⟩ := h2
  refine ⟨z2, ?_, hE2, hb.trans hb2⟩
  have h1 := h1.out
  have h2 := hz2.out
  subst h1 h2
  exact wrap_add _ _ _
theorem EncR.set {E : Nat} {z n : Int} {w : World} (h : EncS E w z) : EncR E z n w (w.setCell ⟨E, 1, none⟩ (.int .i64 (wrap64 (z + n)))) :=
  ⟨_, rfl, h.put _ (wrap_wrap _), Below.setCell (p := ⟨E, 1, none⟩) (Below.refl _ _) (Nat.le_refl E) _⟩

set_option maxHeartbeats 400000 in
theorem raw_any (E : Nat) (z : Int) (a : Option Addr) (n c : Nat) (w : World) (hE : EncS E w z) :
    Calls Try.prog 42 #[.pointer (some ⟨E, 0, none⟩), .slice a n c] w (EncP E z n w) := by
  have h1 := hE.c1
  have h2 := hE.c2
  have hf := hE.f1
  have HE : Hid (EncS E w z) := hE
  clear hE
  go_enter Try.func42, Try.ntmps42
  go_wp2
  refine bodyPost_ret (results_none rfl _ _ _) rfl ?_
  exact ⟨rfl, EncR.set HE.out⟩

set_option maxHeartbeats 400000 in
theorem rawString_any (E : Nat) (z : Int) (s : ByteArray) (w : World) (hE : EncS E w z) :
    Calls Try.prog 41 #[.pointer (some ⟨E, 0, none⟩), .string s] w (EncP E z s.size w) := by
  have h1 := hE.c1
  have h2 := hE.c2
  have hf := hE.f1
  have HE : Hid (EncS E w z) := hE
  clear hE
  go_enter Try.func41, Try.ntmps41
  go_wp2
  refine bodyPost_ret (results_none rfl _ _ _) rfl ?_
  exact ⟨rfl, EncR.set HE.out⟩

set_option maxHeartbeats 400000 in
theorem uvarint_any (E : Nat) (z v : Int) (w : World) (h0 : 0 ≤ v) (hv : v < 18446744073709551616) (hE : EncS E w z) :
    Calls Try.prog 39 #[.pointer (some ⟨E, 0, none⟩), .int .u64 v] w (EncP E z (Pl.vl v) w) := by
  have h1 := hE.c1
  have h2 := hE.c2
  have hf := hE.f1
  have HE : Hid (EncS E w z) := hE
  clear hE
  obtain ⟨t, ht⟩ : ∃ t, t = Pl.vl v := ⟨_, rfl⟩
  have hc := varintLen_any v h0 hv
  rw [← ht] at hc ⊢
  have HC : Hid (∀ w, Calls Try.prog 29 #[.int .u64 v] w fun e w' => e = .returned (.int .i64 t) ∧ w' = w) := hc
  clear ht hc h0 hv
  go_enter Try.func39, Try.ntmps39
  go_wp2
  go_region_with ((go_at_call 29; refine (HC.out _).mono ?_; rintro e w' ⟨rfl, rfl⟩))
  all_goals go_wp2
  all_goals (refine bodyPost_ret (results_none rfl _ _ _) rfl ?_)
  all_goals (rw [wrapEq]; exact ⟨rfl, (EncR.set HE.out).drew⟩)
end Go.Proofs.Qxb6616574a
