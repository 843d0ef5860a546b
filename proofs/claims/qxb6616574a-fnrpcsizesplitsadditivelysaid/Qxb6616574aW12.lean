import Derived.Test.Qxb6616574aW11
namespace Go.Proofs.Qxb6616574a
open Go.RowKit

theorem enc_new (w : World) : EncS w.heap.size (w.alloc (.cells #[.slice none 0 0, .int .i64 0, .bool true] 72)) 0 := by
  refine ⟨?_, by unfold wrap64; omega⟩
  show (w.heap.push _)[w.heap.size]? = _
  simp

set_option maxHeartbeats 1000000 in
theorem size_any (b : Nat) (N : Int) (w : World)
    (henc : ∀ w0, EncS w.heap.size w0 0 → Below w.heap.size w w0 → Calls Try.prog 16 #[.pointer (some ⟨b, 0, none⟩), .pointer (some ⟨w.heap.size, 0, none⟩)] w0 (EncP w.heap.size 0 N w0)) :
    Calls Try.prog 8 #[.pointer (some ⟨b, 0, none⟩)] w fun e w' => ∃ r, Hid (r = wrap64 N) ∧ e = .returned (.int .i64 r) ∧ Below w.heap.size w w' := by
  have HC : Hid _ := henc
  clear henc
  go_enter Try.func8, Try.ntmps8
  go_wp2_with fail
  have hE : EncS w.heap.size (w.alloc (.cells #[.slice none 0 0, .int .i64 0, .bool true] 72)) 0 := enc_new w
  have hB : Below w.heap.size w (w.alloc (.cells #[.slice none 0 0, .int .i64 0, .bool true] 72)) := (Below.refl _ _).alloc (Nat.le_refl _) _
  have HE : Hid _ := hE
  have HB : Hid _ := hB
  clear hE hB
  refine (HC.out _ HE.out HB.out).mono ?_
  rintro e w1 ⟨rfl, hr⟩
  obtain ⟨z1, hz1, HE1, HB1⟩ : ∃ x, Hid (x = wrap64 (0 + N)) ∧ Hid (EncS w.heap.size w1 x) ∧ Hid (Below w.heap.size _ w1) := hr
  have q1 := HE1.out.c1
  have HB2 : Hid (Below w.heap.size w w1) := HB.out.trans HB1.out
  clear HB HB1
  go_wp2
  go_ret
  exact ⟨z1, by have := hz1.out; rwa [Int.zero_add] at this, rfl, HB2.out⟩
end Go.Proofs.Qxb6616574a
