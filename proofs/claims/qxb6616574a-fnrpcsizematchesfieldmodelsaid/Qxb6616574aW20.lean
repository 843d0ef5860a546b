import Derived.Test.Qxb6616574aW14
namespace Go.Proofs.Qxb6616574a
open Go.RowKit

/-- The publications as they came in: nil, or a message of memory below B. -/
def PubIn (w : World) (B : Nat) (P : Nat → Option Addr) (mf : Nat → Msg) (n : Nat) : Prop :=
  ∀ i, i < n → ∀ a, P i = some a → ∃ b o, a = ⟨b, o, none⟩ ∧ b < B ∧ (∀ j, j < 6 → w.cell? ⟨b, o + j, none⟩ = some ((mf i).cell j)) ∧ (mf i).Ok
/-- It answers a bool; yes says S. -/
def BytesPost (w : World) (S : Prop) (e : Ending) (w' : World) : Prop := ∃ b, e = .returned (.bool b) ∧ w = w' ∧ (b = true → S)
/-- It answers some int. -/
def IntPost (w : World) (e : Ending) (w' : World) : Prop := ∃ z : Int, e = .returned (.int .i64 z) ∧ w = w'

theorem small_step {f : Nat → Pr} {k : Nat} (h : ∀ i, i < k → (f i).pn ≤ 1048576) (hk : (f k).pn ≤ 1048576) : Hid (∀ i, i < k + 1 → (f i).pn ≤ 1048576) := by
  intro i hi
  by_cases he : i = k
  · rw [he]; exact hk
  · exact h i (by omega)

end Go.Proofs.Qxb6616574a
