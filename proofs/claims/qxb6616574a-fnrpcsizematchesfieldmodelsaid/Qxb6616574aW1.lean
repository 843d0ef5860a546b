import Derived.Test.Qxb6616574aProg
import Derived.Test.Qxb6616574aPlain
import Derived.WalkKit
import Derived.WalkSpells
import Derived.WalkLawsBesides
namespace Go.Proofs.Qxb6616574a
open Go.RowKit

theorem ret_int {k : IntKind} {a b : Int} (h : a = b) : Ending.returned (.int k a) = .returned (.int k b) := by rw [h]

set_option maxHeartbeats 400000 in
theorem varintLen_any (v : Int) (h0 : 0 ≤ v) (h1 : v < 18446744073709551616) (w : World) :
    Calls Try.prog 29 #[.int .u64 v] w fun e w' => e = .returned (.int .i64 (Pl.vl v)) ∧ w' = w := by
  obtain ⟨t, ht⟩ : ∃ t, t = Pl.vl v := ⟨_, rfl⟩
  have HT : Hid (t = Pl.vl v) := ht
  have ht10 := Pl.vl_pos v
  rw [← ht] at ht10 ⊢
  clear ht
  go_enter Try.func29, Try.ntmps29
  go_wp2
  go_loop [0, 3] (fun a b => ∃ x m : Int, a = .int .u64 x ∧ b = .int .i64 m ∧ 0 ≤ x ∧ x ≤ v ∧ 1 ≤ m ∧ m ≤ 10 ∧ Hid (t = m - 1 + Pl.vl x)) (fun a _ => (intOf a).toNat)
  case atStart => exact ⟨v, 1, rfl, rfl, h0, by omega, by omega, by omega, by rw [HT.out]; show _ = _; omega⟩
  case round =>
    obtain ⟨x, m, rfl, rfl, hx0, hx1, hm1, hm2, HR⟩ := hrel
    by_cases hlt : 128 ≤ x
    · have hs := Pl.vl_step x hlt (by omega)
      have hp := Pl.vl_pos (x / 128)
      have hm3 : m < 10 := by have := HR.out; omega
      have HR' : Hid (t = (m + 1) - 1 + Pl.vl (x / 128)) := by have := HR.out; show _ = _; omega
      clear hs hp HR
      go_wp2
      go_round
      case rel => exact ⟨x / 128, m + 1, by first | rfl | skip, rfl, by omega, by omega, by omega, by omega, HR'⟩
      case measure => simp [intOf]; omega
    · have hs := Pl.vl1 x (by omega)
      have : t = m := by have := HR.out; omega
      clear hs HR
      subst this
      go_wp2
      go_ret
      exact ⟨rfl, rfl⟩
end Go.Proofs.Qxb6616574a
