import Derived.Test.Qxb6616692aProg
import Derived.Test.Qxb6616692aV14
import Derived.WalkSpells
import Derived.WalkLawsBesides
import Derived.Laws.Externs
namespace Go.Proofs.Qxb6616692a
open Ieee Go.RowKit

/-- A float is answered, nothing is written. -/
def FlP (y : Nat) (w : World) (e : Ending) (w' : World) : Prop := e = .returned (.float .f64 y) ∧ w = w'

theorem ceil_ext (x : Nat) (a : Rat) (hx : Is x a) (w : World) : (callFunc 40 #[.float .f64 x]).run Try.prog w = .ok (.value (.float .f64 (cW x))) w := by
  rw [run_callFunc_extern Try.func40 (by kernel_rfl) (by kernel_rfl) (by kernel_rfl) (e := Extern.MathFloor.toIntegral "math.archCeil" .up) (by kernel_rfl)]
  obtain ⟨s, m, e, hr, _⟩ := hx
  have hd : (Extern.MathFloor.toIntegral "math.archCeil" .up #[.float .f64 x]).run Try.prog w = .ok (.float .f64 (cW x)) w := by
    delta Extern.MathFloor.toIntegral
    show Sem.run Try.prog (match FloatKind.f64.decode x with | .nan s t => _ | d => _) w = _
    have hr' : FloatKind.f64.decode x = .number s m e := hr
    rw [hr']
    unfold cW
    rw [hr]
    rfl
  rw [hd]
  rfl

set_option maxHeartbeats 1000000 in
theorem ceil_any (x : Nat) (a : Rat) (hx : Is x a) (w : World) : Calls Try.prog 37 #[.float .f64 x] w (FlP (cW x) w) := by
  have h := ceil_ext x a hx
  go_enter Try.func37, Try.ntmps37
  go_wp2_with fail
  go_ret
  exact ⟨rfl, rfl⟩

theorem log_ext (x res : Nat) (h : ∀ (P : Program) (w : World), (Extern.MathLog.archLog #[.float .f64 x]).run P w = .ok (.float .f64 res) w) (w : World) : (callFunc 48 #[.float .f64 x]).run Try.prog w = .ok (.value (.float .f64 res)) w := by
  rw [run_callFunc_extern Try.func48 (by kernel_rfl) (by kernel_rfl) (by kernel_rfl) (e := Extern.MathLog.archLog) (by kernel_rfl), h]
  rfl

set_option maxHeartbeats 1000000 in
theorem log_any' (x res : Nat) (h : ∀ (P : Program) (w : World), (Extern.MathLog.archLog #[.float .f64 x]).run P w = .ok (.float .f64 res) w) (w : World) : Calls Try.prog 45 #[.float .f64 x] w (FlP res w) := by
  have h := log_ext x res h
  go_enter Try.func45, Try.ntmps45
  go_wp2_with fail
  go_ret
  exact ⟨rfl, rfl⟩

set_option maxHeartbeats 1000000 in
theorem log10_any {x sw : Nat} {L t : Rat} (h : Step x L sw t) (w : World) : Calls Try.prog 38 #[.float .f64 x] w (FlP sw w) := by
  obtain ⟨res, h1, h2⟩ := h.run
  have hm := fun w => run_float_arith (P := Try.prog) w .mul 23 .f64 res 4601495173785380110 sw h2
  have H1 : Hid _ := h1
  clear h1 h2 h
  have h43 : ∀ w, Calls Try.prog 43 #[.float .f64 x] w (FlP sw w) := by
    intro w
    go_enter Try.func43, Try.ntmps43
    go_wp2_with fail
    refine (log_any' x res H1.out w).mono ?_
    rintro e w' ⟨rfl, rfl⟩
    go_wp2_with fail
    go_ret
    exact ⟨rfl, rfl⟩
  have H43 : Hid _ := h43
  clear h43 hm
  go_enter Try.func38, Try.ntmps38
  go_wp2_with fail
  refine (H43.out w).mono ?_
  rintro e w' ⟨rfl, rfl⟩
  go_wp2_with fail
  go_ret
  exact ⟨rfl, rfl⟩

end Go.Proofs.Qxb6616692a
