import Derived.Test.Qxb6616692aV18
namespace Go.Proofs.Qxb6616692a
open Ieee Go.RowKit

set_option maxRecDepth 100000 in
set_option maxHeartbeats 8000000 in
theorem law8_any (n r s : Int) (lw : Nat) (w : World) (hw : lw < 18446744073709551616) : Calls Try.prog 8 #[.int .i64 n, .float .f64 lw, .int .i64 r, .int .i64 s] w (LwP w) := by
  by_cases a1 : n < 0
  · go_enter Try.func8, Try.ntmps8
    go_wp2_with fail
    go_ret
    exact ⟨rfl, Below.refl _ _⟩
  by_cases a2 : 70368744177664 < n
  · go_enter Try.func8, Try.ntmps8
    go_wp2_with fail
    go_ret
    exact ⟨rfl, Below.refl _ _⟩
  by_cases a3 : r < -70368744177664
  · go_enter Try.func8, Try.ntmps8
    go_wp2_with fail
    go_ret
    exact ⟨rfl, Below.refl _ _⟩
  by_cases a4 : 70368744177664 < r
  · go_enter Try.func8, Try.ntmps8
    go_wp2_with fail
    go_ret
    exact ⟨rfl, Below.refl _ _⟩
  cases b1 : (FloatKind.f64.format.order lw 4607182418800017408 == some .gt || FloatKind.f64.format.order lw 4607182418800017408 == some .eq)
  · go_enter Try.func8, Try.ntmps8
    go_wp2_with fail
    go_ret
    exact ⟨rfl, Below.refl _ _⟩
  cases b2 : (FloatKind.f64.format.order lw 4786511204640096256 == some .lt || FloatKind.f64.format.order lw 4786511204640096256 == some .eq)
  · go_enter Try.func8, Try.ntmps8
    go_wp2_with fail
    go_ret
    exact ⟨rfl, Below.refl _ _⟩
  by_cases a5 : s < 0
  · go_enter Try.func8, Try.ntmps8
    go_wp2_with fail
    go_ret
    exact ⟨rfl, Below.refl _ _⟩
  by_cases a6 : 16 < s
  · go_enter Try.func8, Try.ntmps8
    go_wp2_with fail
    go_ret
    exact ⟨rfl, Below.refl _ _⟩
  exact law8_main n r s lw w (by omega) (by omega) (by omega) (by omega) (by omega) (by omega) hw b1 b2

end Go.Proofs.Qxb6616692a
