/-
  THE PLAIN FUNCTIONS of the size laws: no Go in sight.
-/
import Derived.WalkKit
namespace Go.Proofs.Qxb6616574a
namespace Pl

/-- The length of a varint, by thresholds. -/
def vl (v : Int) : Int :=
  if v < 128 then 1 else if v < 16384 then 2 else if v < 2097152 then 3 else if v < 268435456 then 4 else if v < 34359738368 then 5
  else if v < 4398046511104 then 6 else if v < 562949953421312 then 7 else if v < 72057594037927936 then 8 else if v < 9223372036854775808 then 9 else 10

theorem vl1 (v : Int) (h1 : v < 128) : vl v = 1 := by unfold vl; rw [if_pos h1]
theorem vl2 (v : Int) (h0 : 128 ≤ v) (h1 : v < 16384) : vl v = 2 := by unfold vl; rw [if_neg (by omega), if_pos h1]
theorem vl3 (v : Int) (h0 : 16384 ≤ v) (h1 : v < 2097152) : vl v = 3 := by unfold vl; rw [if_neg (by omega), if_neg (by omega), if_pos h1]
theorem vl4 (v : Int) (h0 : 2097152 ≤ v) (h1 : v < 268435456) : vl v = 4 := by unfold vl; rw [if_neg (by omega), if_neg (by omega), if_neg (by omega), if_pos h1]
theorem vl5 (v : Int) (h0 : 268435456 ≤ v) (h1 : v < 34359738368) : vl v = 5 := by unfold vl; rw [if_neg (by omega), if_neg (by omega), if_neg (by omega), if_neg (by omega), if_pos h1]
theorem vl6 (v : Int) (h0 : 34359738368 ≤ v) (h1 : v < 4398046511104) : vl v = 6 := by unfold vl; rw [if_neg (by omega), if_neg (by omega), if_neg (by omega), if_neg (by omega), if_neg (by omega), if_pos h1]
theorem vl7 (v : Int) (h0 : 4398046511104 ≤ v) (h1 : v < 562949953421312) : vl v = 7 := by unfold vl; rw [if_neg (by omega), if_neg (by omega), if_neg (by omega), if_neg (by omega), if_neg (by omega), if_neg (by omega), if_pos h1]
theorem vl8 (v : Int) (h0 : 562949953421312 ≤ v) (h1 : v < 72057594037927936) : vl v = 8 := by unfold vl; rw [if_neg (by omega), if_neg (by omega), if_neg (by omega), if_neg (by omega), if_neg (by omega), if_neg (by omega), if_neg (by omega), if_pos h1]
theorem vl9 (v : Int) (h0 : 72057594037927936 ≤ v) (h1 : v < 9223372036854775808) : vl v = 9 := by unfold vl; rw [if_neg (by omega), if_neg (by omega), if_neg (by omega), if_neg (by omega), if_neg (by omega), if_neg (by omega), if_neg (by omega), if_neg (by omega), if_pos h1]
theorem vl10 (v : Int) (h0 : 9223372036854775808 ≤ v) : vl v = 10 := by unfold vl; rw [if_neg (by omega), if_neg (by omega), if_neg (by omega), if_neg (by omega), if_neg (by omega), if_neg (by omega), if_neg (by omega), if_neg (by omega), if_neg (by omega)]

theorem vl_step (v : Int) (h0 : 128 ≤ v) (h1 : v < 18446744073709551616) : vl v = vl (v / 128) + 1 := by
  by_cases c2 : v < 16384
  · rw [vl2 v (by omega) c2, vl1 (v / 128) (by omega)]; rfl
  by_cases c3 : v < 2097152
  · rw [vl3 v (by omega) c3, vl2 (v / 128) (by omega) (by omega)]; rfl
  by_cases c4 : v < 268435456
  · rw [vl4 v (by omega) c4, vl3 (v / 128) (by omega) (by omega)]; rfl
  by_cases c5 : v < 34359738368
  · rw [vl5 v (by omega) c5, vl4 (v / 128) (by omega) (by omega)]; rfl
  by_cases c6 : v < 4398046511104
  · rw [vl6 v (by omega) c6, vl5 (v / 128) (by omega) (by omega)]; rfl
  by_cases c7 : v < 562949953421312
  · rw [vl7 v (by omega) c7, vl6 (v / 128) (by omega) (by omega)]; rfl
  by_cases c8 : v < 72057594037927936
  · rw [vl8 v (by omega) c8, vl7 (v / 128) (by omega) (by omega)]; rfl
  by_cases c9 : v < 9223372036854775808
  · rw [vl9 v (by omega) c9, vl8 (v / 128) (by omega) (by omega)]; rfl
  rw [vl10 v (by omega), vl9 (v / 128) (by omega) (by omega)]; rfl

theorem vl_pos (v : Int) : 1 ≤ vl v ∧ vl v ≤ 10 := by
  unfold vl
  repeat' split
  all_goals decide

end Pl
end Go.Proofs.Qxb6616574a
