import Derived.Test.Qxb6616796aB0
namespace Go.Proofs.Qxb6616796a
open Go.RowKit

/-- 'step-start'. -/
def ss : ByteArray := { data := #[115, 116, 101, 112, 45, 115, 116, 97, 114, 116] }
/-- Just behind the last step-start of the first n parts. -/
def lastStep (T : Nat → ByteArray) : Nat → Nat
  | 0 => 0
  | n + 1 => if T n = ss then n + 1 else lastStep T n
theorem lastStep_no {T : Nat → ByteArray} {j : Nat} (h : ¬ T j = ss) : lastStep T (j + 1) = lastStep T j := by
  show (if T j = ss then j + 1 else lastStep T j) = _
  rw [if_neg h]
theorem lastStep_le (T : Nat → ByteArray) : ∀ n, lastStep T n ≤ n
  | 0 => Nat.le_refl _
  | n + 1 => by
    unfold lastStep
    split
    · exact Nat.le_refl _
    · exact Nat.le_succ_of_le (lastStep_le T n)

theorem lit_yes {s : ByteArray} {l : List UInt8} (h : s = ⟨l.toArray⟩) : (s.toList == l) = true := by
  rw [ByteArray.toList_eq, h]
  simp
theorem lit_no {s : ByteArray} {l : List UInt8} (h : ¬ s = ⟨l.toArray⟩) : (s.toList == l) = false := by
  rw [ByteArray.toList_eq]
  refine Bool.eq_false_iff.2 (fun hh => h ?_)
  have := eq_of_beq hh
  cases s with
  | mk d => simp only [ByteArray.mk.injEq] at this ⊢; rw [← this]
theorem ss_yes {s : ByteArray} (h : s = ss) : (s.toList == [115, 116, 101, 112, 45, 115, 116, 97, 114, 116]) = true := lit_yes h
theorem ss_no {s : ByteArray} (h : ¬ s = ss) : (s.toList == [115, 116, 101, 112, 45, 115, 116, 97, 114, 116]) = false := lit_no h

def SsP (T : Nat → ByteArray) (N : Nat) (w : World) (e : Ending) (w' : World) : Prop := e = .returned (.int .i64 (lastStep T N : Int)) ∧ w = w'

set_option maxRecDepth 100000 in
set_option maxHeartbeats 4000000 in
theorem stepStart_any (M g N c : Nat) (T : Nat → ByteArray) (w : World) (hm : w.cell? ⟨M, 9, none⟩ = some (.slice (some ⟨g, 0, none⟩) N c)) (hN : N ≤ 4611686018427387904)
    (hrow : ∀ i, i < N → w.cell? ⟨g, i * 15, none⟩ = some (.string (T i))) : Calls Try.prog 18 #[.pointer (some ⟨M, 0, none⟩)] w (SsP T N w) := by
  have HROW : Hid _ := hrow
  clear hrow
  go_enter Try.func18, Try.ntmps18
  go_wp2_with fail
  go_loop [3] (fun i => ∃ k : Nat, k ≤ N ∧ i = .int .i64 ((k : Int) - 1) ∧ Hid (lastStep T N = lastStep T k)) (fun i => (intOf i + 1).toNat)
  case atStart => exact ⟨N, Nat.le_refl _, rfl, rfl⟩
  case round =>
  obtain ⟨k, hk, rfl, HE⟩ := hrel
  cases k with
  | zero =>
    go_wp2_with fail
    go_ret
    exact ⟨by rw [HE.out]; rfl, rfl⟩
  | succ j =>
    have hj : ((j + 1 : Nat) : Int) - 1 = (j : Int) := by omega
    rw [hj]
    clear hj
    have y0 : w.cell? ⟨g, j * 15, none⟩ = some (.string (T j)) := HROW.out j (by omega)
    have hjN : j < N := by omega
    by_cases h : T j = ss
    · have hd := ss_yes h
      have HH : Hid _ := h
      clear h
      go_wp2_with fail
      go_ret
      exact ⟨by rw [HE.out]; unfold lastStep; rw [if_pos HH.out]; rfl, rfl⟩
    · have hd := ss_no h
      have HH : Hid _ := h
      clear h
      go_wp2_with fail
      exact ⟨⟨j, by omega, rfl, HE.out.trans (lastStep_no HH.out)⟩, by simp [intOf]⟩

set_option maxHeartbeats 1000000 in
theorem zzStepStart_any (M g N c : Nat) (T : Nat → ByteArray) (w : World) (hm : w.cell? ⟨M, 9, none⟩ = some (.slice (some ⟨g, 0, none⟩) N c)) (hN : N ≤ 4611686018427387904)
    (hrow : ∀ i, i < N → w.cell? ⟨g, i * 15, none⟩ = some (.string (T i))) : Calls Try.prog 10 #[.pointer (some ⟨M, 0, none⟩)] w (SsP T N w) := by
  have HROW : Hid _ := hrow
  clear hrow
  go_enter Try.func10, Try.ntmps10
  go_wp2_with fail
  refine (stepStart_any M g N c T w hm hN HROW.out).mono ?_
  rintro e w' ⟨rfl, rfl⟩
  go_wp2_with fail
  go_ret
  exact ⟨rfl, rfl⟩

/-- What hasStepStart answers. -/
def HsP (x : Pts) (w : World) (e : Ending) (w' : World) : Prop := ∃ r : Bool, e = .returned (.bool r) ∧ w = w' ∧ Hid (r = false → ∀ i, i < x.n → (x.f i).ty ≠ ss)

set_option maxRecDepth 100000 in
set_option maxHeartbeats 4000000 in
theorem hasStepStart_any (x : Pts) (w : World) (hx : x.In w w.heap.size) : Calls Try.prog 8 #[.slice x.a x.n x.c] w (HsP x w) := by
  obtain ⟨a, n, c, f⟩ := x
  obtain ⟨⟨hm, hr⟩, hel⟩ := hx
  unfold maxLen at hm
  dsimp only at hm hr
  clear hel
  have HR : Hid _ := hr
  clear hr
  go_enter Try.func8, Try.ntmps8
  go_wp2_with fail
  go_loop [3] (fun i => ∃ k : Nat, k ≤ n ∧ i = .int .i64 k ∧ Hid (∀ i, i < k → (f i).ty ≠ ss)) (fun i => n - (intOf i).toNat)
  case atStart => exact ⟨0, Nat.zero_le _, rfl, fun i hi => absurd hi (by omega)⟩
  case round =>
  obtain ⟨k, hk, rfl, HE⟩ := hrel
  by_cases hlt : k < n
  case neg =>
    obtain rfl : n = k := by omega
    clear hlt hk
    go_wp2_with fail
    go_ret
    exact ⟨false, rfl, rfl, fun _ => HE.out⟩
  obtain ⟨b, off, rfl, hb, hc⟩ := HR.out (by omega)
  have y0 : w.cell? ⟨b, off + k * 9, none⟩ = some (.string (f k).ty) := hc k 0 hlt (by omega)
  clear hc
  by_cases h : (f k).ty = ss
  · have hd := ss_yes h
    clear h
    go_wp2_with fail
    go_ret
    exact ⟨true, rfl, rfl, fun h => by cases h⟩
  · have hd := ss_no h
    have HH : Hid _ := h
    clear h
    go_wp2_with fail
    exact ⟨⟨k + 1, by omega, by go_num, fun i hi => by
      by_cases hik : i = k
      · subst hik; exact HH.out
      · exact HE.out i (by omega)⟩, by simp [intOf]; omega⟩
end Go.Proofs.Qxb6616796a
