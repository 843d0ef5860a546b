import Derived.Test.Qxb6616796aB0
namespace Go.Proofs.Qxb6616796a
open Go.RowKit

/-- A bool, whichever; nothing is written. -/
def ZyP (w : World) (e : Ending) (w' : World) : Prop := ∃ b : Bool, e = .returned (.bool b) ∧ w = w'

set_option maxRecDepth 100000 in
set_option maxHeartbeats 16000000 in
theorem bytes14_any (P : Pts) (t : ByteArray) (ia : Option Addr) (il ic : Nat) (et : ByteArray) (w : World) (hP : P.In w w.heap.size) : Calls Try.prog 14 #[.slice P.a P.n P.c, .string t, .slice ia il ic, .string et] w (ZyP w) := by
  obtain ⟨aP, nP, cP, fP⟩ := P
  have HP : Hid (Pts.In ⟨aP, nP, cP, fP⟩ w w.heap.size) := hP
  have hmP := hP.row.1
  dsimp only at hmP
  unfold maxLen at hmP
  clear hP
  dsimp only
  go_enter Try.func14, Try.ntmps14
  go_wp2_with fail
  any_goals (go_ret; exact ⟨false, rfl, rfl⟩)
  go_loop [9, 10] (fun s i => ∃ (k : Nat) (z : Int), k ≤ nP ∧ i = .int .i64 k ∧ s = .int .i64 z) (fun _ i => nP - (intOf i).toNat)
  case atStart => exact ⟨0, _, Nat.zero_le _, rfl, rfl⟩
  case round =>
  obtain ⟨k, z, hk, rfl, rfl⟩ := hrel
  by_cases hlt : k < nP
  case pos =>
    as_aux_lemma =>
    obtain ⟨b, off, ha, hrb, hrc⟩ := HP.out.row.2 (Nat.lt_of_le_of_lt (Nat.zero_le k) hlt)
    have HC : Hid _ := hrc
    clear hrc
    subst ha
    have y0 : w.cell? ⟨b, off + k * 9, none⟩ = some (.string (fP k).ty) := HC.out k 0 hlt (by omega)
    have y1 : w.cell? ⟨b, off + k * 9 + 1, none⟩ = some (.string (fP k).tx) := HC.out k 1 hlt (by omega)
    have y2 : w.cell? ⟨b, off + k * 9 + 2, none⟩ = some (.string (fP k).st) := HC.out k 2 hlt (by omega)
    have y3 : w.cell? ⟨b, off + k * 9 + 3, none⟩ = some (.string (fP k).tn) := HC.out k 3 hlt (by omega)
    have y4 : w.cell? ⟨b, off + k * 9 + 4, none⟩ = some (.string (fP k).tc) := HC.out k 4 hlt (by omega)
    have y5 : w.cell? ⟨b, off + k * 9 + 5, none⟩ = some (.slice (fP k).inp.a (fP k).inp.n (fP k).inp.c) := HC.out k 5 hlt (by omega)
    have y6 : w.cell? ⟨b, off + k * 9 + 6, none⟩ = some (.slice (fP k).out.a (fP k).out.n (fP k).out.c) := HC.out k 6 hlt (by omega)
    have y7 : w.cell? ⟨b, off + k * 9 + 7, none⟩ = some (.string (fP k).et) := HC.out k 7 hlt (by omega)
    have y8 : w.cell? ⟨b, off + k * 9 + 8, none⟩ = some (.pointer (fP k).q) := HC.out k 8 hlt (by omega)
    have HAP : Hid _ := (HP.out.el k hlt).ap
    clear HC
    cases hq : (fP k).q with
    | none =>
      rw [hq] at y8
      clear hq HAP
      go_wp2_with fail
      any_goals (go_ret; exact ⟨false, rfl, rfl⟩)
      exact ⟨⟨k + 1, _, by omega, by go_num, rfl⟩, by simp [intOf]; omega⟩
    | some qa =>
      obtain ⟨b2, o2, rfl, hb2, hc2, hap⟩ := HAP.out _ hq
      rw [hq] at y8
      have x0 : w.cell? ⟨b2, o2, none⟩ = some (.string (fP k).ap.id) := hc2 0 (by omega)
      have x2 : w.cell? ⟨b2, o2 + 2, none⟩ = some (.string (fP k).ap.re) := hc2 2 (by omega)
      clear hq HAP hc2 hap
      go_wp2_with fail
      any_goals (go_ret; exact ⟨false, rfl, rfl⟩)
      exact ⟨⟨k + 1, _, by omega, by go_num, rfl⟩, by simp [intOf]; omega⟩
  obtain rfl : nP = k := by omega
  clear hlt hk
  go_wp2_with fail
  any_goals (go_ret; exact ⟨false, rfl, rfl⟩)
  go_ret
  exact ⟨true, rfl, rfl⟩
end Go.Proofs.Qxb6616796a
