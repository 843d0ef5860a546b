import Derived.Test.Qxb6616796aB0
import Derived.Test.Qxb6616796aB2
import Derived.Lib.Builder
import Derived.Lib.AppendStr
import Derived.Lib.UnsafeStr
import Derived.Laws.Externs
import Derived.Laws.IdiomCopy
namespace Go.Proofs.Qxb6616796a
open Go.RowKit

/-! ### strings.Builder of this program (turned from the shelf's own walks) -/
theorem Try.sizeB : (Try.prog.info? 69).map (·.size) = some 2 := by kernel_rfl
theorem Try.liesB : liesAt Try.prog Try.prog.depth 69 (2 / Try.prog.cellsOf 69) 0 69 1 = true := by kernel_rfl

set_option maxHeartbeats 1000000 in
set_option maxRecDepth 100000 in
theorem copyCheck_used (b : Nat) (w : World) (h0 : w.cell? ⟨b, 0, none⟩ = some (.pointer (some ⟨b, 0, none⟩))) :
    Calls Try.prog 24 #[.pointer (some ⟨b, 0, none⟩)] w fun e w' => e = .returned (.tuple #[]) ∧ w' = w := by
  obtain ⟨j, hj, _⟩ := Option.map_eq_some_iff.1 Try.sizeB
  have hne := fun w => Lib.run_neq_ptr_same (P := Try.prog) w ⟨b, 0, none⟩ Try.underlying31 hj
  clear hj
  go_enter Try.func24, Try.ntmps24
  go_wp2_with fail
  go_end0
  exact ⟨rfl, rfl⟩

set_option maxHeartbeats 1000000 in
set_option maxRecDepth 100000 in
theorem copyCheck_fresh (b : Nat) (w : World) (h0 : w.cell? ⟨b, 0, none⟩ = some (.pointer none)) (hsh : w.shape? b = some (69, 2)) (hfz : w.frozen? ⟨b, 0, none⟩ = false) :
    Calls Try.prog 24 #[.pointer (some ⟨b, 0, none⟩)] w fun e w' => e = .returned (.tuple #[]) ∧ w' = w.setCell ⟨b, 0, none⟩ (.pointer (some ⟨b, 0, none⟩)) := by
  obtain ⟨j, hj, hjs⟩ := Option.map_eq_some_iff.1 Try.sizeB
  have hne := fun w => Lib.run_neq_ptr_same (P := Try.prog) w ⟨b, 0, none⟩ Try.underlying31 hj
  have hto := Lib.run_to_unsafe (P := Try.prog) w ⟨b, 0, none⟩ Try.underlying31 Try.underlying75 hj (by rw [hjs]; decide) hsh (Nat.zero_lt_succ 1)
  have hfrom := Lib.run_from_unsafe (P := Try.prog) w ⟨b, 0, none⟩ Try.underlying75 Try.underlying31 hj hsh Try.liesB
  have hno : ∀ x w, (callFunc 25 #[x]).run Try.prog w = .ok (.value x) w := fun x w => by
    rw [run_callFunc_extern Try.func25 (by kernel_rfl) (by kernel_rfl) (by kernel_rfl) (e := Extern.AbiNoEscape.same) (by kernel_rfl), Lib.run_noEscape]
    rfl
  clear hj hjs hsh
  go_enter Try.func24, Try.ntmps24
  go_wp2_with fail
  go_end0
  exact ⟨rfl, rfl⟩

theorem copyCheck_any (B b : Nat) (bs : List Value) (w : World) (h : Lib.IsBuilder 69 5 B b bs w) :
    Calls Try.prog 24 #[.pointer (some ⟨b, 0, none⟩)] w fun e w' => e = .returned (.tuple #[]) ∧ (Lib.BuilderAt 69 5 B b (.pointer (some ⟨b, 0, none⟩)) bs w' ∧ Below B w w') := by
  rcases h with h | h
  · refine (copyCheck_fresh b w h.cell0 h.shape h.frozen0).mono ?_
    rintro e w' ⟨rfl, rfl⟩
    exact ⟨rfl, h.used _, (Below.refl B w).setCell (p := ⟨b, 0, none⟩) h.1 _⟩
  · refine (copyCheck_used b w h.cell0).mono ?_
    rintro e w' ⟨rfl, rfl⟩
    exact ⟨rfl, h, Below.refl B _⟩

/-- What WriteString leaves. -/
def WsP (B b : Nat) (bs : List Value) (s : ByteArray) (w : World) (e : Ending) (w' : World) : Prop :=
  e = .returned (.tuple #[.int .i64 s.size, .nilIface]) ∧ Hid (Lib.IsBuilder 69 5 B b (bs ++ Lib.strCells s) w' ∧ Below B w w')

set_option maxHeartbeats 2000000 in
set_option maxRecDepth 100000 in
theorem writeString_any (B b : Nat) (bs : List Value) (s : ByteArray) (w : World) (h : Lib.IsBuilder 69 5 B b bs w) (hlen : bs.length + s.size ≤ 140737488355328) (hBw : B ≤ w.heap.size) :
    Calls Try.prog 22 #[.pointer (some ⟨b, 0, none⟩), .string s] w (WsP B b bs s w) := by
  obtain ⟨i0, hi, hz0, hz1, hz2⟩ := info_parts Try.info5
  have HI : Hid _ := hi
  have HZ : Hid _ := And.intro hz0 (And.intro hz1 hz2)
  have HH : Hid _ := h
  clear hi hz0 hz1 hz2 h
  go_enter Try.func22, Try.ntmps22
  go_wp2_with fail
  refine (copyCheck_any B b bs w HH.out).mono ?_
  rintro e w1 ⟨rfl, h1, hb1⟩
  obtain ⟨hB, v, hbk, hown, hne⟩ := h1
  have c0 : w1.cell? ⟨b, 0, none⟩ = some (.pointer (some ⟨b, 0, none⟩)) := by rw [Lib.cell_of_heap hbk]; rfl
  have c1 : w1.cell? ⟨b, 1, none⟩ = some v := by rw [Lib.cell_of_heap hbk]; rfl
  have HB1 : Hid (Below B w w1) := hb1
  have HOW : Hid (w1.ownsRow B 5 1 v bs.length bs) := hown
  have HBK : Hid (w1.heap[b]? = some (.cells #[.pointer (some ⟨b, 0, none⟩), v] 69 (0, 0)) ∧ v.ownBlock ≠ some b) := ⟨hbk, hne⟩
  clear hb1 hown hbk hne HH
  go_wp2_with (at_builtin; refine Lib.wpList_append_own_string _ rfl _ _ 28 9 rfl B 5 i0 Try.underlying28 Try.underlying9 HI.out HZ.out.1 HZ.out.2.1 HZ.out.2.2 _ _ _ rfl HOW.out s rfl ?c3 ?c4 ?c5 ?_)
  case c3 => unfold maxLen; omega
  case c4 => omega
  case c5 => have := HB1.out.size; omega
  intro v' w2 hown' hgrow _
  have hlt : b < w1.heap.size := lt_of_heap HBK.out.1
  have hb2 : w2.heap[b]? = some (.cells #[.pointer (some ⟨b, 0, none⟩), v] 69 (0, 0)) := by
    rw [hgrow.block b hlt (fun e => HBK.out.2 e.symm)]
    exact HBK.out.1
  have d0 : w2.cell? ⟨b, 0, none⟩ = some (.pointer (some ⟨b, 0, none⟩)) := by rw [Lib.cell_of_heap hb2]; rfl
  have d1 : w2.cell? ⟨b, 1, none⟩ = some v := by rw [Lib.cell_of_heap hb2]; rfl
  have f1 : w2.frozen? ⟨b, 1, none⟩ = false := Lib.frozen_of_heap hb2 1
  obtain ⟨ao, n', cap, rfl⟩ : ∃ ao n' cap, v' = .slice ao n' cap := by
    rcases hown'.2 with ⟨hv, _⟩ | ⟨g, cap, cur, hv, _⟩
    · exact ⟨_, _, _, hv⟩
    · exact ⟨_, _, _, hv⟩
  have HE : Hid (Lib.IsBuilder 69 5 B b (bs ++ Lib.strCells s) (w2.setCell ⟨b, 1, none⟩ (.slice ao n' cap)) ∧ Below B w (w2.setCell ⟨b, 1, none⟩ (.slice ao n' cap))) :=
    ⟨.inr (Lib.BuilderAt.put (T := 69) (e := 5) hB hb2 (bs' := bs ++ Lib.strCells s) (by simpa [Lib.strCells_length] using hown') (by decide)),
      (HB1.out.grown hgrow (by have := HB1.out.size; omega) (fun k hk => (HOW.out.lt k hk).1)).setCell (p := ⟨b, 1, none⟩) hB _⟩
  clear hown' hgrow hb2 HOW HBK HI HZ HB1
  go_wp2_with fail
  go_ret2
  exact ⟨rfl, HE⟩

/-- What String leaves. -/
def StrP (l : List UInt8) (B : Nat) (w : World) (e : Ending) (w' : World) : Prop := e = .returned (.string ⟨l.toArray⟩) ∧ Hid (Below B w w')

theorem us_none (W : World) (q : Option Addr) : (Builtin.unsafeString_ #[74, 3] 9 #[.pointer q, .int .i64 0]).run Try.prog W = .ok (.string .empty) W :=
  Lib.run_unsafeString_none W _ _ _ q

set_option maxHeartbeats 1000000 in
set_option maxRecDepth 100000 in
theorem string_some (B b : Nat) (l : List UInt8) (w : World) (h : Lib.IsBuilder 69 5 B b (Lib.byteCells l) w) (h0 : l ≠ []) :
    Calls Try.prog 23 #[.pointer (some ⟨b, 0, none⟩)] w (StrP l B w) := by
  obtain ⟨p, hB, v, hbk, hown, hne⟩ : ∃ p, Lib.BuilderAt 69 5 B b p (Lib.byteCells l) w := by
    rcases h with h | h
    · exact ⟨_, h⟩
    · exact ⟨_, h⟩
  have hl0 : l.length ≠ 0 := by simpa using h0
  rw [Lib.byteCells_length] at hown
  obtain ⟨g, cap, cur, rfl, hbg, hg, hnc, hcm, hcs, htake⟩ : ∃ g cap cur, v = .slice (some ⟨g, 0, none⟩) l.length cap ∧ B ≤ g ∧ w.heap[g]? = some (.cells cur 5 (0, 0)) ∧ l.length ≤ cap ∧ cap ≤ maxLen ∧ cur.size = cap * 1 ∧ cur.toList.take (l.length * 1) = Lib.byteCells l := by
    rcases hown.2 with ⟨_, hz⟩ | ⟨g, cap, cur, hv, r⟩
    · exact absurd hz hl0
    · exact ⟨g, cap, cur, hv, r⟩
  have c1 : w.drew.cell? ⟨b, 1, none⟩ = some (.slice (some ⟨g, 0, none⟩) l.length cap) := by
    have : w.drew.heap[b]? = some (.cells #[p, .slice (some ⟨g, 0, none⟩) l.length cap] 69 (0, 0)) := hbk
    rw [Lib.cell_of_heap this]; rfl
  have hSD : (Builtin.unsafeSliceData_ #[28] 74 #[.slice (some ⟨g, 0, none⟩) l.length cap]).run Try.prog w.drew = .ok (.pointer (some ⟨g, 0, none⟩)) w.drew :=
    Lib.run_unsafeSliceData_row _ _ _ _ _ _ (by omega)
  have hUS : (Builtin.unsafeString_ #[74, 3] 9 #[.pointer (some ⟨g, 0, none⟩), .int .i64 l.length]).run Try.prog w.drew = .ok (.string ⟨l.toArray⟩) (w.drew.freeze ⟨g, 0, none⟩ l.length) := by
    refine Lib.run_unsafeString_row w.drew 74 3 9 5 Try.underlying74 Try.cells5 g cur.size (by have hg' : w.drew.heap[g]? = some (.cells cur 5 (0, 0)) := hg; simp [World.shape?, hg']) l h0 (by omega) (by unfold maxLen at hcm; omega) ?_
    intro j x hx
    have := hown.cells (g := g) rfl j (.int .u8 x.toNat) (by simp [Lib.byteCells, hx])
    exact this
  go_enter Try.func23, Try.ntmps23
  go_wp2_with fail
  go_region
  all_goals (go_wp2_with fail; go_ret; exact ⟨rfl, Lib.below_freeze (Below.drew (Below.refl B w)) (p := ⟨g, 0, none⟩) hbg _⟩)

set_option maxHeartbeats 2000000 in
set_option maxRecDepth 100000 in
theorem string_nil (B b : Nat) (p : Value) (w : World) (hbk : w.heap[b]? = some (.cells #[p, .slice none 0 0] 69 (0, 0))) :
    Calls Try.prog 23 #[.pointer (some ⟨b, 0, none⟩)] w (StrP [] B w) := by
  have hUS := us_none
  have c1 : w.drew.cell? ⟨b, 1, none⟩ = some (.slice none 0 0) := by
    have : w.drew.heap[b]? = some (.cells #[p, .slice none 0 0] 69 (0, 0)) := hbk
    rw [Lib.cell_of_heap this]; rfl
  have hSD : (Builtin.unsafeSliceData_ #[28] 74 #[.slice none 0 0]).run Try.prog w.drew = .ok (.pointer none) w.drew := rfl
  go_enter Try.func23, Try.ntmps23
  go_wp2_with fail
  go_region
  all_goals (go_wp2_with fail; go_ret; exact ⟨rfl, Below.drew (Below.refl B w)⟩)

set_option maxHeartbeats 2000000 in
set_option maxRecDepth 100000 in
theorem string_noroom (B b g : Nat) (p : Value) (cur : Array Value) (w : World) (hBw : B ≤ w.heap.size) (hbk : w.heap[b]? = some (.cells #[p, .slice (some ⟨g, 0, none⟩) 0 0] 69 (0, 0))) (hg : w.heap[g]? = some (.cells cur 5 (0, 0))) :
    Calls Try.prog 23 #[.pointer (some ⟨b, 0, none⟩)] w (StrP [] B w) := by
  have hUS := us_none
  have hlt : b < w.heap.size := lt_of_heap hbk
  have c1 : w.drew.cell? ⟨b, 1, none⟩ = some (.slice (some ⟨g, 0, none⟩) 0 0) := by
    have : w.drew.heap[b]? = some (.cells #[p, .slice (some ⟨g, 0, none⟩) 0 0] 69 (0, 0)) := hbk
    rw [Lib.cell_of_heap this]; rfl
  have hSD : (Builtin.unsafeSliceData_ #[28] 74 #[.slice (some ⟨g, 0, none⟩) 0 0]).run Try.prog w.drew = .ok (.pointer (some ⟨w.drew.heap.size, 0, none⟩)) (w.drew.alloc (.view ⟨g, 0, none⟩ 5)) :=
    Lib.run_unsafeSliceData_zero w.drew _ _ 5 Try.underlying74 ⟨g, 0, none⟩ 0 (5, cur.size) (by have hg' : w.drew.heap[g]? = some (.cells cur 5 (0, 0)) := hg; simp [World.shape?, hg'])
  have c2 : (w.drew.alloc (.view ⟨g, 0, none⟩ 5)).cell? ⟨b, 1, none⟩ = some (.slice (some ⟨g, 0, none⟩) 0 0) := by
    have : (w.drew.alloc (.view ⟨g, 0, none⟩ 5)).heap[b]? = _ := (Lib.alloc_old w.drew _ b hlt).trans hbk
    rw [Lib.cell_of_heap this]; rfl
  have c3 : (w.alloc (.view ⟨g, 0, none⟩ 5)).drew.cell? ⟨b, 1, none⟩ = some (.slice (some ⟨g, 0, none⟩) 0 0) := c2
  have c0 : w.cell? ⟨b, 1, none⟩ = some (.slice (some ⟨g, 0, none⟩) 0 0) := c1
  go_enter Try.func23, Try.ntmps23
  go_wp2_with fail
  go_region
  all_goals (go_wp2_with fail; go_ret; exact ⟨rfl, (Below.drew (Below.refl B w)).alloc hBw _⟩)

set_option maxHeartbeats 2000000 in
set_option maxRecDepth 100000 in
theorem string_room (B b g cap : Nat) (p : Value) (w : World) (hc0 : cap ≠ 0) (hbk : w.heap[b]? = some (.cells #[p, .slice (some ⟨g, 0, none⟩) 0 cap] 69 (0, 0))) :
    Calls Try.prog 23 #[.pointer (some ⟨b, 0, none⟩)] w (StrP [] B w) := by
  have hUS := us_none
  have c1 : w.drew.cell? ⟨b, 1, none⟩ = some (.slice (some ⟨g, 0, none⟩) 0 cap) := by
    have : w.drew.heap[b]? = some (.cells #[p, .slice (some ⟨g, 0, none⟩) 0 cap] 69 (0, 0)) := hbk
    rw [Lib.cell_of_heap this]; rfl
  have hSD : (Builtin.unsafeSliceData_ #[28] 74 #[.slice (some ⟨g, 0, none⟩) 0 cap]).run Try.prog w.drew = .ok (.pointer (some ⟨g, 0, none⟩)) w.drew :=
    Lib.run_unsafeSliceData_row _ _ _ _ _ _ hc0
  clear hc0
  go_enter Try.func23, Try.ntmps23
  go_wp2_with fail
  go_region
  all_goals (go_wp2_with fail; go_ret; exact ⟨rfl, Below.drew (Below.refl B w)⟩)

theorem string_any (B b : Nat) (l : List UInt8) (w : World) (h : Lib.IsBuilder 69 5 B b (Lib.byteCells l) w) (hBw : B ≤ w.heap.size) :
    Calls Try.prog 23 #[.pointer (some ⟨b, 0, none⟩)] w (StrP l B w) := by
  cases l with
  | cons x r => exact string_some B b (x :: r) w h (by simp)
  | nil =>
    obtain ⟨p, hB, v, hbk, hown, hne⟩ : ∃ p, Lib.BuilderAt 69 5 B b p [] w := by
      rcases h with h | h
      · exact ⟨_, h⟩
      · exact ⟨_, h⟩
    rcases hown.2 with ⟨rfl, _⟩ | ⟨g, cap, cur, rfl, hbg, hg, _, _, _, _⟩
    · exact string_nil B b p w hbk
    · by_cases hc0 : cap = 0
      · subst hc0
        exact string_noroom B b g p cur w hBw hbk hg
      · exact string_room B b g cap p w hc0 hbk

end Go.Proofs.Qxb6616796a
