/-
  THE ROW 'FnTextUntouchedByAToolErrorSaid': the readings are opened into what the walk asks (B7), the walk is the law's (D4), nothing that was there has turned ('Below').
-/
import Derived.Test.Qxb6616796aRows
import Derived.Test.Qxb6616796aB7
import Derived.Test.Qxb6616796aD4
import Derived.WalkKit
import Derived.ProofKit
import Derived.OpenShut
import Derived.ChangeMaps5
namespace Go.Proofs.Qxb6616796a.law5
open Go.ChangeShapes Go.WideShapes Go.ChangeAt Go.RowKit

theorem own : ownKnob Try.prog.godebug = none := by kernel_rfl
theorem laidOut : laidOutB Try.prog = true := by kernel_rfl

set_option maxRecDepth 100000 in
theorem lifted (os : Os) (started : os.Started) (H : Type) (enc : TypeId × Value → H) :
    ReturnsInHanded {} Try.checked os 5 .any (Rows.fnTextUntouchedByAToolErrorSpec.pre6 enc Try.prog Try.f5 Rows.fnTextUntouchedByAToolErrorRow.domain false) (Rows.fnTextUntouchedByAToolErrorSpec.post enc Try.prog Try.f5 false true false false) := by
  refine returnsInHanded_of_change (C := Try.checked) own started (by kernel_rfl) Try.func5
    (ChangeSpec.witness6 (enc := enc) (C := Try.checked) false ⟨#[], #[.slice none 0 0, .string .empty, .slice none 0 0, .string .empty], []⟩ 8 (by kernel_rfl) (by kernel_rfl) (by kernel_rfl) (by kernel_rfl)) ?_
  intro W base args ds gs before hval0 hW hcnd _
  have hval : ∀ (j : Nat) t v, Try.f5.params[j]? = some t → args[j]? = some v → Value.okWide Try.prog W .any base t v := hval0
  have hW' := hW
  obtain ⟨p, q, hA0, hV, rfl, hfz, hnd⟩ := hW
  have hA : DataW.TrodAll enc Try.prog W 0 (fun _ => true) true Try.f5.params.toList args.toList ds p := hA0
  rw [Try.params5] at hA hval
  obtain ⟨v0, vs0, d0, ds0, p0, q0, hargs, rfl, rfl, h0, r0⟩ := trodAll_cons hA
  obtain ⟨v1, vs1, d1, ds1, p1, q1, rfl, rfl, rfl, h1, r1⟩ := trodAll_cons r0
  obtain ⟨v2, vs2, d2, ds2, p2, q2, rfl, rfl, rfl, h2, r2⟩ := trodAll_cons r1
  obtain ⟨v3, vs3, d3, ds3, p3, q3, rfl, rfl, rfl, h3, r3⟩ := trodAll_cons r2
  obtain ⟨rfl, rfl, rfl⟩ := trodAll_nil r3
  obtain rfl : args = #[v0, v1, v2, v3] := by cases args; simp_all
  obtain ⟨rfl, rfl⟩ := trodVars_none hV
  obtain ⟨a0, n0, c0, rfl⟩ := okWide_slice Try.underlying22 (hval 0 22 v0 rfl rfl)
  obtain ⟨t, rfl, rfl, rfl, wt⟩ := Go.ChangeMaps.open_string Try.underlying9 (hval 1 9 v1 rfl rfl) h1
  obtain ⟨a2, n2, c2, rfl⟩ := okWide_slice Try.underlying28 (hval 2 28 v2 rfl rfl)
  obtain ⟨et, rfl, rfl, rfl, we⟩ := Go.ChangeMaps.open_string Try.underlying9 (hval 3 9 v3 rfl rfl) h3
  have k0 := h0
  have k2 := h2
  have lt0 : ∀ x ∈ p0, x.block < W.heap.size := by obtain ⟨m, hm⟩ := k0; exact DataW.trod_lt m _ _ _ hm
  have lt2 : ∀ x ∈ p2, x.block < W.heap.size := by obtain ⟨m, hm⟩ := k2; exact DataW.trod_lt m _ _ _ hm
  have g0 : Rd W 22 [.slice a0 n0 c0] := by
    obtain ⟨fuel, hf⟩ := h0
    exact ⟨H, enc, _, _, _, fuel, _, by simpa [Value.cells] using hf⟩
  have g2 : Rd W 28 [.slice a2 n2 c2] := by
    obtain ⟨fuel, hf⟩ := h2
    exact ⟨H, enc, _, _, _, fuel, _, by simpa [Value.cells] using hf⟩
  clear hA0 hval0
  obtain ⟨X, e0, hX⟩ := rd_parts g0
  obtain ⟨Y, e2, hY⟩ := rd_bs g2
  have walk : Calls Try.prog 5 #[.slice a0 n0 c0, .string t, .slice a2 n2 c2, .string et] W fun e w' => e = .returned (.bool true) ∧ Below W.heap.size W w' := by
    rw [e0, e2]
    exact (law5_body X t Y et W hX hY wt we).mono fun e w' h => ⟨h.1, h.2.out⟩
  refine walk.mono fun e W' ⟨he, bel⟩ => ?_
  subst he
  exact ⟨_, rfl, _, _, _, [], _, [], hW', trodAll_mk1 (shut_bool Try.underlying4 _), (trodAll_cons_mk (Below.trod laidOut (by kernel_rfl) (of_decide_eq_true (by kernel_rfl)) k0 bel lt0) (trodAll_cons_mk (Go.ChangeMaps.shut_string Try.underlying9 wt) (trodAll_cons_mk (Below.trod laidOut (by kernel_rfl) (of_decide_eq_true (by kernel_rfl)) k2 bel lt2) (trodAll_cons_mk (Go.ChangeMaps.shut_string Try.underlying9 we) trodAll_mk0)))), rfl, bel.frame _, fun h => by cases h⟩

theorem over : Rows.fnTextUntouchedByAToolErrorRow.holds Try.pinned (OpenSpec.ofChange Rows.fnTextUntouchedByAToolErrorSpec) :=
  OpenClaim.holds_of_wide 5 Try.f5 rfl rfl rfl rfl rfl rfl rfl ⟨rfl, rfl, rfl, rfl, rfl⟩ rfl rfl rfl rfl rfl (by kernel_rfl) Try.func5 (by kernel_rfl)
    (of_decide_eq_true (by kernel_rfl)) (by unfold Func.isWrapper; first | (rw [if_pos (by decide +kernel)]; kernel_rfl) | (rw [if_neg (by decide +kernel)]; exact ⟨rfl, rfl⟩))
    (fun os started H enc _ => lifted os started H enc)

end Go.Proofs.Qxb6616796a.law5
namespace Go.Proofs.Qxb6616796a

/-- THE STATEMENT. -/
theorem fnTextUntouchedByAToolError_proved : Rows.FnTextUntouchedByAToolErrorSaid := law5.over

end Go.Proofs.Qxb6616796a
