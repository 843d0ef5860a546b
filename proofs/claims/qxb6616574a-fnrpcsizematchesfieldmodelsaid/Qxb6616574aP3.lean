/-
  THE ROW 'FnRPCSizeMatchesFieldModelSaid': the three readings are opened into what the walk asks (W28), the walk is the law's (L3), nothing that was there has turned ('Below').
-/
import Derived.Test.Qxb6616574aRows
import Derived.Test.Qxb6616574aW28
import Derived.Test.Qxb6616574aL3
import Derived.WalkKit
import Derived.ProofKit
import Derived.OpenShut
namespace Go.Proofs.Qxb6616574a.law3
open Go.ChangeShapes Go.WideShapes Go.ChangeAt Go.RowKit

theorem own : ownKnob Try.prog.godebug = none := by kernel_rfl
theorem laidOut : laidOutB Try.prog = true := by kernel_rfl

set_option maxRecDepth 100000 in
theorem lifted (os : Os) (started : os.Started) (H : Type) (enc : TypeId × Value → H) :
    ReturnsInHanded {} Try.checked os 3 .any (Rows.fnRPCSizeMatchesFieldModelSpec.pre6 enc Try.prog Try.f3 Rows.fnRPCSizeMatchesFieldModelRow.domain false) (Rows.fnRPCSizeMatchesFieldModelSpec.post enc Try.prog Try.f3 false true false false) := by
  refine returnsInHanded_of_change (C := Try.checked) own started (by kernel_rfl) Try.func3
    (ChangeSpec.witness6 (enc := enc) (C := Try.checked) false ⟨#[], #[.slice none 0 0, .slice none 0 0, .pointer none], []⟩ 8 (by kernel_rfl) (by kernel_rfl) (by kernel_rfl) (by kernel_rfl)) ?_
  intro W base args ds gs before hval0 hW hcnd _
  have hval : ∀ (j : Nat) t v, Try.f3.params[j]? = some t → args[j]? = some v → Value.okWide Try.prog W .any base t v := hval0
  have hW' := hW
  obtain ⟨p, q, hA0, hV, rfl, hfz, hnd⟩ := hW
  have hA : DataW.TrodAll enc Try.prog W 0 (fun _ => true) true Try.f3.params.toList args.toList ds p := hA0
  rw [Try.params3] at hA hval
  obtain ⟨v0, vs0, d0, ds0, p0, q0, hargs, rfl, rfl, h0, r0⟩ := trodAll_cons hA
  obtain ⟨v1, vs1, d1, ds1, p1, q1, rfl, rfl, rfl, h1, r1⟩ := trodAll_cons r0
  obtain ⟨v2, vs2, d2, ds2, p2, q2, rfl, rfl, rfl, h2, r2⟩ := trodAll_cons r1
  obtain ⟨rfl, rfl, rfl⟩ := trodAll_nil r2
  obtain rfl : args = #[v0, v1, v2] := by cases args; simp_all
  obtain ⟨rfl, rfl⟩ := trodVars_none hV
  obtain ⟨a0, n0, c0, rfl⟩ := okWide_slice Try.underlying22 (hval 0 22 v0 rfl rfl)
  obtain ⟨a1, n1, c1, rfl⟩ := okWide_slice Try.underlying23 (hval 1 23 v1 rfl rfl)
  obtain ⟨a2, rfl⟩ := okWide_pointer Try.underlying24 (hval 2 24 v2 rfl rfl)
  have k0 := h0
  have k1 := h1
  have k2 := h2
  have lt0 : ∀ x ∈ p0, x.block < W.heap.size := by obtain ⟨m, hm⟩ := k0; exact DataW.trod_lt m _ _ _ hm
  have lt1 : ∀ x ∈ p1, x.block < W.heap.size := by obtain ⟨m, hm⟩ := k1; exact DataW.trod_lt m _ _ _ hm
  have lt2 : ∀ x ∈ p2, x.block < W.heap.size := by obtain ⟨m, hm⟩ := k2; exact DataW.trod_lt m _ _ _ hm
  have g0 : Rd W 22 [.slice a0 n0 c0] := by
    obtain ⟨fuel, hf⟩ := h0
    exact ⟨H, enc, _, _, _, fuel, _, by simpa [Value.cells] using hf⟩
  have g1 : Rd W 23 [.slice a1 n1 c1] := by
    obtain ⟨fuel, hf⟩ := h1
    exact ⟨H, enc, _, _, _, fuel, _, by simpa [Value.cells] using hf⟩
  have g2 : Rd W 24 [.pointer a2] := by
    obtain ⟨fuel, hf⟩ := h2
    exact ⟨H, enc, _, _, _, fuel, _, by simpa [Value.cells] using hf⟩
  clear hA0 hval0
  obtain ⟨sa, sn, sc, sf, e0, hsc, hsr, hse⟩ := rd_subs g0
  obtain ⟨ma, mn, mc, P, mf, e1, hmc, hmr, hme⟩ := rd_pubs g1
  simp only [Value.slice.injEq] at e0 e1
  obtain ⟨rfl, rfl, rfl⟩ := e0
  obtain ⟨rfl, rfl, rfl⟩ := e1
  have walk : Calls Try.prog 3 #[.slice a0 n0 c0, .slice a1 n1 c1, .pointer a2] W fun e w' => e = .returned (.bool true) ∧ Below W.heap.size W w' := by
    rcases rd_ctrl g2 with e2 | ⟨cb, co, y, e2, hcb, hcc, hy⟩
    · simp only [Value.pointer.injEq] at e2
      subst e2
      exact law3_nil a0 n0 c0 sf a1 n1 c1 P mf W hsr hse hmr hme
    · simp only [Value.pointer.injEq] at e2
      subst e2
      exact law3_ctl a0 n0 c0 sf a1 n1 c1 P mf cb co y W hsr hse hmr hme hcb hcc hy
  refine walk.mono fun e W' ⟨he, bel⟩ => ?_
  subst he
  exact ⟨_, rfl, _, _, _, [], _, [], hW', trodAll_mk1 (shut_bool Try.underlying4 _), (trodAll_cons_mk (Below.trod laidOut (by kernel_rfl) (of_decide_eq_true (by kernel_rfl)) k0 bel lt0) (trodAll_cons_mk (Below.trod laidOut (by kernel_rfl) (of_decide_eq_true (by kernel_rfl)) k1 bel lt1) (trodAll_cons_mk (Below.trod laidOut (by kernel_rfl) (of_decide_eq_true (by kernel_rfl)) k2 bel lt2) trodAll_mk0))), rfl, bel.frame _, fun h => by cases h⟩

theorem over : Rows.fnRPCSizeMatchesFieldModelRow.holds Try.pinned (OpenSpec.ofChange Rows.fnRPCSizeMatchesFieldModelSpec) :=
  OpenClaim.holds_of_wide 3 Try.f3 rfl rfl rfl rfl rfl rfl rfl ⟨rfl, rfl, rfl, rfl, rfl⟩ rfl rfl rfl rfl rfl (by kernel_rfl) Try.func3 (by kernel_rfl)
    (of_decide_eq_true (by kernel_rfl)) (by unfold Func.isWrapper; first | (rw [if_pos (by decide +kernel)]; kernel_rfl) | (rw [if_neg (by decide +kernel)]; exact ⟨rfl, rfl⟩))
    (fun os started H enc _ => lifted os started H enc)

end Go.Proofs.Qxb6616574a.law3
namespace Go.Proofs.Qxb6616574a

/-- THE STATEMENT. -/
theorem fnRPCSizeMatchesFieldModel_proved : Rows.FnRPCSizeMatchesFieldModelSaid := law3.over

end Go.Proofs.Qxb6616574a
