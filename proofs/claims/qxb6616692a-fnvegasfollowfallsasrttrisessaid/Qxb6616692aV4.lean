import Derived.Test.Qxb6616692aV3
import Derived.WalkKit
import Derived.Laws.FloatArith
import GoSem.Extern.MathLog
namespace Go.Proofs.Qxb6616692a
open Ieee

theorem arith_run {P : Program} (w : World) (op : BinOp) (x y r : Nat) (h : floatBits op .f64 x y = some r) : (Extern.MathAsm.arith op x y).run P w = .ok r w := by
  unfold Extern.MathAsm.arith Op.floatArith
  unfold floatBits at h
  cases op <;> simp only at h <;> first | (cases h; done) | skip
  all_goals simp [h]

/-- The model's math.archLog, step by step. -/
theorem archLog_run {P : Program} (w : World) (x : Nat) (hx0 : x % 9223372036854775808 ≠ 0) (hx1 : x < 9223372036854775808) (hx2 : x < 9218868437227405312)
    (o k ao f1 f T s s2 s4 m7 a5 m5 a3 m3 a1 t1 m6 a4 m4 a2 t2 r hf h rh srh lk inn hi d1 d2 res : Nat)
    (ho : o = if (double.order 4604544271217802189 (x % 4503599627370496 + 4602678819172646912) == some .lt) = true then 0 else 4607182418800017408)
    (e1 : double.sub (double.nearest (decide (Int.ofNat (x / 4503599627370496) - 1022 < 0)) (Int.ofNat (x / 4503599627370496) - 1022).natAbs 0) o = some k)
    (e2 : double.add o 4607182418800017408 = some ao) (e3 : double.mul (x % 4503599627370496 + 4602678819172646912) ao = some f1) (e4 : double.sub f1 4607182418800017408 = some f)
    (e5 : double.add 4611686018427387904 f = some T) (e6 : double.div f T = some s) (e7 : double.mul s s = some s2) (e8 : double.mul s2 s2 = some s4)
    (g1 : double.mul 4594499633228436036 s4 = some m7) (g2 : double.add m7 4595719342595441630 = some a5) (g3 : double.mul a5 s4 = some m5) (g4 : double.add m5 4598818590951641945 = some a3)
    (g5 : double.mul a3 s4 = some m3) (g6 : double.add m3 4604180019048437139 = some a1) (g7 : double.mul s2 a1 = some t1)
    (g8 : double.mul 4594685411790997151 s4 = some m6) (g9 : double.add m6 4597174411056806063 = some a4) (ga : double.mul a4 s4 = some m4) (gb : double.add m4 4600877379321592324 = some a2) (gc : double.mul s4 a2 = some t2)
    (gd : double.add t1 t2 = some r) (ge : double.mul 4602678819172646912 f = some hf) (gf : double.mul hf f = some h) (gg : double.add r h = some rh) (gh : double.mul s rh = some srh) (gi : double.mul 4461442080421002358 k = some lk)
    (gj : double.add srh lk = some inn) (gk : double.mul k 4604418534311723008 = some hi) (gl : double.sub h inn = some d1) (gm : double.sub d1 f = some d2) (gn : double.sub hi d2 = some res) :
    (Extern.MathLog.archLog #[.float .f64 x]).run P w = .ok (.float .f64 res) w := by
  have e1' := arith_run (P := P) w .sub _ _ _ e1
  have e2' := arith_run (P := P) w .add _ _ _ e2
  have e3' := arith_run (P := P) w .mul _ _ _ e3
  have e4' := arith_run (P := P) w .sub _ _ _ e4
  have e5' := arith_run (P := P) w .add _ _ _ e5
  have e6' := arith_run (P := P) w .quo _ _ _ e6
  have e7' := arith_run (P := P) w .mul _ _ _ e7
  have e8' := arith_run (P := P) w .mul _ _ _ e8
  have g1' := arith_run (P := P) w .mul _ _ _ g1
  have g2' := arith_run (P := P) w .add _ _ _ g2
  have g3' := arith_run (P := P) w .mul _ _ _ g3
  have g4' := arith_run (P := P) w .add _ _ _ g4
  have g5' := arith_run (P := P) w .mul _ _ _ g5
  have g6' := arith_run (P := P) w .add _ _ _ g6
  have g7' := arith_run (P := P) w .mul _ _ _ g7
  have g8' := arith_run (P := P) w .mul _ _ _ g8
  have g9' := arith_run (P := P) w .add _ _ _ g9
  have ga' := arith_run (P := P) w .mul _ _ _ ga
  have gb' := arith_run (P := P) w .add _ _ _ gb
  have gc' := arith_run (P := P) w .mul _ _ _ gc
  have gd' := arith_run (P := P) w .add _ _ _ gd
  have ge' := arith_run (P := P) w .mul _ _ _ ge
  have gf' := arith_run (P := P) w .mul _ _ _ gf
  have gg' := arith_run (P := P) w .add _ _ _ gg
  have gh' := arith_run (P := P) w .mul _ _ _ gh
  have gi' := arith_run (P := P) w .mul _ _ _ gi
  have gj' := arith_run (P := P) w .add _ _ _ gj
  have gk' := arith_run (P := P) w .mul _ _ _ gk
  have gl' := arith_run (P := P) w .sub _ _ _ gl
  have gm' := arith_run (P := P) w .sub _ _ _ gm
  have gn' := arith_run (P := P) w .sub _ _ _ gn
  have hb : (x % 2 ^ 63 == 0) = false := by simpa using hx0
  have hx1' : ¬ (x ≥ 2 ^ 63) := by omega
  have hx2' : ¬ (x ≥ Extern.MathAsm.posInf) := by unfold Extern.MathAsm.posInf; omega
  cases hs : (double.order 4604544271217802189 (x % 4503599627370496 + 4602678819172646912) == some .lt)
  · rw [hs, if_neg (by decide)] at ho
    subst ho
    have hs' : Extern.MathAsm.lt 4604544271217802189 (x % 2 ^ 52 + Extern.MathAsm.half) = false := hs
    delta Extern.MathLog.archLog
    show Sem.run P (if (x % 2 ^ 63 == 0) = true then _ else _) w = _
    rw [hb, if_neg (by decide), if_neg hx1', if_neg hx2']
    dsimp only
    rw [hs', Bool.not_false, if_pos rfl]
    rw [Sem.run_bind]
    refine (congrArg (fun r => Result.andThen r _) e1').trans ?_
    rw [Result.andThen_ok]
    rw [Sem.run_bind]
    refine (congrArg (fun r => Result.andThen r _) e2').trans ?_
    rw [Result.andThen_ok]
    rw [Sem.run_bind]
    refine (congrArg (fun r => Result.andThen r _) e3').trans ?_
    rw [Result.andThen_ok]
    rw [Sem.run_bind]
    refine (congrArg (fun r => Result.andThen r _) e4').trans ?_
    rw [Result.andThen_ok]
    rw [Sem.run_bind]
    refine (congrArg (fun r => Result.andThen r _) e5').trans ?_
    rw [Result.andThen_ok]
    rw [Sem.run_bind]
    refine (congrArg (fun r => Result.andThen r _) e6').trans ?_
    rw [Result.andThen_ok]
    rw [Sem.run_bind]
    refine (congrArg (fun r => Result.andThen r _) e7').trans ?_
    rw [Result.andThen_ok]
    rw [Sem.run_bind]
    refine (congrArg (fun r => Result.andThen r _) e8').trans ?_
    rw [Result.andThen_ok]
    rw [Sem.run_bind]
    refine (congrArg (fun r => Result.andThen r _) g1').trans ?_
    rw [Result.andThen_ok]
    rw [Sem.run_bind]
    refine (congrArg (fun r => Result.andThen r _) g2').trans ?_
    rw [Result.andThen_ok]
    rw [Sem.run_bind]
    refine (congrArg (fun r => Result.andThen r _) g3').trans ?_
    rw [Result.andThen_ok]
    rw [Sem.run_bind]
    refine (congrArg (fun r => Result.andThen r _) g4').trans ?_
    rw [Result.andThen_ok]
    rw [Sem.run_bind]
    refine (congrArg (fun r => Result.andThen r _) g5').trans ?_
    rw [Result.andThen_ok]
    rw [Sem.run_bind]
    refine (congrArg (fun r => Result.andThen r _) g6').trans ?_
    rw [Result.andThen_ok]
    rw [Sem.run_bind]
    refine (congrArg (fun r => Result.andThen r _) g7').trans ?_
    rw [Result.andThen_ok]
    rw [Sem.run_bind]
    refine (congrArg (fun r => Result.andThen r _) g8').trans ?_
    rw [Result.andThen_ok]
    rw [Sem.run_bind]
    refine (congrArg (fun r => Result.andThen r _) g9').trans ?_
    rw [Result.andThen_ok]
    rw [Sem.run_bind]
    refine (congrArg (fun r => Result.andThen r _) ga').trans ?_
    rw [Result.andThen_ok]
    rw [Sem.run_bind]
    refine (congrArg (fun r => Result.andThen r _) gb').trans ?_
    rw [Result.andThen_ok]
    rw [Sem.run_bind]
    refine (congrArg (fun r => Result.andThen r _) gc').trans ?_
    rw [Result.andThen_ok]
    rw [Sem.run_bind]
    refine (congrArg (fun r => Result.andThen r _) gd').trans ?_
    rw [Result.andThen_ok]
    rw [Sem.run_bind]
    refine (congrArg (fun r => Result.andThen r _) ge').trans ?_
    rw [Result.andThen_ok]
    rw [Sem.run_bind]
    refine (congrArg (fun r => Result.andThen r _) gf').trans ?_
    rw [Result.andThen_ok]
    rw [Sem.run_bind]
    refine (congrArg (fun r => Result.andThen r _) gg').trans ?_
    rw [Result.andThen_ok]
    rw [Sem.run_bind]
    refine (congrArg (fun r => Result.andThen r _) gh').trans ?_
    rw [Result.andThen_ok]
    rw [Sem.run_bind]
    refine (congrArg (fun r => Result.andThen r _) gi').trans ?_
    rw [Result.andThen_ok]
    rw [Sem.run_bind]
    refine (congrArg (fun r => Result.andThen r _) gj').trans ?_
    rw [Result.andThen_ok]
    rw [Sem.run_bind]
    refine (congrArg (fun r => Result.andThen r _) gk').trans ?_
    rw [Result.andThen_ok]
    rw [Sem.run_bind]
    refine (congrArg (fun r => Result.andThen r _) gl').trans ?_
    rw [Result.andThen_ok]
    rw [Sem.run_bind]
    refine (congrArg (fun r => Result.andThen r _) gm').trans ?_
    rw [Result.andThen_ok]
    rw [Sem.run_bind]
    refine (congrArg (fun r => Result.andThen r _) gn').trans ?_
    rw [Result.andThen_ok]
    rfl
  · rw [hs, if_pos rfl] at ho
    subst ho
    have hs' : Extern.MathAsm.lt 4604544271217802189 (x % 2 ^ 52 + Extern.MathAsm.half) = true := hs
    delta Extern.MathLog.archLog
    show Sem.run P (if (x % 2 ^ 63 == 0) = true then _ else _) w = _
    rw [hb, if_neg (by decide), if_neg hx1', if_neg hx2']
    dsimp only
    rw [hs', Bool.not_true, if_neg (by decide)]
    rw [Sem.run_bind]
    refine (congrArg (fun r => Result.andThen r _) e1').trans ?_
    rw [Result.andThen_ok]
    rw [Sem.run_bind]
    refine (congrArg (fun r => Result.andThen r _) e2').trans ?_
    rw [Result.andThen_ok]
    rw [Sem.run_bind]
    refine (congrArg (fun r => Result.andThen r _) e3').trans ?_
    rw [Result.andThen_ok]
    rw [Sem.run_bind]
    refine (congrArg (fun r => Result.andThen r _) e4').trans ?_
    rw [Result.andThen_ok]
    rw [Sem.run_bind]
    refine (congrArg (fun r => Result.andThen r _) e5').trans ?_
    rw [Result.andThen_ok]
    rw [Sem.run_bind]
    refine (congrArg (fun r => Result.andThen r _) e6').trans ?_
    rw [Result.andThen_ok]
    rw [Sem.run_bind]
    refine (congrArg (fun r => Result.andThen r _) e7').trans ?_
    rw [Result.andThen_ok]
    rw [Sem.run_bind]
    refine (congrArg (fun r => Result.andThen r _) e8').trans ?_
    rw [Result.andThen_ok]
    rw [Sem.run_bind]
    refine (congrArg (fun r => Result.andThen r _) g1').trans ?_
    rw [Result.andThen_ok]
    rw [Sem.run_bind]
    refine (congrArg (fun r => Result.andThen r _) g2').trans ?_
    rw [Result.andThen_ok]
    rw [Sem.run_bind]
    refine (congrArg (fun r => Result.andThen r _) g3').trans ?_
    rw [Result.andThen_ok]
    rw [Sem.run_bind]
    refine (congrArg (fun r => Result.andThen r _) g4').trans ?_
    rw [Result.andThen_ok]
    rw [Sem.run_bind]
    refine (congrArg (fun r => Result.andThen r _) g5').trans ?_
    rw [Result.andThen_ok]
    rw [Sem.run_bind]
    refine (congrArg (fun r => Result.andThen r _) g6').trans ?_
    rw [Result.andThen_ok]
    rw [Sem.run_bind]
    refine (congrArg (fun r => Result.andThen r _) g7').trans ?_
    rw [Result.andThen_ok]
    rw [Sem.run_bind]
    refine (congrArg (fun r => Result.andThen r _) g8').trans ?_
    rw [Result.andThen_ok]
    rw [Sem.run_bind]
    refine (congrArg (fun r => Result.andThen r _) g9').trans ?_
    rw [Result.andThen_ok]
    rw [Sem.run_bind]
    refine (congrArg (fun r => Result.andThen r _) ga').trans ?_
    rw [Result.andThen_ok]
    rw [Sem.run_bind]
    refine (congrArg (fun r => Result.andThen r _) gb').trans ?_
    rw [Result.andThen_ok]
    rw [Sem.run_bind]
    refine (congrArg (fun r => Result.andThen r _) gc').trans ?_
    rw [Result.andThen_ok]
    rw [Sem.run_bind]
    refine (congrArg (fun r => Result.andThen r _) gd').trans ?_
    rw [Result.andThen_ok]
    rw [Sem.run_bind]
    refine (congrArg (fun r => Result.andThen r _) ge').trans ?_
    rw [Result.andThen_ok]
    rw [Sem.run_bind]
    refine (congrArg (fun r => Result.andThen r _) gf').trans ?_
    rw [Result.andThen_ok]
    rw [Sem.run_bind]
    refine (congrArg (fun r => Result.andThen r _) gg').trans ?_
    rw [Result.andThen_ok]
    rw [Sem.run_bind]
    refine (congrArg (fun r => Result.andThen r _) gh').trans ?_
    rw [Result.andThen_ok]
    rw [Sem.run_bind]
    refine (congrArg (fun r => Result.andThen r _) gi').trans ?_
    rw [Result.andThen_ok]
    rw [Sem.run_bind]
    refine (congrArg (fun r => Result.andThen r _) gj').trans ?_
    rw [Result.andThen_ok]
    rw [Sem.run_bind]
    refine (congrArg (fun r => Result.andThen r _) gk').trans ?_
    rw [Result.andThen_ok]
    rw [Sem.run_bind]
    refine (congrArg (fun r => Result.andThen r _) gl').trans ?_
    rw [Result.andThen_ok]
    rw [Sem.run_bind]
    refine (congrArg (fun r => Result.andThen r _) gm').trans ?_
    rw [Result.andThen_ok]
    rw [Sem.run_bind]
    refine (congrArg (fun r => Result.andThen r _) gn').trans ?_
    rw [Result.andThen_ok]
    rfl

end Go.Proofs.Qxb6616692a
