import Derived.Test.Qxb6616574aW8
namespace Go.Proofs.Qxb6616574a
open Go.RowKit

theorem cf22 (args : Array Value) (w : World) : (callFunc 22 args).run Try.prog w = .ok (.enter 22 args) w := by rfl
theorem cf23 (args : Array Value) (w : World) : (callFunc 23 args).run Try.prog w = .ok (.enter 23 args) w := by rfl
theorem cf24 (args : Array Value) (w : World) : (callFunc 24 args).run Try.prog w = .ok (.enter 24 args) w := by rfl
theorem cf34 (args : Array Value) (w : World) : (callFunc 34 args).run Try.prog w = .ok (.enter 34 args) w := by rfl
theorem cf35 (args : Array Value) (w : World) : (callFunc 35 args).run Try.prog w = .ok (.enter 35 args) w := by rfl
theorem cf36 (args : Array Value) (w : World) : (callFunc 36 args).run Try.prog w = .ok (.enter 36 args) w := by rfl
theorem cf37 (args : Array Value) (w : World) : (callFunc 37 args).run Try.prog w = .ok (.enter 37 args) w := by rfl
theorem cf38 (args : Array Value) (w : World) : (callFunc 38 args).run Try.prog w = .ok (.enter 38 args) w := by rfl
theorem cf44 (args : Array Value) (w : World) : (callFunc 44 args).run Try.prog w = .ok (.enter 44 args) w := by rfl

theorem Pl.sum_zero (f : Nat → Int) : Pl.sum f 0 = 0 := rfl
theorem Pl.sum_succ (f : Nat → Int) (k : Nat) : Pl.sum f (k + 1) = Pl.sum f k + f k := rfl

/-- A PRUNE. -/
structure Pr where
  q : Option Addr
  s : ByteArray
  pa : Option Addr
  pn : Nat
  pc : Nat
  ps : Nat → Peer
  k : Option Addr
  v : Int
def Pr.cell (x : Pr) (j : Nat) : Value := if j = 0 then .pointer x.q else if j = 1 then .slice x.pa x.pn x.pc else .pointer x.k
def Pr.In (w : World) (B : Nat) (x : Pr) : Prop := StrIn w B x.q x.s ∧ RowAt w B x.pa x.pn 2 (fun i j => (x.ps i).cell j) ∧ (∀ i, i < x.pn → (x.ps i).Ok) ∧ NumIn w B x.k x.v
def Pr.peers (x : Pr) (n : Nat) : Int := Pl.sum (fun i => Pl.field (x.ps i).body) n
def Pr.body (x : Pr) : Int := Pl.ostr x.q x.s + x.peers x.pn + (if x.k.isSome then 1 + Pl.vl x.v else 0)
theorem Pr.peers_zero (x : Pr) : x.peers 0 = 0 := rfl
theorem Pr.peers_succ (x : Pr) (k : Nat) : x.peers (k + 1) = x.peers k + Pl.field (x.ps k).body := rfl


set_option maxHeartbeats 1000000 in
theorem prEncode_none_none (E b o : Nat) (z : Int) (x : Pr) (w : World) (hE : EncS E w z) (hb : b < E)
    (c0 : w.cell? ⟨b, o, none⟩ = some (.pointer none)) (c1 : w.cell? ⟨b, o + 1, none⟩ = some (.slice x.pa x.pn x.pc)) (c2 : w.cell? ⟨b, o + 2, none⟩ = some (.pointer none))
    (hr : RowAt w E x.pa x.pn 2 (fun i j => (x.ps i).cell j)) (hok : ∀ i, i < x.pn → (x.ps i).Ok) :
    Calls Try.prog 37 #[.pointer (some ⟨b, o, none⟩), .pointer (some ⟨E, 0, none⟩)] w (EncP E z (x.peers x.pn) w) := by
  obtain ⟨z0, hz0, HE0, HB0⟩ : ∃ x, Hid (x = wrap64 (z + 0)) ∧ Hid (EncS E w x) ∧ Hid (Below E w w) := EncR.start hE
  clear hE
  have hm := hr.1
  unfold maxLen at hm
  have HRW : Hid (RowAt w E x.pa x.pn 2 (fun i j => (x.ps i).cell j)) := hr
  have HOK : Hid (∀ i, i < x.pn → (x.ps i).Ok) := hok
  clear hr hok
  go_enter Try.func37, Try.ntmps37
  go_wp2_with fail
  go_loopw [4, 23] (fun _ i wr => ∃ k : Nat, k ≤ x.pn ∧ i = .int .i64 k ∧ Hid (EncR E z (0 + x.peers k) w wr)) (fun _ i _ => x.pn - (intOf i).toNat)
  case atStart => exact ⟨0, Nat.zero_le _, rfl, EncR.of ⟨z0, hz0, HE0.out, HB0.out⟩ (by rw [Pr.peers_zero, Int.add_zero])⟩
  case round =>
  obtain ⟨k, hk, rfl, hr⟩ := hrel
  obtain ⟨z1, hz1, HE1, HB1⟩ : ∃ x', Hid (x' = wrap64 (z + (0 + x.peers k))) ∧ Hid (EncS E wr x') ∧ Hid (Below E w wr) := hr
  obtain ⟨w1, rfl⟩ : ∃ w1, w1 = wr := ⟨_, rfl⟩
  skip
  by_cases hlt : k < x.pn
  case pos =>
    obtain ⟨rb, ro, ha, hrb, hrc⟩ := HRW.out.2 (by omega)
    have c1' : w1.cell? ⟨b, o + 1, none⟩ = some (.slice (some ⟨rb, ro, none⟩) x.pn x.pc) := by rw [← ha]; exact (HB1.out.cell hb).trans c1
    have HRC : Hid _ := hrc
    clear ha hrc
    go_wp2_with fail
    refine (messageField_any E z1 2 _ 44 _ w1 HE1.out (by omega) cf44 (fun x' w' hE' hB' => peerEncode_any E rb (ro + k * 2) x' (x.ps k) w' hE' hrb ((((HB1.out.trans hB').cell hrb).trans (HRC.out k 0 hlt (by omega)))) ((((HB1.out.trans hB').cell hrb).trans (HRC.out k 1 hlt (by omega)))) (HOK.out k hlt))).mono ?_
    rintro e w2 ⟨rfl, hr2⟩
    have HR : Hid (EncR E z (0 + x.peers (k + 1)) w w2) := EncR.of (EncR.next hz1 HB1.out hr2) (by rw [Pr.peers_succ]; omega)
    clear hr2 c1'
    go_wp2
    go_roundw
    case rel => exact ⟨k + 1, by omega, by go_num, HR⟩
    case measure => simp [intOf]; omega
  obtain rfl : k = x.pn := by omega
  clear hlt hk
  have c2' := (HB1.out.cell (p := ⟨b, o + 2, none⟩) hb).trans c2
  go_wp2
  go_end0
  exact ⟨rfl, EncR.of ⟨z1, hz1, HE1.out, HB1.out⟩ (by omega)⟩

set_option maxHeartbeats 1000000 in
theorem prEncode_none_some (E b o : Nat) (z : Int) (x : Pr) (w : World) (hE : EncS E w z) (hb : b < E) (ka : Addr)
    (c0 : w.cell? ⟨b, o, none⟩ = some (.pointer none)) (c1 : w.cell? ⟨b, o + 1, none⟩ = some (.slice x.pa x.pn x.pc)) (c2 : w.cell? ⟨b, o + 2, none⟩ = some (.pointer (some ka)))
    (hr : RowAt w E x.pa x.pn 2 (fun i j => (x.ps i).cell j)) (hok : ∀ i, i < x.pn → (x.ps i).Ok) (hk : NumIn w E (some ka) x.v) :
    Calls Try.prog 37 #[.pointer (some ⟨b, o, none⟩), .pointer (some ⟨E, 0, none⟩)] w (EncP E z (x.peers x.pn + (1 + Pl.vl x.v)) w) := by
  obtain ⟨z0, hz0, HE0, HB0⟩ : ∃ x, Hid (x = wrap64 (z + 0)) ∧ Hid (EncS E w x) ∧ Hid (Below E w w) := EncR.start hE
  clear hE
  have hm := hr.1
  unfold maxLen at hm
  have HRW : Hid (RowAt w E x.pa x.pn 2 (fun i j => (x.ps i).cell j)) := hr
  have HOK : Hid (∀ i, i < x.pn → (x.ps i).Ok) := hok
  clear hr hok
  have HK : Hid (NumIn w E (some ka) x.v) := hk
  clear hk
  go_enter Try.func37, Try.ntmps37
  go_wp2_with fail
  go_loopw [4, 23] (fun _ i wr => ∃ k : Nat, k ≤ x.pn ∧ i = .int .i64 k ∧ Hid (EncR E z (0 + x.peers k) w wr)) (fun _ i _ => x.pn - (intOf i).toNat)
  case atStart => exact ⟨0, Nat.zero_le _, rfl, EncR.of ⟨z0, hz0, HE0.out, HB0.out⟩ (by rw [Pr.peers_zero, Int.add_zero])⟩
  case round =>
  obtain ⟨k, hk, rfl, hr⟩ := hrel
  obtain ⟨z1, hz1, HE1, HB1⟩ : ∃ x', Hid (x' = wrap64 (z + (0 + x.peers k))) ∧ Hid (EncS E wr x') ∧ Hid (Below E w wr) := hr
  obtain ⟨w1, rfl⟩ : ∃ w1, w1 = wr := ⟨_, rfl⟩
  skip
  by_cases hlt : k < x.pn
  case pos =>
    obtain ⟨rb, ro, ha, hrb, hrc⟩ := HRW.out.2 (by omega)
    have c1' : w1.cell? ⟨b, o + 1, none⟩ = some (.slice (some ⟨rb, ro, none⟩) x.pn x.pc) := by rw [← ha]; exact (HB1.out.cell hb).trans c1
    have HRC : Hid _ := hrc
    clear ha hrc
    go_wp2_with fail
    refine (messageField_any E z1 2 _ 44 _ w1 HE1.out (by omega) cf44 (fun x' w' hE' hB' => peerEncode_any E rb (ro + k * 2) x' (x.ps k) w' hE' hrb ((((HB1.out.trans hB').cell hrb).trans (HRC.out k 0 hlt (by omega)))) ((((HB1.out.trans hB').cell hrb).trans (HRC.out k 1 hlt (by omega)))) (HOK.out k hlt))).mono ?_
    rintro e w2 ⟨rfl, hr2⟩
    have HR : Hid (EncR E z (0 + x.peers (k + 1)) w w2) := EncR.of (EncR.next hz1 HB1.out hr2) (by rw [Pr.peers_succ]; omega)
    clear hr2 c1'
    go_wp2
    go_roundw
    case rel => exact ⟨k + 1, by omega, by go_num, HR⟩
    case measure => simp [intOf]; omega
  obtain rfl : k = x.pn := by omega
  clear hlt hk
  have c2' := (HB1.out.cell (p := ⟨b, o + 2, none⟩) hb).trans c2
  have k1' := (HB1.out.cell (HK.out ka rfl).1).trans (HK.out ka rfl).2.1
  go_wp2_with fail
  refine (varintField_any E z1 3 x.v w1 HE1.out (by omega) (HK.out ka rfl).2.2.1 (HK.out ka rfl).2.2.2).mono ?_
  rintro e w2 ⟨rfl, hr2⟩
  obtain ⟨z2, hz2, HE2, HB2⟩ : ∃ x, Hid (x = wrap64 (z + _)) ∧ Hid (EncS E w2 x) ∧ Hid (Below E w w2) := EncR.next hz1 HB1.out hr2
  clear hr2
  go_wp2
  go_end0
  exact ⟨rfl, EncR.of ⟨z2, hz2, HE2.out, HB2.out⟩ (by omega)⟩

set_option maxHeartbeats 1000000 in
theorem prEncode_some_none (E b o : Nat) (z : Int) (x : Pr) (w : World) (hE : EncS E w z) (hb : b < E) (qa : Addr)
    (c0 : w.cell? ⟨b, o, none⟩ = some (.pointer (some qa))) (c1 : w.cell? ⟨b, o + 1, none⟩ = some (.slice x.pa x.pn x.pc)) (c2 : w.cell? ⟨b, o + 2, none⟩ = some (.pointer none))
    (hr : RowAt w E x.pa x.pn 2 (fun i j => (x.ps i).cell j)) (hok : ∀ i, i < x.pn → (x.ps i).Ok) (hq : StrIn w E (some qa) x.s) :
    Calls Try.prog 37 #[.pointer (some ⟨b, o, none⟩), .pointer (some ⟨E, 0, none⟩)] w (EncP E z (Pl.field x.s.size + x.peers x.pn) w) := by
  obtain ⟨z0, hz0, HE0, HB0⟩ : ∃ x, Hid (x = wrap64 (z + 0)) ∧ Hid (EncS E w x) ∧ Hid (Below E w w) := EncR.start hE
  clear hE
  have hm := hr.1
  unfold maxLen at hm
  have HRW : Hid (RowAt w E x.pa x.pn 2 (fun i j => (x.ps i).cell j)) := hr
  have HOK : Hid (∀ i, i < x.pn → (x.ps i).Ok) := hok
  clear hr hok
  have q1 := (hq qa rfl).2.1
  have HQ : Hid _ := hq
  clear hq
  go_enter Try.func37, Try.ntmps37
  go_wp2_with fail
  refine (stringField_any E z0 1 x.s (HQ.out qa rfl).2.2 w HE0.out (by omega)).mono ?_
  rintro e w1 ⟨rfl, hr1⟩
  obtain ⟨z1, hz1, HE1, HB1⟩ : ∃ x, Hid (x = wrap64 (z + _)) ∧ Hid (EncS E w1 x) ∧ Hid (Below E w w1) := EncR.next hz0 HB0.out hr1
  clear hr1
  have c1w := (HB1.out.cell (p := ⟨b, o + 1, none⟩) hb).trans c1
  go_wp2_with fail
  go_loopw [4, 23] (fun _ i wr => ∃ k : Nat, k ≤ x.pn ∧ i = .int .i64 k ∧ Hid (EncR E z (0 + Pl.field x.s.size + x.peers k) w wr)) (fun _ i _ => x.pn - (intOf i).toNat)
  case atStart => exact ⟨0, Nat.zero_le _, rfl, EncR.of ⟨z1, hz1, HE1.out, HB1.out⟩ (by rw [Pr.peers_zero, Int.add_zero])⟩
  case round =>
  obtain ⟨k, hk, rfl, hr⟩ := hrel
  obtain ⟨z2, hz2, HE2, HB2⟩ : ∃ x', Hid (x' = wrap64 (z + (0 + Pl.field x.s.size + x.peers k))) ∧ Hid (EncS E wr x') ∧ Hid (Below E w wr) := hr
  obtain ⟨w2, rfl⟩ : ∃ w2, w2 = wr := ⟨_, rfl⟩
  clear c1w
  by_cases hlt : k < x.pn
  case pos =>
    obtain ⟨rb, ro, ha, hrb, hrc⟩ := HRW.out.2 (by omega)
    have c1' : w2.cell? ⟨b, o + 1, none⟩ = some (.slice (some ⟨rb, ro, none⟩) x.pn x.pc) := by rw [← ha]; exact (HB2.out.cell hb).trans c1
    have HRC : Hid _ := hrc
    clear ha hrc
    go_wp2_with fail
    refine (messageField_any E z2 2 _ 44 _ w2 HE2.out (by omega) cf44 (fun x' w' hE' hB' => peerEncode_any E rb (ro + k * 2) x' (x.ps k) w' hE' hrb ((((HB2.out.trans hB').cell hrb).trans (HRC.out k 0 hlt (by omega)))) ((((HB2.out.trans hB').cell hrb).trans (HRC.out k 1 hlt (by omega)))) (HOK.out k hlt))).mono ?_
    rintro e w3 ⟨rfl, hr3⟩
    have HR : Hid (EncR E z (0 + Pl.field x.s.size + x.peers (k + 1)) w w3) := EncR.of (EncR.next hz2 HB2.out hr3) (by rw [Pr.peers_succ]; omega)
    clear hr3 c1'
    go_wp2
    go_roundw
    case rel => exact ⟨k + 1, by omega, by go_num, HR⟩
    case measure => simp [intOf]; omega
  obtain rfl : k = x.pn := by omega
  clear hlt hk
  have c2' := (HB2.out.cell (p := ⟨b, o + 2, none⟩) hb).trans c2
  go_wp2
  go_end0
  exact ⟨rfl, EncR.of ⟨z2, hz2, HE2.out, HB2.out⟩ (by omega)⟩

set_option maxHeartbeats 1000000 in
theorem prEncode_some_some (E b o : Nat) (z : Int) (x : Pr) (w : World) (hE : EncS E w z) (hb : b < E) (qa : Addr) (ka : Addr)
    (c0 : w.cell? ⟨b, o, none⟩ = some (.pointer (some qa))) (c1 : w.cell? ⟨b, o + 1, none⟩ = some (.slice x.pa x.pn x.pc)) (c2 : w.cell? ⟨b, o + 2, none⟩ = some (.pointer (some ka)))
    (hr : RowAt w E x.pa x.pn 2 (fun i j => (x.ps i).cell j)) (hok : ∀ i, i < x.pn → (x.ps i).Ok) (hq : StrIn w E (some qa) x.s) (hk : NumIn w E (some ka) x.v) :
    Calls Try.prog 37 #[.pointer (some ⟨b, o, none⟩), .pointer (some ⟨E, 0, none⟩)] w (EncP E z (Pl.field x.s.size + x.peers x.pn + (1 + Pl.vl x.v)) w) := by
  obtain ⟨z0, hz0, HE0, HB0⟩ : ∃ x, Hid (x = wrap64 (z + 0)) ∧ Hid (EncS E w x) ∧ Hid (Below E w w) := EncR.start hE
  clear hE
  have hm := hr.1
  unfold maxLen at hm
  have HRW : Hid (RowAt w E x.pa x.pn 2 (fun i j => (x.ps i).cell j)) := hr
  have HOK : Hid (∀ i, i < x.pn → (x.ps i).Ok) := hok
  clear hr hok
  have q1 := (hq qa rfl).2.1
  have HQ : Hid _ := hq
  clear hq
  have HK : Hid (NumIn w E (some ka) x.v) := hk
  clear hk
  go_enter Try.func37, Try.ntmps37
  go_wp2_with fail
  refine (stringField_any E z0 1 x.s (HQ.out qa rfl).2.2 w HE0.out (by omega)).mono ?_
  rintro e w1 ⟨rfl, hr1⟩
  obtain ⟨z1, hz1, HE1, HB1⟩ : ∃ x, Hid (x = wrap64 (z + _)) ∧ Hid (EncS E w1 x) ∧ Hid (Below E w w1) := EncR.next hz0 HB0.out hr1
  clear hr1
  have c1w := (HB1.out.cell (p := ⟨b, o + 1, none⟩) hb).trans c1
  go_wp2_with fail
  go_loopw [4, 23] (fun _ i wr => ∃ k : Nat, k ≤ x.pn ∧ i = .int .i64 k ∧ Hid (EncR E z (0 + Pl.field x.s.size + x.peers k) w wr)) (fun _ i _ => x.pn - (intOf i).toNat)
  case atStart => exact ⟨0, Nat.zero_le _, rfl, EncR.of ⟨z1, hz1, HE1.out, HB1.out⟩ (by rw [Pr.peers_zero, Int.add_zero])⟩
  case round =>
  obtain ⟨k, hk, rfl, hr⟩ := hrel
  obtain ⟨z2, hz2, HE2, HB2⟩ : ∃ x', Hid (x' = wrap64 (z + (0 + Pl.field x.s.size + x.peers k))) ∧ Hid (EncS E wr x') ∧ Hid (Below E w wr) := hr
  obtain ⟨w2, rfl⟩ : ∃ w2, w2 = wr := ⟨_, rfl⟩
  clear c1w
  by_cases hlt : k < x.pn
  case pos =>
    obtain ⟨rb, ro, ha, hrb, hrc⟩ := HRW.out.2 (by omega)
    have c1' : w2.cell? ⟨b, o + 1, none⟩ = some (.slice (some ⟨rb, ro, none⟩) x.pn x.pc) := by rw [← ha]; exact (HB2.out.cell hb).trans c1
    have HRC : Hid _ := hrc
    clear ha hrc
    go_wp2_with fail
    refine (messageField_any E z2 2 _ 44 _ w2 HE2.out (by omega) cf44 (fun x' w' hE' hB' => peerEncode_any E rb (ro + k * 2) x' (x.ps k) w' hE' hrb ((((HB2.out.trans hB').cell hrb).trans (HRC.out k 0 hlt (by omega)))) ((((HB2.out.trans hB').cell hrb).trans (HRC.out k 1 hlt (by omega)))) (HOK.out k hlt))).mono ?_
    rintro e w3 ⟨rfl, hr3⟩
    have HR : Hid (EncR E z (0 + Pl.field x.s.size + x.peers (k + 1)) w w3) := EncR.of (EncR.next hz2 HB2.out hr3) (by rw [Pr.peers_succ]; omega)
    clear hr3 c1'
    go_wp2
    go_roundw
    case rel => exact ⟨k + 1, by omega, by go_num, HR⟩
    case measure => simp [intOf]; omega
  obtain rfl : k = x.pn := by omega
  clear hlt hk
  have c2' := (HB2.out.cell (p := ⟨b, o + 2, none⟩) hb).trans c2
  have k1' := (HB2.out.cell (HK.out ka rfl).1).trans (HK.out ka rfl).2.1
  go_wp2_with fail
  refine (varintField_any E z2 3 x.v w2 HE2.out (by omega) (HK.out ka rfl).2.2.1 (HK.out ka rfl).2.2.2).mono ?_
  rintro e w3 ⟨rfl, hr3⟩
  obtain ⟨z3, hz3, HE3, HB3⟩ : ∃ x, Hid (x = wrap64 (z + _)) ∧ Hid (EncS E w3 x) ∧ Hid (Below E w w3) := EncR.next hz2 HB2.out hr3
  clear hr3
  go_wp2
  go_end0
  exact ⟨rfl, EncR.of ⟨z3, hz3, HE3.out, HB3.out⟩ (by omega)⟩

theorem prEncode_any (E b o : Nat) (z : Int) (x : Pr) (w : World) (hE : EncS E w z) (hb : b < E)
    (c0 : w.cell? ⟨b, o, none⟩ = some (.pointer x.q)) (c1 : w.cell? ⟨b, o + 1, none⟩ = some (.slice x.pa x.pn x.pc)) (c2 : w.cell? ⟨b, o + 2, none⟩ = some (.pointer x.k)) (hx : x.In w E) :
    Calls Try.prog 37 #[.pointer (some ⟨b, o, none⟩), .pointer (some ⟨E, 0, none⟩)] w (EncP E z x.body w) := by
  obtain ⟨hq, hr, hok, hk⟩ := hx
  unfold Pr.body
  cases hxq : x.q with
  | none =>
    rw [hxq] at c0
    cases hxk : x.k with
    | none =>
      rw [hxk] at c2
      have := prEncode_none_none E b o z x w hE hb c0 c1 c2 hr hok
      simpa [Pl.ostr] using this
    | some ka =>
      rw [hxk] at c2 hk
      have := prEncode_none_some E b o z x w hE hb ka c0 c1 c2 hr hok hk
      simpa [Pl.ostr] using this
  | some qa =>
    rw [hxq] at c0 hq
    cases hxk : x.k with
    | none =>
      rw [hxk] at c2
      have := prEncode_some_none E b o z x w hE hb qa c0 c1 c2 hr hok hq
      simpa [Pl.ostr] using this
    | some ka =>
      rw [hxk] at c2 hk
      have := prEncode_some_some E b o z x w hE hb qa ka c0 c1 c2 hr hok hq hk
      simpa [Pl.ostr] using this

end Go.Proofs.Qxb6616574a
