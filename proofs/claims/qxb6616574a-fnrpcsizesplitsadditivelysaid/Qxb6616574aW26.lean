import Derived.Test.Qxb6616574aW16
import Derived.Test.Qxb6616574aW19
import Derived.Test.Qxb6616574aW25
namespace Go.Proofs.Qxb6616574a
open Go.RowKit

/-- Where 'x[c:]' begins. -/
def lowA (a : Option Addr) (c cap size : Nat) : Option Addr := if cap = c then a else a.map (·.add (c * size))

theorem Addr.add_zero' (a : Addr) : a.add 0 = a := by cases a; simp [Addr.add]

theorem run_hi (t e size : Nat) (a : Option Addr) (n cap c : Nat) (ht : Try.prog.underlying t = some (.slice e)) (hsz : (Try.prog.info? e).map (·.size) = some size) (hc : c ≤ cap) (w : World) :
    (Instr.slice t (.slice a n cap) none (some (.int .i64 (c : Int))) none).run Try.prog w = .ok (.slice a c cap) w := by
  obtain ⟨i, hi, hs⟩ := Option.map_eq_some_iff.1 hsz
  have h1 : (0 : Int) ≤ (c : Int) ∧ (c : Int) ≤ (cap : Int) := by omega
  cases a <;> simp [Instr.slice, run_underlying ht, Instr.sliceBounds, Instr.sliceBound, asIntOf, hc, sizeOf, typeInfo, hi, Addr.add_zero']

theorem run_lo (t e size : Nat) (a : Option Addr) (n cap c : Nat) (ht : Try.prog.underlying t = some (.slice e)) (hsz : (Try.prog.info? e).map (·.size) = some size) (hc : c ≤ n) (w : World) :
    (Instr.slice t (.slice a n cap) (some (.int .i64 (c : Int))) none none).run Try.prog w = .ok (.slice (lowA a c cap size) (n - c) (cap - c)) w := by
  obtain ⟨i, hi, hs⟩ := Option.map_eq_some_iff.1 hsz
  simp [Instr.slice, run_underlying ht, Instr.sliceBounds, Instr.sliceBound, asIntOf, hc, sizeOf, typeInfo, hi, hs, lowA]

theorem Try.size36 : (Try.prog.info? 36).map (·.size) = some 2 := by kernel_rfl
theorem Try.size27 : (Try.prog.info? 27).map (·.size) = some 1 := by kernel_rfl

theorem RowAt.first {w : World} {B : Nat} {a : Option Addr} {n size : Nat} {V : Nat → Nat → Value} (h : RowAt w B a n size V) {c : Nat} (hc : c ≤ n) : RowAt w B a c size V := by
  refine ⟨Nat.le_trans hc h.1, fun h0 => ?_⟩
  obtain ⟨b, off, ha, hb, hcel⟩ := h.2 (by omega)
  exact ⟨b, off, ha, hb, fun i j hi hj => hcel i j (by omega) hj⟩
theorem RowAt.last {w : World} {B : Nat} {a : Option Addr} {n size : Nat} {V : Nat → Nat → Value} (h : RowAt w B a n size V) {c cap : Nat} (hc : c ≤ n) (hcap : n ≤ cap) : RowAt w B (lowA a c cap size) (n - c) size (fun i j => V (i + c) j) := by
  refine ⟨by have := h.1; omega, fun h0 => ?_⟩
  obtain ⟨b, off, ha, hb, hcel⟩ := h.2 (by omega)
  refine ⟨b, off + c * size, ?_, hb, fun i j hi hj => ?_⟩
  · rw [lowA, if_neg (by omega), ha]; simp [Addr.add]
  · have := hcel (i + c) j (by omega) hj
    rw [Nat.add_mul] at this
    rw [← this, show off + c * size + i * size + j = off + (i * size + c * size) + j from by omega]
theorem RowAt.congr {w : World} {B : Nat} {a : Option Addr} {n size : Nat} {V V' : Nat → Nat → Value} (h : RowAt w B a n size V) (hv : ∀ i j, i < n → V i j = V' i j) : RowAt w B a n size V' := by
  refine ⟨h.1, fun h0 => ?_⟩
  obtain ⟨b, off, ha, hb, hcel⟩ := h.2 h0
  exact ⟨b, off, ha, hb, fun i j hi hj => by rw [← hv i j hi]; exact hcel i j hi hj⟩
theorem RowAt.none (w : World) (B size : Nat) (V : Nat → Nat → Value) : RowAt w B none 0 size V := ⟨Nat.zero_le _, fun h => absurd h (by omega)⟩

theorem Pl.sum_split (f : Nat → Int) (c : Nat) : ∀ m, Pl.sum f (c + m) = Pl.sum f c + Pl.sum (fun i => f (i + c)) m
  | 0 => by simp [Pl.sum]
  | m + 1 => by rw [← Nat.add_assoc, Pl.sum_succ, Pl.sum_split f c m, Pl.sum_succ, Int.add_assoc, Nat.add_comm c m]
theorem Pl.ssum_split (f : Nat → Sub) {c n : Nat} (h : c ≤ n) : Pl.ssum f n = Pl.ssum f c + Pl.ssum (fun i => f (i + c)) (n - c) := by
  have := Pl.sum_split (fun k => Pl.field (f k).body) c (n - c)
  rwa [show c + (n - c) = n from by omega] at this
theorem Pl.msum_split (f : Nat → Msg) {c n : Nat} (h : c ≤ n) : Pl.msum f n = Pl.msum f c + Pl.msum (fun i => f (i + c)) (n - c) := by
  have := Pl.sum_split (fun k => Pl.field (f k).body) c (n - c)
  rwa [show c + (n - c) = n from by omega] at this

/-- The source, but for the control message. -/
structure Src (w : World) (sa : Option Addr) (sn sc : Nat) (sf : Nat → Sub) (ma : Option Addr) (mn mc : Nat) (ab ao : Nat → Nat) (mf : Nat → Msg) : Prop where
  sr : RowAt w w.heap.size sa sn 2 (fun i j => (sf i).cell j)
  se : ∀ i, i < sn → (sf i).In w w.heap.size
  mr : RowAt w w.heap.size ma mn 1 (fun i _ => .pointer (some ⟨ab i, ao i, none⟩))
  me : ∀ i, i < mn → ab i < w.heap.size ∧ (∀ j, j < 6 → w.cell? ⟨ab i, ao i + j, none⟩ = some ((mf i).cell j)) ∧ (mf i).Ok

theorem Src.below {w w' : World} {sa ma : Option Addr} {sn sc mn mc : Nat} {sf : Nat → Sub} {ab ao : Nat → Nat} {mf : Nat → Msg} (h : Src w sa sn sc sf ma mn mc ab ao mf) (hb : Below w.heap.size w w') : Src w' sa sn sc sf ma mn mc ab ao mf :=
  ⟨(h.sr.below hb).more hb.size, fun i hi => ((h.se i hi).below hb).more hb.size, (h.mr.below hb).more hb.size,
   fun i hi => ⟨Nat.lt_of_lt_of_le (h.me i hi).1 hb.size, fun j hj => (hb.cell (h.me i hi).1).trans ((h.me i hi).2.1 j hj), (h.me i hi).2.2⟩⟩

/-- Build, of what came in; its size. -/
theorem srcBuild_nil {w wi : World} {sa ma : Option Addr} {sn sc mn mc : Nat} {sf : Nat → Sub} {ab ao : Nat → Nat} {mf : Nat → Msg} (h : Src w sa sn sc sf ma mn mc ab ao mf) (hb : Below w.heap.size w wi) (h1 : sn ≤ 1048576) (h2 : mn ≤ 1048576) :
    Calls Try.prog 7 #[.slice sa sn sc, .slice ma mn mc, .pointer none] wi fun e w' => e = .returned (.pointer (some ⟨wi.heap.size, 0, none⟩)) ∧ RpcBuilt wi w' sn mn sf mf none :=
  have h' := h.below hb
  build_nil sa sn sc sf ma mn mc mf ab ao wi h1 h2 h'.sr h'.mr (fun i hi => ⟨(h'.me i hi).1, (h'.me i hi).2.1⟩)

theorem srcSize_nil {w wi w' : World} {sa ma : Option Addr} {sn sc mn mc : Nat} {sf : Nat → Sub} {ab ao : Nat → Nat} {mf : Nat → Msg} (h : Src w sa sn sc sf ma mn mc ab ao mf) (hb : Below w.heap.size w wi) (hr : RpcBuilt wi w' sn mn sf mf none) :
    Calls Try.prog 8 #[.pointer (some ⟨wi.heap.size, 0, none⟩)] w' fun e w'' => ∃ r, Hid (r = wrap64 (Pl.ssum sf sn + Pl.msum mf mn)) ∧ e = .returned (.int .i64 r) ∧ Hid (Below w.heap.size w w'') := by
  have hbi : Below wi.heap.size wi w' := hr.choose_spec.choose_spec.choose_spec.choose_spec.choose_spec.2.2.2.2
  have hbb : Below w.heap.size w w' := hb.trans (hbi.mono hb.size)
  have h' := h.below hbb
  refine (size_built_nil hr h'.se h'.sr.1 h'.mr.1 (fun i hi => (h'.me i hi).2.2)).mono ?_
  rintro e w'' ⟨r, h1, h2, h3⟩
  exact ⟨r, h1, h2, hbb.trans (h3.mono hbb.size)⟩

theorem srcBuild_ctl {w wi : World} {sa ma : Option Addr} {sn sc mn mc cb co : Nat} {y : Ctl} {sf : Nat → Sub} {ab ao : Nat → Nat} {mf : Nat → Msg} (h : Src w sa sn sc sf ma mn mc ab ao mf) (hb : Below w.heap.size w wi) (h1 : sn ≤ 1048576) (h2 : mn ≤ 1048576)
    (hcb : cb < w.heap.size) (hcc : ∀ j, j < 5 → w.cell? ⟨cb, co + j, none⟩ = some (y.cell j)) (hy : y.In w w.heap.size) (hys : y.Small) :
    Calls Try.prog 7 #[.slice sa sn sc, .slice ma mn mc, .pointer (some ⟨cb, co, none⟩)] wi fun e w' => e = .returned (.pointer (some ⟨wi.heap.size, 0, none⟩)) ∧ ∃ cb', RpcBuilt wi w' sn mn sf mf (some ⟨cb', 0, none⟩) ∧ CtlLies wi w' y cb' :=
  have h' := h.below hb
  build_ctl sa sn sc sf ma mn mc mf ab ao cb co y wi h1 h2 h'.sr h'.mr (fun i hi => ⟨(h'.me i hi).1, (h'.me i hi).2.1⟩) (Nat.lt_of_lt_of_le hcb hb.size) (fun j hj => (hb.cell hcb).trans (hcc j hj)) ((hy.below hb).more hb.size) hys

theorem srcSize_ctl {w wi w' : World} {sa ma : Option Addr} {sn sc mn mc cb' : Nat} {y : Ctl} {sf : Nat → Sub} {ab ao : Nat → Nat} {mf : Nat → Msg} (h : Src w sa sn sc sf ma mn mc ab ao mf) (hb : Below w.heap.size w wi) (hr : RpcBuilt wi w' sn mn sf mf (some ⟨cb', 0, none⟩)) (hl : CtlLies wi w' y cb') :
    Calls Try.prog 8 #[.pointer (some ⟨wi.heap.size, 0, none⟩)] w' fun e w'' => ∃ r, Hid (r = wrap64 (Pl.ssum sf sn + Pl.msum mf mn + Pl.field y.body)) ∧ e = .returned (.int .i64 r) ∧ Hid (Below w.heap.size w w'') := by
  have hbi : Below wi.heap.size wi w' := hr.choose_spec.choose_spec.choose_spec.choose_spec.choose_spec.2.2.2.2
  have hbb : Below w.heap.size w w' := hb.trans (hbi.mono hb.size)
  have h' := h.below hbb
  refine (size_built_ctl hr hl h'.se h'.sr.1 h'.mr.1 (fun i hi => (h'.me i hi).2.2)).mono ?_
  rintro e w'' ⟨r, h1, h2, h3⟩
  exact ⟨r, h1, h2, hbb.trans (h3.mono hbb.size)⟩

/-- From what came in, no message nil. -/
theorem Src.of {w : World} {sa ma : Option Addr} {sn sc mn mc : Nat} {sf : Nat → Sub} {P : Nat → Option Addr} {mf : Nat → Msg} (hsr : RowAt w w.heap.size sa sn 2 (fun i j => (sf i).cell j)) (hse : ∀ i, i < sn → (sf i).In w w.heap.size)
    (hmr : RowAt w w.heap.size ma mn 1 (fun i _ => .pointer (P i))) (hme : PubIn w w.heap.size P mf mn) (hp : ∀ i, i < mn → (P i).isSome = true) :
    Src w sa sn sc sf ma mn mc (fun i => ((P i).getD ⟨0, 0, none⟩).block) (fun i => ((P i).getD ⟨0, 0, none⟩).off) mf := by
  have key : ∀ i, i < mn → ∃ b o, P i = some ⟨b, o, none⟩ ∧ b < w.heap.size ∧ (∀ j, j < 6 → w.cell? ⟨b, o + j, none⟩ = some ((mf i).cell j)) ∧ (mf i).Ok := by
    intro i hi
    obtain ⟨a, ha⟩ := Option.isSome_iff_exists.1 (hp i hi)
    obtain ⟨b, o, rfl, h⟩ := hme i hi a ha
    exact ⟨b, o, ha, h⟩
  refine ⟨hsr, hse, hmr.congr (fun i j hi => ?_), fun i hi => ?_⟩
  · obtain ⟨b, o, h, _⟩ := key i hi
    rw [h]; rfl
  · obtain ⟨b, o, h, hb, hc, hok⟩ := key i hi
    simp only [h]
    exact ⟨hb, hc, hok⟩

theorem Src.subs {w : World} {sa ma : Option Addr} {sn sc mn mc : Nat} {sf : Nat → Sub} {ab ao : Nat → Nat} {mf : Nat → Msg} (h : Src w sa sn sc sf ma mn mc ab ao mf) : Src w sa sn sc sf none 0 0 ab ao mf :=
  ⟨h.sr, h.se, RowAt.none _ _ _ _, fun i hi => absurd hi (by omega)⟩
theorem Src.pubs {w : World} {sa ma : Option Addr} {sn sc mn mc : Nat} {sf : Nat → Sub} {ab ao : Nat → Nat} {mf : Nat → Msg} (h : Src w sa sn sc sf ma mn mc ab ao mf) : Src w none 0 0 sf ma mn mc ab ao mf :=
  ⟨RowAt.none _ _ _ _, fun i hi => absurd hi (by omega), h.mr, h.me⟩
theorem Src.empty {w : World} {sa ma : Option Addr} {sn sc mn mc : Nat} {sf : Nat → Sub} {ab ao : Nat → Nat} {mf : Nat → Msg} (h : Src w sa sn sc sf ma mn mc ab ao mf) : Src w none 0 0 sf none 0 0 ab ao mf := h.subs.pubs.subs
theorem Src.subsFirst {w : World} {sa ma : Option Addr} {sn sc mn mc : Nat} {sf : Nat → Sub} {ab ao : Nat → Nat} {mf : Nat → Msg} (h : Src w sa sn sc sf ma mn mc ab ao mf) {c : Nat} (hc : c ≤ sn) : Src w sa c sc sf ma mn mc ab ao mf :=
  ⟨h.sr.first hc, fun i hi => h.se i (by omega), h.mr, h.me⟩
theorem Src.subsLast {w : World} {sa ma : Option Addr} {sn sc mn mc : Nat} {sf : Nat → Sub} {ab ao : Nat → Nat} {mf : Nat → Msg} (h : Src w sa sn sc sf ma mn mc ab ao mf) {c : Nat} (hc : c ≤ sn) (hcap : sn ≤ sc) : Src w (lowA sa c sc 2) (sn - c) (sc - c) (fun i => sf (i + c)) ma mn mc ab ao mf :=
  ⟨h.sr.last hc hcap, fun i hi => h.se (i + c) (by omega), h.mr, h.me⟩
theorem Src.pubsFirst {w : World} {sa ma : Option Addr} {sn sc mn mc : Nat} {sf : Nat → Sub} {ab ao : Nat → Nat} {mf : Nat → Msg} (h : Src w sa sn sc sf ma mn mc ab ao mf) {c : Nat} (hc : c ≤ mn) : Src w sa sn sc sf ma c mc ab ao mf :=
  ⟨h.sr, h.se, h.mr.first hc, fun i hi => h.me i (by omega)⟩
theorem Src.pubsLast {w : World} {sa ma : Option Addr} {sn sc mn mc : Nat} {sf : Nat → Sub} {ab ao : Nat → Nat} {mf : Nat → Msg} (h : Src w sa sn sc sf ma mn mc ab ao mf) {c : Nat} (hc : c ≤ mn) (hcap : mn ≤ mc) : Src w sa sn sc sf (lowA ma c mc 1) (mn - c) (mc - c) (fun i => ab (i + c)) (fun i => ao (i + c)) (fun i => mf (i + c)) :=
  ⟨h.sr, h.se, h.mr.last hc hcap, fun i hi => h.me (i + c) (by omega)⟩

end Go.Proofs.Qxb6616574a
