import Derived.Test.Qxb6616692aA4
namespace Go.Proofs.Qxb6616692a
open Go.RowKit

theorem beq_t {a b : Int} (h : a = b) : (a == b) = true := beq_iff_eq.2 h
theorem beq_f {a b : Int} (h : a ≠ b) : (a == b) = false := beq_eq_false_iff_ne.2 h
theorem bne_t {a b : Int} (h : a ≠ b) : (a != b) = true := bne_iff_ne.2 h
theorem bne_f {a b : Int} (h : a = b) : (a != b) = false := by rw [h]; simp

theorem law6_in (o : Nat) (least : Int) (lim : Nat) (slow sif lat inf : Int) (w : World) (h : Ok6 least slow sif lat inf) :
    Calls Try.prog 6 #[.float .f64 o, .int .i64 least, .float .f64 lim, .int .i64 slow, .int .i64 sif, .int .i64 lat, .int .i64 inf] w fun e w' => e = .returned (.bool true) ∧ Below w.heap.size w w' := by
  obtain ⟨h0, h1, h2, h3, hss⟩ := h
  obtain ⟨a, s, f, ho1, ho2, hc⟩ := obs_cases (fgt o lim) least slow sif lat inf h0 h1 h2
  have ha0 : 0 ≤ a := by rcases hc with h | h | h | h <;> omega
  have HO : OB o least lim slow sif lat inf a s f :=
    ⟨fun R E w hl => zzObserve_any R E o least lat inf lim slow sif a s f w hl h0 h2 h3 ho1,
     fun R E w hl => zzObserve_any R E o a lat inf o s f a s f w hl ha0 h2 h3 (by rw [fgt_self]; exact ho2)⟩
  clear ho1 ho2 ha0
  rcases hc with ⟨hc1, rfl, rfl, rfl⟩ | ⟨hc1, hc2, rfl, rfl, rfl⟩ | ⟨hc1, hc2, hg, hc3, rfl, rfl, rfl⟩ | ⟨hc1, hc2, hg, hc3, rfl, rfl, rfl⟩
  · rcases hss with ⟨hs1, hs2⟩ | ⟨hs1, hs2, hs3, hs4, hs5⟩
    · by_cases hz : least = 0
      · by_cases hq : a = least
        · exact law6_1z_true_true o least lim slow sif a inf w h0 h1 h2 h3 (beq_t hs1) (bne_f hs2) (beq_t hz) (bne_f hq) HO
        · exact law6_1z_true_false o least lim slow sif a inf w h0 h1 h2 h3 (beq_t hs1) (bne_f hs2) (beq_t hz) (bne_t hq) HO
      · by_cases hq : a = least
        · exact law6_1z_false_true o least lim slow sif a inf w h0 h1 h2 h3 (beq_t hs1) (bne_f hs2) (beq_f hz) (by omega) (bne_f hq) HO
        · exact law6_1z_false_false o least lim slow sif a inf w h0 h1 h2 h3 (beq_t hs1) (bne_f hs2) (beq_f hz) (by omega) (bne_t hq) HO
    · by_cases hq : a = least
      · exact law6_1n_false_true o least lim slow sif a inf w h0 h1 h2 h3 (beq_f hs1) (beq_f hs2) hs3 hs4 hs5 (by omega) (bne_f hq) HO
      · exact law6_1n_false_false o least lim slow sif a inf w h0 h1 h2 h3 (beq_f hs1) (beq_f hs2) hs3 hs4 hs5 (by omega) (bne_t hq) HO
  · rcases hss with ⟨hs1, hs2⟩ | ⟨hs1, hs2, hs3, hs4, hs5⟩
    · cases hg : (FloatKind.f64.format.order o lim == some .gt) with
      | true => exact law6_2z_true o a lim slow sif s f w h0 h1 h2 h3 (beq_t hs1) (bne_f hs2) (beq_f hc1) hc2 (beq_f (by omega)) (beq_f (by omega)) hg HO
      | false => exact law6_2z_false o a lim slow sif s f w h0 h1 h2 h3 (beq_t hs1) (bne_f hs2) (beq_f hc1) hc2 (beq_f (by omega)) (beq_f (by omega)) hg HO
    · cases hg : (FloatKind.f64.format.order o lim == some .gt) with
      | true => exact law6_2n_true o a lim slow sif s f w h0 h1 h2 h3 (beq_f hs1) (beq_f hs2) hs3 hs4 hs5 hc2 (beq_f (by omega)) (beq_f (by omega)) hg HO
      | false => exact law6_2n_false o a lim slow sif s f w h0 h1 h2 h3 (beq_f hs1) (beq_f hs2) hs3 hs4 hs5 hc2 (beq_f (by omega)) (beq_f (by omega)) hg HO
  · rcases hss with ⟨hs1, hs2⟩ | ⟨hs1, hs2, hs3, hs4, hs5⟩
    · omega
    · exact law6_3n o least lim slow sif a inf w h0 h1 h2 h3 (beq_f hs1) (beq_f hs2) hs3 hs4 hs5 hc2 (bne_t (by omega)) hg hc3 HO
  · rcases hss with ⟨hs1, hs2⟩ | ⟨hs1, hs2, hs3, hs4, hs5⟩
    · omega
    · by_cases hq : s = lat
      · by_cases hr : f = inf
        · exact law6_4n_tt o a lim s f lat inf w h0 h1 h2 h3 (beq_f hs1) (beq_f hs2) hs3 hs4 hs5 hc2 (beq_f (by omega)) hg hc3 (beq_t hq) (beq_t hr) HO
        · exact law6_4n_tf o a lim s f lat inf w h0 h1 h2 h3 (beq_f hs1) (beq_f hs2) hs3 hs4 hs5 hc2 (beq_f (by omega)) hg hc3 (beq_t hq) (beq_f hr) HO
      · exact law6_4n_f o a lim s f lat inf w h0 h1 h2 h3 (beq_f hs1) (beq_f hs2) hs3 hs4 hs5 hc2 (beq_f (by omega)) hg hc3 (beq_f hq) HO

theorem law6_any (o : Nat) (least : Int) (lim : Nat) (slow sif lat inf : Int) (w : World) :
    Calls Try.prog 6 #[.float .f64 o, .int .i64 least, .float .f64 lim, .int .i64 slow, .int .i64 sif, .int .i64 lat, .int .i64 inf] w fun e w' => e = .returned (.bool true) ∧ Below w.heap.size w w' := by
  by_cases h : Ok6 least slow sif lat inf
  · exact law6_in o least lim slow sif lat inf w h
  · exact law6_out o least lim slow sif lat inf w h
end Go.Proofs.Qxb6616692a
