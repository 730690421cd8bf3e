import Derived.Test.Qxb6614803aMem
import Derived.Laws.BitsAllLaws
namespace Go.Proofs.Qxb6614803a
open Go.RowKit

set_option maxHeartbeats 400000 in
theorem nsec_zero (b : Nat) (w : World) (h : w.cell? ⟨b, 0, none⟩ = some (.int .u64 0)) :
    Calls Try.prog 8 #[.pointer (some ⟨b, 0, none⟩)] w fun e w' => e = .returned (.int .i32 0) ∧ w = w' := by
  have hz : bits .and .u64 0 1073741823 = 0 := by decide
  go_enter Try.func8, Try.ntmps8
  go_wp2
  go_ret
  exact ⟨rfl, rfl⟩

theorem no_mono (x : Int) (h0 : 0 ≤ x) (h1 : x < 1073741824) : bits .and .u64 x 9223372036854775808 = 0 := by
  rw [u64_and x _ h0 (by omega) (by omega) (by omega)]
  have h : x.toNat &&& (9223372036854775808 : Int).toNat = 0 := by
    apply Nat.eq_of_testBit_eq
    intro i
    rw [Nat.testBit_and, Nat.zero_testBit, show (9223372036854775808 : Int).toNat = 2 ^ 63 from rfl, Nat.testBit_two_pow]
    by_cases hi : 63 = i
    · subst hi
      rw [Nat.testBit_lt_two_pow (show x.toNat < 2 ^ 63 by omega)]
      rfl
    · simp [hi]
  rw [h]
  rfl

set_option maxHeartbeats 1000000 in
theorem addSec_zero (b : Nat) (x d : Int) (w : World) (h0 : w.cell? ⟨b, 0, none⟩ = some (.int .u64 x)) (h1 : w.cell? ⟨b, 1, none⟩ = some (.int .i64 0)) (hf : w.frozen? ⟨b, 1, none⟩ = false) (hx0 : 0 ≤ x) (hx1 : x < 1073741824) (hd1 : -9223372036854775808 ≤ d) (hd2 : d ≤ 9223372036854775807) :
    Calls Try.prog 9 #[.pointer (some ⟨b, 0, none⟩), .int .i64 d] w fun e w' => e = .returned (.tuple #[]) ∧ w' = w.setCell ⟨b, 1, none⟩ (.int .i64 d) := by
  have hz := no_mono x hx0 hx1
  by_cases hd : 0 < d
  all_goals
    go_enter Try.func9, Try.ntmps9
    go_wp2
    go_end0
    exact ⟨rfl, rfl⟩
/-- The wall word and the seconds of the zero time, d later. -/
def wallOf (d : Int) : Int := if d.tmod 1000000000 < 0 then d.tmod 1000000000 + 1000000000 else d.tmod 1000000000
def secOf (d : Int) : Int := if d.tmod 1000000000 < 0 then d.tdiv 1000000000 - 1 else d.tdiv 1000000000

def timeOf (d : Int) : Value := .agg #[.int .u64 (wallOf d), .int .i64 (secOf d), .pointer none]

theorem tmod_bounds (d : Int) : -1000000000 < d.tmod 1000000000 ∧ d.tmod 1000000000 < 1000000000 := by
  have h1 := Int.tmod_lt_of_pos d (show (0 : Int) < 1000000000 by omega)
  have h2 : -1000000000 < d.tmod 1000000000 := by
    by_cases h : 0 ≤ d
    · have := Int.tmod_nonneg 1000000000 h
      omega
    · have h3 := Int.tmod_lt_of_pos (-d) (show (0 : Int) < 1000000000 by omega)
      rw [Int.neg_tmod] at h3
      omega
  exact ⟨h2, h1⟩

set_option maxRecDepth 100000 in
set_option maxHeartbeats 1000000 in
theorem add_zero (d : Int) (w : World) (hd1 : -9223372036854775808 ≤ d) (hd2 : d ≤ 9223372036854775807) :
    Calls Try.prog 4 #[.agg #[.int .u64 0, .int .i64 0, .pointer none], .int .i64 d] w fun e w' => e = .returned (timeOf d) ∧ Below w.heap.size w w' := by
  obtain ⟨hm1, hm2⟩ := tmod_bounds d
  have hq1 : -9223372037 ≤ d.tdiv 1000000000 ∧ d.tdiv 1000000000 ≤ 9223372037 := by
    have := Int.mul_tdiv_add_tmod d 1000000000
    omega
  unfold timeOf wallOf secOf
  obtain ⟨m, hm⟩ : ∃ m, d.tmod 1000000000 = m := ⟨_, rfl⟩
  obtain ⟨q, hq⟩ : ∃ q, d.tdiv 1000000000 = q := ⟨_, rfl⟩
  rw [hm] at hm1 hm2 ⊢
  rw [hq] at hq1 ⊢
  obtain ⟨hq1, hq2⟩ := hq1
  have hz : bits .andNot .u64 0 1073741823 = 0 := by decide
  have n0 := (Blk.new w [.int .u64 0, .int .i64 0, .pointer none] 25).alloc (.cells #[.int .u64 0, .int .i64 0, .pointer none] 25)
  have n1 := Blk.new (w.alloc (.cells #[.int .u64 0, .int .i64 0, .pointer none] 25)) [.int .u64 0, .int .i64 0, .pointer none] 25
  have hb : Below w.heap.size w ((w.alloc (.cells #[.int .u64 0, .int .i64 0, .pointer none] 25)).alloc (.cells #[.int .u64 0, .int .i64 0, .pointer none] 25)) := ((Below.refl _ _).alloc (Nat.le_refl _) _).alloc (by simp) _
  simp only [World.size_alloc] at n1
  obtain ⟨w2, hw2⟩ : ∃ w2, ((w.alloc (.cells #[.int .u64 0, .int .i64 0, .pointer none] 25)).alloc (.cells #[.int .u64 0, .int .i64 0, .pointer none] 25)) = w2 := ⟨_, rfl⟩
  have n0' : Blk w2 w.heap.size [.int .u64 0, .int .i64 0, .pointer none] 25 := hw2 ▸ n0
  have n1' : Blk w2 (w.heap.size + 1) [.int .u64 0, .int .i64 0, .pointer none] 25 := hw2 ▸ n1
  rw [hw2] at hb
  clear n0 n1
  have c0 : w2.cell? ⟨w.heap.size, 0, none⟩ = some (.int .u64 0) := n0'.cell 0
  have c1 : w2.cell? ⟨w.heap.size, 1, none⟩ = some (.int .i64 0) := n0'.cell 1
  have f0 : w2.frozen? ⟨w.heap.size, 0, none⟩ = false := n0'.frozen 0
  by_cases hneg : m < 0
  · rw [if_pos hneg, if_pos hneg]
    have hor : bits .or .u64 0 (m + 1000000000) = (m + 1000000000) := by
      rw [u64_or _ _ (by omega) (by omega) (by omega) (by omega)]
      simp
      omega
    have hn9 : Blk (w2.setCell ⟨w.heap.size, 0, none⟩ (.int .u64 (m + 1000000000))) w.heap.size [.int .u64 (m + 1000000000), .int .i64 0, .pointer none] 25 := n0'.set 0 _
    have HS := addSec_zero w.heap.size (m + 1000000000) (q - 1) (w2.setCell ⟨w.heap.size, 0, none⟩ (.int .u64 (m + 1000000000))) (hn9.cell 0) (hn9.cell 1) (hn9.frozen 1) (by omega) (by omega) (by omega) (by omega)
    have hn10 : Blk ((w2.setCell ⟨w.heap.size, 0, none⟩ (.int .u64 (m + 1000000000))).setCell ⟨w.heap.size, 1, none⟩ (.int .i64 (q - 1))) w.heap.size [.int .u64 (m + 1000000000), .int .i64 (q - 1), .pointer none] 25 := hn9.set 1 _
    have hn11 : Blk ((w2.setCell ⟨w.heap.size, 0, none⟩ (.int .u64 (m + 1000000000))).setCell ⟨w.heap.size, 1, none⟩ (.int .i64 (q - 1))) (w.heap.size + 1) [.int .u64 0, .int .i64 0, .pointer none] 25 := (n1'.other _ _ (by simp)).other _ _ (by simp)
    have hb10 : Below w.heap.size w ((w2.setCell ⟨w.heap.size, 0, none⟩ (.int .u64 (m + 1000000000))).setCell ⟨w.heap.size, 1, none⟩ (.int .i64 (q - 1))) := (hb.setCell (by simp) _).setCell (by simp) _
    have hno := no_mono (m + 1000000000) (by omega) (by omega)
    have HS' : Hid (Calls Try.prog 9 _ _ _) := HS
    have HN : Hid (Blk ((w2.setCell ⟨w.heap.size, 0, none⟩ (.int .u64 (m + 1000000000))).setCell ⟨w.heap.size, 1, none⟩ (.int .i64 (q - 1))) w.heap.size [.int .u64 (m + 1000000000), .int .i64 (q - 1), .pointer none] 25 ∧ Blk ((w2.setCell ⟨w.heap.size, 0, none⟩ (.int .u64 (m + 1000000000))).setCell ⟨w.heap.size, 1, none⟩ (.int .i64 (q - 1))) (w.heap.size + 1) [.int .u64 0, .int .i64 0, .pointer none] 25 ∧ Below w.heap.size w ((w2.setCell ⟨w.heap.size, 0, none⟩ (.int .u64 (m + 1000000000))).setCell ⟨w.heap.size, 1, none⟩ (.int .i64 (q - 1)))) := ⟨hn10, hn11, hb10⟩
    clear HS hn9 hn10 hn11 hb10 n0' n1' hb
    go_enter Try.func4, Try.ntmps4
    go_wp2_with fail
    refine (nsec_zero w.heap.size w2 c0).mono ?_
    rintro r w' ⟨rfl, rfl⟩
    go_wp2_with fail
    refine HS'.out.mono ?_
    rintro r w' ⟨rfl, rfl⟩
    clear HS' c0 c1 f0 hw2
    generalize ((w2.setCell ⟨w.heap.size, 0, none⟩ (.int .u64 (m + 1000000000))).setCell ⟨w.heap.size, 1, none⟩ (.int .i64 (q - 1))) = w3 at HN ⊢
    have e0 : w3.cell? ⟨w.heap.size, 0, none⟩ = some (.int .u64 (m + 1000000000)) := HN.out.1.cell 0
    have e1 : w3.cell? ⟨w.heap.size, 1, none⟩ = some (.int .i64 (q - 1)) := HN.out.1.cell 1
    have e2 : w3.cell? ⟨w.heap.size, 2, none⟩ = some (.pointer none) := HN.out.1.cell 2
    have g0 : w3.cell? ⟨w.heap.size + 1, 0, none⟩ = some (.int .u64 0) := HN.out.2.1.cell 0
    have g1 : w3.cell? ⟨w.heap.size + 1, 1, none⟩ = some (.int .i64 0) := HN.out.2.1.cell 1
    have g2 : w3.cell? ⟨w.heap.size + 1, 2, none⟩ = some (.pointer none) := HN.out.2.1.cell 2
    have k0 : w3.frozen? ⟨w.heap.size + 1, 0, none⟩ = false := HN.out.2.1.frozen 0
    have k1 : w3.frozen? ⟨w.heap.size + 1, 1, none⟩ = false := HN.out.2.1.frozen 1
    have k2 : w3.frozen? ⟨w.heap.size + 1, 2, none⟩ = false := HN.out.2.1.frozen 2
    have HE : Hid (Blk (((w3.setCell ⟨w.heap.size + 1, 0, none⟩ (.int .u64 (m + 1000000000))).setCell ⟨w.heap.size + 1, 1, none⟩ (.int .i64 (q - 1))).setCell ⟨w.heap.size + 1, 2, none⟩ (.pointer none)) (w.heap.size + 1) [.int .u64 (m + 1000000000), .int .i64 (q - 1), .pointer none] 25 ∧ Below w.heap.size w (((w3.setCell ⟨w.heap.size + 1, 0, none⟩ (.int .u64 (m + 1000000000))).setCell ⟨w.heap.size + 1, 1, none⟩ (.int .i64 (q - 1))).setCell ⟨w.heap.size + 1, 2, none⟩ (.pointer none))) := by
      refine ⟨((HN.out.2.1.set 0 _).set 1 _).set 2 _, ?_⟩
      exact ((HN.out.2.2.setCell (by simp) _).setCell (by simp) _).setCell (by simp) _
    go_wp2
    refine bodyPost_ret (results_cell_row rfl _ _ (w.heap.size + 1) 25 #[.int .u64 (m + 1000000000), .int .i64 (q - 1), .pointer none] (0, 0) _ rfl HE.out.1 Try.underlying25 rfl (by kernel_rfl)) rfl ?_
    exact ⟨rfl, HE.out.2⟩
  · rw [if_neg hneg, if_neg hneg]
    have hor : bits .or .u64 0 m = m := by
      rw [u64_or _ _ (by omega) (by omega) (by omega) (by omega)]
      simp
      omega
    have hn9 : Blk (w2.setCell ⟨w.heap.size, 0, none⟩ (.int .u64 m)) w.heap.size [.int .u64 m, .int .i64 0, .pointer none] 25 := n0'.set 0 _
    have HS := addSec_zero w.heap.size m q (w2.setCell ⟨w.heap.size, 0, none⟩ (.int .u64 m)) (hn9.cell 0) (hn9.cell 1) (hn9.frozen 1) (by omega) (by omega) (by omega) (by omega)
    have hn10 : Blk ((w2.setCell ⟨w.heap.size, 0, none⟩ (.int .u64 m)).setCell ⟨w.heap.size, 1, none⟩ (.int .i64 q)) w.heap.size [.int .u64 m, .int .i64 q, .pointer none] 25 := hn9.set 1 _
    have hn11 : Blk ((w2.setCell ⟨w.heap.size, 0, none⟩ (.int .u64 m)).setCell ⟨w.heap.size, 1, none⟩ (.int .i64 q)) (w.heap.size + 1) [.int .u64 0, .int .i64 0, .pointer none] 25 := (n1'.other _ _ (by simp)).other _ _ (by simp)
    have hb10 : Below w.heap.size w ((w2.setCell ⟨w.heap.size, 0, none⟩ (.int .u64 m)).setCell ⟨w.heap.size, 1, none⟩ (.int .i64 q)) := (hb.setCell (by simp) _).setCell (by simp) _
    have hno := no_mono m (by omega) (by omega)
    have HS' : Hid (Calls Try.prog 9 _ _ _) := HS
    have HN : Hid (Blk ((w2.setCell ⟨w.heap.size, 0, none⟩ (.int .u64 m)).setCell ⟨w.heap.size, 1, none⟩ (.int .i64 q)) w.heap.size [.int .u64 m, .int .i64 q, .pointer none] 25 ∧ Blk ((w2.setCell ⟨w.heap.size, 0, none⟩ (.int .u64 m)).setCell ⟨w.heap.size, 1, none⟩ (.int .i64 q)) (w.heap.size + 1) [.int .u64 0, .int .i64 0, .pointer none] 25 ∧ Below w.heap.size w ((w2.setCell ⟨w.heap.size, 0, none⟩ (.int .u64 m)).setCell ⟨w.heap.size, 1, none⟩ (.int .i64 q))) := ⟨hn10, hn11, hb10⟩
    clear HS hn9 hn10 hn11 hb10 n0' n1' hb
    go_enter Try.func4, Try.ntmps4
    go_wp2_with fail
    refine (nsec_zero w.heap.size w2 c0).mono ?_
    rintro r w' ⟨rfl, rfl⟩
    go_wp2_with fail
    refine HS'.out.mono ?_
    rintro r w' ⟨rfl, rfl⟩
    clear HS' c0 c1 f0 hw2
    generalize ((w2.setCell ⟨w.heap.size, 0, none⟩ (.int .u64 m)).setCell ⟨w.heap.size, 1, none⟩ (.int .i64 q)) = w3 at HN ⊢
    have e0 : w3.cell? ⟨w.heap.size, 0, none⟩ = some (.int .u64 m) := HN.out.1.cell 0
    have e1 : w3.cell? ⟨w.heap.size, 1, none⟩ = some (.int .i64 q) := HN.out.1.cell 1
    have e2 : w3.cell? ⟨w.heap.size, 2, none⟩ = some (.pointer none) := HN.out.1.cell 2
    have g0 : w3.cell? ⟨w.heap.size + 1, 0, none⟩ = some (.int .u64 0) := HN.out.2.1.cell 0
    have g1 : w3.cell? ⟨w.heap.size + 1, 1, none⟩ = some (.int .i64 0) := HN.out.2.1.cell 1
    have g2 : w3.cell? ⟨w.heap.size + 1, 2, none⟩ = some (.pointer none) := HN.out.2.1.cell 2
    have k0 : w3.frozen? ⟨w.heap.size + 1, 0, none⟩ = false := HN.out.2.1.frozen 0
    have k1 : w3.frozen? ⟨w.heap.size + 1, 1, none⟩ = false := HN.out.2.1.frozen 1
    have k2 : w3.frozen? ⟨w.heap.size + 1, 2, none⟩ = false := HN.out.2.1.frozen 2
    have HE : Hid (Blk (((w3.setCell ⟨w.heap.size + 1, 0, none⟩ (.int .u64 m)).setCell ⟨w.heap.size + 1, 1, none⟩ (.int .i64 q)).setCell ⟨w.heap.size + 1, 2, none⟩ (.pointer none)) (w.heap.size + 1) [.int .u64 m, .int .i64 q, .pointer none] 25 ∧ Below w.heap.size w (((w3.setCell ⟨w.heap.size + 1, 0, none⟩ (.int .u64 m)).setCell ⟨w.heap.size + 1, 1, none⟩ (.int .i64 q)).setCell ⟨w.heap.size + 1, 2, none⟩ (.pointer none))) := by
      refine ⟨((HN.out.2.1.set 0 _).set 1 _).set 2 _, ?_⟩
      exact ((HN.out.2.2.setCell (by simp) _).setCell (by simp) _).setCell (by simp) _
    go_wp2
    refine bodyPost_ret (results_cell_row rfl _ _ (w.heap.size + 1) 25 #[.int .u64 m, .int .i64 q, .pointer none] (0, 0) _ rfl HE.out.1 Try.underlying25 rfl (by kernel_rfl)) rfl ?_
    exact ⟨rfl, HE.out.2⟩
end Go.Proofs.Qxb6614803a
