import Derived.Test.Qxb6615962aFmtInts
import Derived.Lib.TrailingZeros
namespace Go.Proofs.Qxb6615962aFmt

/-! ### the runs of a set, by its bits -/

/-- The value of a bit. -/
def vo (j : Nat) : Int := if 32 < j then (j : Int) - 64 else j

def valsFrom (s i : Nat) : List Int := ((List.range' i (64 - i)).filter s.testBit).map vo

theorem valsFrom_end (s i : Nat) (h : 64 ≤ i) : valsFrom s i = [] := by
  unfold valsFrom; rw [show 64 - i = 0 by omega]; rfl

theorem valsFrom_step (s i : Nat) (h : i < 64) : valsFrom s i = if s.testBit i then vo i :: valsFrom s (i + 1) else valsFrom s (i + 1) := by
  unfold valsFrom
  rw [show 64 - i = (64 - (i + 1)) + 1 by omega, List.range'_succ, List.filter_cons]
  split <;> simp

theorem valsFrom_skip (s : Nat) : ∀ (n i : Nat), i + n ≤ 64 → (∀ j, i ≤ j → j < i + n → s.testBit j = false) → valsFrom s i = valsFrom s (i + n)
  | 0, _, _, _ => rfl
  | n + 1, i, h, hj => by
    rw [valsFrom_step s i (by omega), if_neg (by rw [hj i (Nat.le_refl _) (by omega)]; simp)]
    rw [valsFrom_skip s n (i + 1) (by omega) (fun j h1 h2 => hj j (by omega) (by omega))]
    rw [show i + 1 + n = i + (n + 1) by omega]

theorem vo_succ (i : Nat) (h : i ≠ 32) : vo (i + 1) = vo i + 1 := by
  unfold vo; split <;> split <;> omega

theorem grp_run (s : Nat) (h32 : s.testBit 32 = false) (lo : Int) : ∀ (n i : Nat), i + 1 + n ≤ 64 → (∀ j, i ≤ j → j < i + 1 + n → s.testBit j = true) → grp lo (vo i) (valsFrom s (i + 1)) = grp lo (vo (i + n)) (valsFrom s (i + 1 + n))
  | 0, _, _, _ => rfl
  | n + 1, i, h, hj => by
    have hi : i ≠ 32 := fun e => by have := hj i (Nat.le_refl _) (by omega); rw [e, h32] at this; cases this
    rw [valsFrom_step s (i + 1) (by omega), if_pos (hj (i + 1) (by omega) (by omega)), grp, if_pos (vo_succ i hi)]
    rw [grp_run s h32 lo n (i + 1) (by omega) (fun j h1 h2 => hj j (by omega) (by omega))]
    rw [show i + 1 + n = i + (n + 1) by omega, show i + 1 + 1 + n = i + 1 + (n + 1) by omega]

theorem valsFrom_head (s : Nat) : ∀ (n i : Nat), 64 - i = n → valsFrom s i = [] ∨ ∃ r, i ≤ r ∧ r < 64 ∧ s.testBit r = true ∧ valsFrom s i = vo r :: valsFrom s (r + 1)
  | 0, i, h => .inl (valsFrom_end s i (by omega))
  | n + 1, i, h => by
    rw [valsFrom_step s i (by omega)]
    cases hb : s.testBit i
    · rcases valsFrom_head s n (i + 1) (by omega) with h1 | ⟨r, h1, h2, h3, h4⟩
      · exact .inl (by simpa using h1)
      · exact .inr ⟨r, by omega, h2, h3, by simpa using h4⟩
    · exact .inr ⟨i, Nat.le_refl _, by omega, hb, by simp⟩

theorem grp_stop (s : Nat) (h32 : s.testBit 32 = false) (lo : Int) (b : Nat) (hb : b + 1 < 64 → s.testBit (b + 1) = false) : grp lo (vo b) (valsFrom s (b + 1)) = (lo, vo b) :: groups (valsFrom s (b + 1)) := by
  rcases valsFrom_head s _ (b + 1) rfl with h | ⟨r, h1, h2, h3, h4⟩
  · rw [h]; rfl
  · have hr : r ≠ b + 1 := fun e => by subst e; rw [hb h2] at h3; cases h3
    have hr32 : r ≠ 32 := fun e => by subst e; rw [h32] at h3; cases h3
    rw [h4, grp, if_neg ?_]
    · rfl
    · unfold vo; split <;> split <;> omega

theorem valsFrom_congr (s t i : Nat) (h : ∀ j, i ≤ j → j < 64 → s.testBit j = t.testBit j) : valsFrom s i = valsFrom t i := by
  unfold valsFrom
  congr 1
  refine List.filter_congr fun j hj => ?_
  rw [List.mem_range'_1] at hj
  exact h j hj.1 (by omega)

/-- The first run of a set, and what is left. -/
theorem groups_first (s t a n : Nat) (h32 : s.testBit 32 = false) (han : a + n < 64) (hlow : ∀ j, j < a → s.testBit j = false) (hrun : ∀ j, a ≤ j → j ≤ a + n → s.testBit j = true) (hend : a + n + 1 < 64 → s.testBit (a + n + 1) = false)
    (ht : ∀ j, j < 64 → t.testBit j = (s.testBit j && !(decide (a ≤ j) && decide (j ≤ a + n)))) :
    groups (valsFrom s 0) = (vo a, vo (a + n)) :: groups (valsFrom t 0) := by
  have h1 : valsFrom s 0 = valsFrom s a := by
    have := valsFrom_skip s a 0 (by omega) (fun j _ hj => hlow j (by omega))
    simpa using this
  have h2 : valsFrom t 0 = valsFrom s (a + n + 1) := by
    have := valsFrom_skip t (a + n + 1) 0 (by omega) (fun j _ hj => by
      rw [ht j (by omega)]
      by_cases hja : j < a
      · rw [hlow j hja]; rfl
      · rw [decide_eq_true (show a ≤ j by omega), decide_eq_true (show j ≤ a + n by omega)]; simp)
    rw [this, Nat.zero_add]
    refine valsFrom_congr _ _ _ fun j h1 h2 => ?_
    rw [ht j h2, decide_eq_false (show ¬ j ≤ a + n by omega)]; simp
  rw [h1, h2, valsFrom_step s a (by omega), if_pos (hrun a (Nat.le_refl _) (by omega))]
  show grp (vo a) (vo a) _ = _
  rw [grp_run s h32 (vo a) n a (by omega) (fun j h1 h2 => hrun j h1 (by omega)), show a + 1 + n = a + n + 1 by omega]
  exact grp_stop s h32 (vo a) (a + n) hend

/-! ### the bits of the numbers that the iterator reckons -/

theorem ctz_bits (x : Nat) (h0 : x ≠ 0) (hx : x < 18446744073709551616) : Lib.ctz 64 x < 64 ∧ (∀ j, j < Lib.ctz 64 x → x.testBit j = false) ∧ x.testBit (Lib.ctz 64 x) = true := by
  have hc : Lib.ctz 64 x = Lib.ctzFrom 64 x := by unfold Lib.ctz; rw [if_neg h0]
  obtain ⟨m, hm, hk⟩ := Lib.ctzFrom_spec 64 x (Nat.pos_of_ne_zero h0) hx
  rw [hc]
  obtain ⟨k, hk'⟩ : ∃ k, Lib.ctzFrom 64 x = k := ⟨_, rfl⟩
  rw [hk'] at hm hk ⊢
  subst hm
  refine ⟨hk, fun j hj => ?_, ?_⟩
  · rw [Nat.testBit_two_pow_mul]; simp; omega
  · rw [Nat.testBit_two_pow_mul]; simp

theorem rest_bits (s a : Nat) (hs : s < 18446744073709551616) (h32 : s.testBit 32 = false) : Lib.ctz 64 (18446744073709551615 - s / 2 ^ a) < 64 ∧ (∀ j, j < Lib.ctz 64 (18446744073709551615 - s / 2 ^ a) → s.testBit (a + j) = true) ∧ s.testBit (a + Lib.ctz 64 (18446744073709551615 - s / 2 ^ a)) = false := by
  have hle : s / 2 ^ a ≤ s := Nat.div_le_self _ _
  have hbit : ∀ j, j < 64 → (18446744073709551615 - s / 2 ^ a).testBit j = !s.testBit (a + j) := by
    intro j hj
    have h := Nat.testBit_two_pow_sub_succ (show s / 2 ^ a < 2 ^ 64 by omega) j
    rw [show 2 ^ 64 - (s / 2 ^ a + 1) = 18446744073709551615 - s / 2 ^ a by omega, Nat.testBit_div_two_pow, decide_eq_true hj, Bool.true_and] at h
    rw [h, Nat.add_comm j a]
  have h0 : 18446744073709551615 - s / 2 ^ a ≠ 0 := by
    intro h
    by_cases ha : a ≤ 32
    · have h1 := hbit (32 - a) (by omega)
      rw [show a + (32 - a) = 32 by omega, h32, h] at h1
      simp at h1
    · have h1 : s / 2 ^ a < 2 ^ 32 := by
        rw [Nat.div_lt_iff_lt_mul (Nat.two_pow_pos _)]
        have : 2 ^ 32 ≤ 2 ^ a := Nat.pow_le_pow_right (by omega) (by omega)
        have h3 : (2 : Nat) ^ 32 * 2 ^ 32 ≤ 2 ^ 32 * 2 ^ a := Nat.mul_le_mul_left _ this
        omega
      omega
  obtain ⟨h1, h2, h3⟩ := ctz_bits _ h0 (Nat.lt_of_le_of_lt (Nat.sub_le _ _) (by omega))
  refine ⟨h1, fun j hj => ?_, ?_⟩
  · have := h2 j hj
    rw [hbit j (by omega)] at this
    simpa using this
  · rw [hbit _ h1] at h3
    simpa using h3

theorem mask_bits (a n j : Nat) : (2 ^ (a + n + 1) - 2 ^ a).testBit j = (decide (a ≤ j) && decide (j ≤ a + n)) := by
  have h : 2 ^ (a + n + 1) - 2 ^ a = 2 ^ a * (2 ^ (n + 1) - 1) := by
    rw [Nat.mul_sub, ← Nat.pow_add, Nat.mul_one, show a + (n + 1) = a + n + 1 by omega]
  rw [h, Nat.testBit_two_pow_mul, Nat.testBit_two_pow_sub_one]
  by_cases h1 : a ≤ j
  · rw [decide_eq_true h1]
    have : decide (j - a < n + 1) = decide (j ≤ a + n) := by
      by_cases h2 : j ≤ a + n
      · rw [decide_eq_true h2, decide_eq_true (by omega)]
      · rw [decide_eq_false h2, decide_eq_false (by omega)]
    simpa using this
  · rw [decide_eq_false h1]; simp

end Go.Proofs.Qxb6615962aFmt
