import Derived.Test.Qxb6615962aZz
namespace Go.Proofs.Qxb6615962a
open Go.RowKit Go.Shelf

theorem orI_nat (x y : Nat) (hx : x < 18446744073709551616) (hy : y < 18446744073709551616) : orI x y = ((x ||| y : Nat) : Int) := by
  unfold orI
  rw [u64_or _ _ (by omega) (by omega) (by omega) (by omega)]
  simp

theorem or_lt (x y : Nat) (hx : x < 18446744073709551616) (hy : y < 18446744073709551616) : x ||| y < 18446744073709551616 :=
  Nat.or_lt_two_pow (n := 64) hx hy

/-- Word j of the minutes, from a on. -/
def wordFrom (P : Gp → Bool) (a : Nat) (gs : List Gp) (j : Nat) : Nat := gs.foldl (fun a g => if P g then a ||| (g.mins.getD j 0).toNat else a) a

theorem min_lt {g : Gp} (h : g.ok) (j : Nat) : (g.mins.getD j 0).toNat < 18446744073709551616 := by
  have := u64_getD h.us j
  unfold U64 at this
  omega

theorem min_back {g : Gp} (h : g.ok) (j : Nat) : (((g.mins.getD j 0).toNat : Nat) : Int) = g.mins.getD j 0 := by
  have := u64_getD h.us j
  unfold U64 at this
  omega

theorem word_gen (P : Gp → Bool) (gs : List Gp) (h : ∀ g ∈ gs, g.ok) : ∀ (a : List Int) (f : Nat → Nat), a.length = 23 → (∀ j, f j < 18446744073709551616) → (∀ j, j < 23 → a[j]? = some (f j : Int)) →
    (∀ j, wordFrom P (f j) gs j < 18446744073709551616) ∧ ∀ j, j < 23 → (gs.foldl (fun a g => if P g then List.zipWith orI a g.mins else a) a)[j]? = some (wordFrom P (f j) gs j : Int) := by
  induction gs with
  | nil => intro a f _ hf ha; exact ⟨hf, ha⟩
  | cons g gs ih =>
    intro a f hl hf ha
    have hg := h g (by simp)
    have hr : ∀ g ∈ gs, g.ok := fun x hx => h x (by simp [hx])
    have e : ∀ x j, wordFrom P x (g :: gs) j = wordFrom P (if P g then x ||| (g.mins.getD j 0).toNat else x) gs j := fun _ _ => rfl
    simp only [e, List.foldl_cons]
    by_cases hp : P g = true
    · simp only [hp, if_true]
      refine ih hr _ (fun j => f j ||| (g.mins.getD j 0).toNat) (by rw [List.length_zipWith, hl, hg.hs]; rfl) (fun j => or_lt _ _ (hf j) (min_lt hg j)) ?_
      intro j hj
      rw [List.getElem?_zipWith, ha j hj, List.getElem?_eq_getElem (show j < g.mins.length by rw [hg.hs]; exact hj)]
      have hx : g.mins[j]'(by rw [hg.hs]; exact hj) = (((g.mins.getD j 0).toNat : Nat) : Int) := by
        rw [min_back hg]
        simp [List.getElem?_eq_getElem (show j < g.mins.length by rw [hg.hs]; exact hj)]
      simp only []
      rw [hx, orI_nat _ _ (hf j) (min_lt hg j)]
    · simp only [hp]
      exact ih hr a f hl hf ha

theorem word_of (P : Gp → Bool) (gs : List Gp) (h : ∀ g ∈ gs, g.ok) : (∀ j, wordFrom P 0 gs j < 18446744073709551616) ∧ ∀ j, j < 23 → (accum P gs)[j]? = some (wordFrom P 0 gs j : Int) :=
  word_gen P gs h _ (fun _ => 0) (by simp) (by simp) (fun j hj => by rw [List.getElem?_replicate, if_pos hj]; rfl)

theorem word_bit (P : Gp → Bool) (j t : Nat) : ∀ (gs : List Gp) (a : Nat), (wordFrom P a gs j).testBit t = (a.testBit t || gs.any fun g => P g && (g.mins.getD j 0).toNat.testBit t) := by
  intro gs
  induction gs with
  | nil => intro a; simp [wordFrom]
  | cons g gs ih =>
    intro a
    have e : wordFrom P a (g :: gs) j = wordFrom P (if P g then a ||| (g.mins.getD j 0).toNat else a) gs j := rfl
    rw [e, ih, List.any_cons]
    by_cases hp : P g = true
    · simp [hp, Nat.testBit_or, Bool.or_assoc]
    · simp [hp]

theorem any_at (L : List (Nat × Gp)) (k : Nat) (f : Gp → Bool) : (atNode L k).any f = L.any fun y => y.1 == k && f y.2 := by
  unfold atNode
  rw [List.any_map, List.any_filter]
  rfl

theorem any_path (L : List (Nat × Gp)) (f : Gp → Bool) (ks : List Nat) : (ks.flatMap (atNode L)).any f = L.any fun y => decide (y.1 ∈ ks) && f y.2 := by
  induction ks with
  | nil => simp
  | cons k ks ih =>
    rw [List.flatMap_cons, List.any_append, ih, any_at]
    clear ih
    induction L with
    | nil => rfl
    | cons y L ihL =>
      rw [List.any_cons, List.any_cons, List.any_cons, ← ihL]
      have hd : decide (y.1 ∈ k :: ks) = (y.1 == k || decide (y.1 ∈ ks)) := by
        by_cases h1 : y.1 = k <;> by_cases h2 : y.1 ∈ ks <;> simp [h1, h2]
      rw [hd]
      generalize (L.any fun y => y.1 == k && f y.2) = a
      generalize (L.any fun y => decide (y.1 ∈ ks) && f y.2) = b
      generalize (y.1 == k) = c
      generalize decide (y.1 ∈ ks) = d
      generalize f y.2 = e
      cases a <;> cases b <;> cases c <;> cases d <;> cases e <;> rfl

/-- Word j at leaf x. -/
def mword (L : List (Nat × Gp)) (x month length day weekday j : Nat) : Nat := wordFrom (fun g => fits g.months g.wd month length day weekday) 0 (along L x) j

theorem mword_bit (L : List (Nat × Gp)) (x month length day weekday j t : Nat) :
    (mword L x month length day weekday j).testBit t = L.any fun y => decide (y.1 ∈ up x) && (fits y.2.months y.2.wd month length day weekday && (y.2.mins.getD j 0).toNat.testBit t) := by
  unfold mword along
  rw [word_bit, Nat.zero_testBit, Bool.false_or, any_path]

theorem mword_of (L : List (Nat × Gp)) (x month length day weekday : Nat) (h : ∀ y ∈ L, y.2.ok) : (∀ j, mword L x month length day weekday j < 18446744073709551616) ∧ ∀ j, j < 23 → (minutes L x month length day weekday)[j]? = some (mword L x month length day weekday j : Int) :=
  word_of _ _ fun _ hg => let ⟨_, _, hm⟩ := mem_along hg; h _ hm

theorem up_le (k : Nat) : ∀ x, k ∈ up x → 1 ≤ k ∧ k ≤ x := by
  intro x
  induction x using Nat.strongRecOn with
  | ind x ih =>
    intro h
    by_cases h0 : x = 0
    · subst h0; simp [up_zero] at h
    · rw [up_pos x (by omega)] at h
      rcases List.mem_cons.1 h with rfl | h
      · omega
      · have := ih (x / 2) (by omega) h
        omega

theorem blen_mono : ∀ (y x : Nat), x ≤ y → blen x ≤ blen y := by
  intro y
  induction y using Nat.strongRecOn with
  | ind y ih =>
    intro x hxy
    by_cases hx : x = 0
    · subst hx; rw [blen_zero]; omega
    · rw [blen_half x (by omega), blen_half y (by omega)]
      have := ih (y / 2) (by omega) (x / 2) (by omega)
      omega

theorem over_up (k : Nat) (hk : 1 ≤ k) : ∀ x, over k x = decide (k ∈ up x) := by
  intro x
  induction x using Nat.strongRecOn with
  | ind x ih =>
    by_cases h0 : x = 0
    · subst h0
      have h1 : blen k ≠ 0 := by rw [blen_half k (by omega)]; omega
      simp [over, up_zero, blen_zero, h1]
    · rw [up_pos x (by omega)]
      by_cases hkx : k = x
      · subst hkx
        simp [over, hk]
      · have hi := ih (x / 2) (by omega)
        have e : decide (k ∈ x :: up (x / 2)) = decide (k ∈ up (x / 2)) := by simp [hkx]
        rw [e, ← hi]
        unfold over
        rw [decide_eq_decide]
        have hb : blen x = blen (x / 2) + 1 := blen_half x (by omega)
        constructor
        · rintro ⟨_, h2, h3⟩
          have hne : blen k ≠ blen x := by
            intro e
            rw [e, Nat.sub_self, Nat.pow_zero, Nat.div_one] at h3
            exact hkx h3.symm
          refine ⟨hk, by omega, ?_⟩
          rw [Nat.div_div_eq_div_mul, ← Nat.pow_add_one', show blen (x / 2) - blen k + 1 = blen x - blen k by omega]
          exact h3
        · rintro ⟨_, h2, h3⟩
          refine ⟨hk, by omega, ?_⟩
          rw [Nat.div_div_eq_div_mul, ← Nat.pow_add_one', show blen (x / 2) - blen k + 1 = blen x - blen k by omega] at h3
          exact h3

theorem up_child (k : Nat) (hk : 1 ≤ k) : ∀ x, (2 * k ∈ up x ∨ 2 * k + 1 ∈ up x) ↔ (k ∈ up x ∧ k ≠ x) := by
  intro x
  induction x using Nat.strongRecOn with
  | ind x ih =>
    by_cases h0 : x = 0
    · subst h0; simp [up_zero]
    · have hi := ih (x / 2) (by omega)
      rw [up_pos x (by omega)]
      simp only [List.mem_cons]
      constructor
      · rintro ((h | h) | (h | h))
        · exact ⟨.inr (by rw [show x / 2 = k by omega, up_pos k (by omega)]; simp), by omega⟩
        · have h1 := hi.1 (.inl h); have h2 := up_le _ _ h; exact ⟨.inr h1.1, by omega⟩
        · exact ⟨.inr (by rw [show x / 2 = k by omega, up_pos k (by omega)]; simp), by omega⟩
        · have h1 := hi.1 (.inr h); have h2 := up_le _ _ h; exact ⟨.inr h1.1, by omega⟩
      · rintro ⟨h | h, hne⟩
        · exact absurd h hne
        · by_cases hkx : k = x / 2
          · by_cases h2 : x = 2 * k
            · exact .inl (.inl h2.symm)
            · exact .inr (.inl (by omega))
          · rcases hi.2 ⟨h, hkx⟩ with h | h
            · exact .inl (.inr h)
            · exact .inr (.inr h)

/-! ### Statement 1: one group more -/
theorem word_ext {x y : Nat} (h : ∀ t, x.testBit t = y.testBit t) : x = y := Nat.eq_of_testBit_eq h

theorem add_one (A B : List (Nat × Gp)) (k : Nat) (e : Gp) (hk : 1 ≤ k) (x month length day weekday j : Nat) :
    mword (A ++ (k, e) :: B) x month length day weekday j = if (over k x && fits e.months e.wd month length day weekday) = true then mword (A ++ B) x month length day weekday j ||| (e.mins.getD j 0).toNat else mword (A ++ B) x month length day weekday j := by
  apply word_ext
  intro t
  rw [over_up k hk]
  have gen : ∀ b : Bool, (mword (A ++ (k, e) :: B) x month length day weekday j).testBit t = ((mword (A ++ B) x month length day weekday j).testBit t || (decide (k ∈ up x) && (fits e.months e.wd month length day weekday && (e.mins.getD j 0).toNat.testBit t))) := by
    intro _
    rw [mword_bit, mword_bit, List.any_append, List.any_cons, List.any_append]
    generalize (A.any _ : Bool) = a
    generalize (B.any _ : Bool) = b
    generalize (decide (k ∈ up x) && _ : Bool) = c
    cases a <;> cases b <;> cases c <;> rfl
  rw [gen true]
  generalize decide (k ∈ up x) = u
  generalize fits e.months e.wd month length day weekday = v
  cases u <;> cases v <;> simp [Nat.testBit_or]

/-! ### Statement 2: a group split into its children -/
theorem split_one (A B : List (Nat × Gp)) (k : Nat) (e : Gp) (hk : 1 ≤ k) (x month length day weekday j : Nat) (hx : k < x) :
    mword (A ++ (2 * k, e) :: (2 * k + 1, e) :: B) x month length day weekday j = mword (A ++ (k, e) :: B) x month length day weekday j := by
  apply word_ext
  intro t
  rw [mword_bit, mword_bit, List.any_append, List.any_cons, List.any_cons, List.any_append, List.any_cons]
  have h := up_child k hk x
  have e1 : decide (k ∈ up x) = (decide (2 * k ∈ up x) || decide (2 * k + 1 ∈ up x)) := by
    by_cases h1 : k ∈ up x
    · rcases h.2 ⟨h1, by omega⟩ with h2 | h2 <;> simp [h1, h2]
    · have h2 : 2 * k ∉ up x := fun hh => h1 (h.1 (.inl hh)).1
      have h3 : 2 * k + 1 ∉ up x := fun hh => h1 (h.1 (.inr hh)).1
      simp [h1, h2, h3]
  rw [e1]
  generalize (A.any _ : Bool) = a
  generalize (B.any _ : Bool) = b
  generalize decide (2 * k ∈ up x) = u
  generalize decide (2 * k + 1 ∈ up x) = v
  dsimp only
  generalize (fits e.months e.wd month length day weekday && _ : Bool) = c
  cases a <;> cases b <;> cases u <;> cases v <;> cases c <;> rfl

theorem held_in (A B : List (Nat × Gp)) (k : Nat) (e : Gp) (hk : 1 ≤ k) (x month length day weekday j : Nat) (ho : (over k x && fits e.months e.wd month length day weekday) = true) :
    mword (A ++ (k, e) :: B) x month length day weekday j &&& (e.mins.getD j 0).toNat = (e.mins.getD j 0).toNat := by
  apply word_ext
  intro t
  rw [Nat.testBit_and, mword_bit, List.any_append, List.any_cons]
  rw [over_up k hk, Bool.and_eq_true] at ho
  dsimp only
  rw [ho.1, ho.2]
  cases (e.mins.getD j 0).toNat.testBit t <;> simp

end Go.Proofs.Qxb6615962a
