import Derived.Test.Qxb6615962aFmtWrite
import Derived.Test.Qxb6615962aFmtStop
import Derived.Test.Qxb6615962aFmtMonths
namespace Go.Proofs.Qxb6615962aFmt
open Go.RowKit Go.Shelf Go.Extern.Stop Go.Stop Go.Extern

/-- What the program's text has laid, and fmt's word: in blocks below n₀. -/
structure Env (F : Interp) (gN n₀ : Nat) (w : World) : Prop where
  tz : TabAt 0 Lib.deBruijn64tab w
  p10 : Lib.TabIs Tryf.prog w "internal/strconv.uint64pow10" .u64 Lib.pow10Tab
  days : Days gN w
  told : F.told.answers w.tape
  low : 5 ≤ n₀
  lowN : gN < n₀
  size : n₀ ≤ w.heap.size

theorem gPow : Tryf.prog.globalNamed "internal/strconv.uint64pow10" = some 2 := by kernel_rfl

theorem Env.below {F : Interp} {gN n₀ : Nat} {w w' : World} (h : Env F gN n₀ w) (hb : Below n₀ w w') : Env F gN n₀ w' := by
  obtain ⟨a, cap, ha, hd1, hd2⟩ := h.days
  refine ⟨tabAt_below h.tz hb (by have := h.low; omega), ?_, ⟨a, cap, ha, ?_, fun d hd => ?_⟩, by rw [hb.tape]; exact h.told, h.low, h.lowN, Nat.le_trans h.size hb.size⟩
  · have h1 := h.p10
    unfold Lib.TabIs World.var? at h1 ⊢
    rw [gPow] at h1 ⊢
    simp only [Option.bind_some] at h1 ⊢
    rw [hb.block 2 (by have := h.low; omega)]
    exact h1
  · rw [hb.cell (p := ⟨1, 0, none⟩) (by have := h.low; show 1 < n₀; omega)]; exact hd1
  · rw [hb.cell (p := a.add d) (by have h1 := h.lowN; have h2 : (a.add d).block = a.block := (by unfold Addr.add; split <;> rfl); rw [h2, ha]; exact h1)]; exact hd2 d hd

/-! ### the runs' values -/

theorem grp_mem (p : Int × Int) : ∀ (L : List Int) (lo hi : Int), p ∈ grp lo hi L → (p.1 = lo ∨ p.1 ∈ L) ∧ (p.2 = hi ∨ p.2 ∈ L)
  | [], lo, hi, h => by
    simp only [grp, List.mem_singleton] at h
    subst h; exact ⟨.inl rfl, .inl rfl⟩
  | x :: r, lo, hi, h => by
    rw [grp] at h
    split at h
    · obtain ⟨h1, h2⟩ := grp_mem p r lo x h
      exact ⟨h1.imp id (List.mem_cons_of_mem _), .inr (by rcases h2 with h2 | h2; exact h2 ▸ List.mem_cons_self; exact List.mem_cons_of_mem _ h2)⟩
    · rcases List.mem_cons.1 h with rfl | h
      · exact ⟨.inl rfl, .inl rfl⟩
      · obtain ⟨h1, h2⟩ := grp_mem p r x x h
        exact ⟨.inr (by rcases h1 with h1 | h1; exact h1 ▸ List.mem_cons_self; exact List.mem_cons_of_mem _ h1), .inr (by rcases h2 with h2 | h2; exact h2 ▸ List.mem_cons_self; exact List.mem_cons_of_mem _ h2)⟩

theorem groups_mem (p : Int × Int) (L : List Int) (h : p ∈ groups L) : p.1 ∈ L ∧ p.2 ∈ L := by
  cases L with
  | nil => cases h
  | cons x r =>
    obtain ⟨h1, h2⟩ := grp_mem p r x x h
    exact ⟨by rcases h1 with h1 | h1; exact h1 ▸ List.mem_cons_self; exact List.mem_cons_of_mem _ h1, by rcases h2 with h2 | h2; exact h2 ▸ List.mem_cons_self; exact List.mem_cons_of_mem _ h2⟩

theorem grp_len : ∀ (L : List Int) (lo hi : Int), (grp lo hi L).length ≤ L.length + 1
  | [], _, _ => by simp [grp]
  | x :: r, lo, hi => by
    rw [grp]
    split
    · have := grp_len r lo x; simp only [List.length_cons]; omega
    · have := grp_len r x x; simp only [List.length_cons]; omega
theorem groups_len (L : List Int) : (groups L).length ≤ L.length := by
  cases L with
  | nil => simp [groups]
  | cons x r => have := grp_len r x x; simp only [groups, List.length_cons]; omega

theorem valsFrom_mem (s i : Nat) (x : Int) (h : x ∈ valsFrom s i) : ∃ j, i ≤ j ∧ j < 64 ∧ s.testBit j = true ∧ x = vo j := by
  unfold valsFrom at h
  obtain ⟨j, hj, rfl⟩ := List.mem_map.1 h
  rw [List.mem_filter, List.mem_range'_1] at hj
  exact ⟨j, hj.1.1, by omega, hj.2, rfl⟩
theorem valsFrom_len (s i : Nat) : (valsFrom s i).length ≤ 64 := by
  unfold valsFrom; rw [List.length_map]; exact Nat.le_trans (List.length_filter_le _ _) (by simp)

theorem vo_range (j : Nat) (h : j < 64) : -100 < vo j ∧ vo j < 100 := by unfold vo; split <;> omega

/-! ### lengths -/
theorem join_len (c : Nat) : ∀ ts : List (List UInt8), (∀ t ∈ ts, t.length ≤ c) → (Lib.join ts [44, 32]).length ≤ (c + 2) * ts.length
  | [], _ => by simp [Lib.join, List.intercalate]
  | [t], h => by
    have := h t List.mem_cons_self
    simp only [Lib.join, List.intercalate, List.intersperse, List.flatten_cons, List.flatten_nil, List.append_nil, List.length_singleton]; omega
  | t :: u :: r, h => by
    have h1 := h t List.mem_cons_self
    have ih := join_len c (u :: r) (fun x hx => h x (List.mem_cons_of_mem _ hx))
    have e : Lib.join (t :: u :: r) [44, 32] = t ++ ([44, 32] ++ Lib.join (u :: r) [44, 32]) := by
      simp only [Lib.join, List.intercalate, List.intersperse, List.flatten_cons]
    rw [e, List.length_append, List.length_append]
    simp only [List.length_cons, List.length_nil] at ih ⊢
    have : (c + 2) * (r.length + 1 + 1) = (c + 2) * (r.length + 1) + (c + 2) := by rw [Nat.mul_succ]
    omega

theorem txt_len (nm : Int → List UInt8) (c : Nat) (h : ∀ x, (nm x).length ≤ c) (p : Int × Int) : (txt nm p).length ≤ 2 * c + 1 := by
  have h1 := h p.1
  have h2 := h p.2
  unfold txt
  rw [List.length_append]
  split
  · simp only [List.length_cons]; omega
  · simp only [List.length_nil]; omega

/-! ### runTexts at the four sets -/
theorem strs_of {L : List (Int × Int)} {nm : Int → List UInt8} {w w' : World} {v : Value} (h : w'.ownsRow w.heap.size 9 1 v L.length ((L.map (txt nm)).map sv)) : Strs v (L.map (txt nm)) w' := ⟨w.heap.size, by rw [List.length_map]; exact h⟩

theorem texts_days (F : Interp) (gN n₀ s : Nat) (w : World) (hE : Env F gN n₀ w) (hs : s < 18446744073709551616) (h32 : s.testBit 32 = false) :
    Calls Tryf.prog 23 #[.func (.func 24) #[.int .u64 s] #[], .func (.func 25) #[] #[]] w fun e w' => ∃ v, e = .returned v ∧ Strs v ((groups (valsFrom s 0)).map (txt intT)) w' ∧ Below w.heap.size w w' := by
  have hok : ∀ p ∈ groups (valsFrom s 0), -100 < p.1 ∧ p.1 < 100 ∧ -100 < p.2 ∧ p.2 < 100 := by
    intro p hp
    obtain ⟨h1, h2⟩ := groups_mem p _ hp
    obtain ⟨j, _, hj, _, e1⟩ := valsFrom_mem _ _ _ h1
    obtain ⟨k, _, hk, _, e2⟩ := valsFrom_mem _ _ _ h2
    have a1 := vo_range j hj
    have a2 := vo_range k hk
    rw [e1, e2]; exact ⟨a1.1, a1.2, a2.1, a2.2⟩
  refine (callsIn_wide.1 (texts_in 24 #[.int .u64 s] (enters_of Tryf.func24 (by kernel_rfl) rfl) (fun p => -100 < p.1 ∧ p.1 < 100 ∧ -100 < p.2 ∧ p.2 < 100) (groups (valsFrom s 0)) (groups (valsFrom s 0)).length (by have := groups_len (valsFrom s 0); have := valsFrom_len s 0; omega) n₀ w hE.size
    (runs_gives _ s hs h32 hok n₀ w (by have := hE.low; omega) hE.size hE.tz) 25 (enters_of Tryf.func25 (by kernel_rfl) rfl) intT (fun x => Nat.le_trans (intT_len x) (by omega)) ?_)).mono ?_
  · intro x w' hb
    have hE' := hE.below hb
    exact ⟨itoa_any x.1.1 x.2.1 x.2.2.1 w' hE'.p10, itoa_any x.1.2 x.2.2.2.1 x.2.2.2.2 w' hE'.p10⟩
  · rintro e w' ⟨v, rfl, h1, h2⟩
    exact ⟨v, rfl, strs_of h1, h2⟩

theorem texts_week (F : Interp) (gN n₀ s : Nat) (w : World) (hE : Env F gN n₀ w) (hs : s < 128) :
    Calls Tryf.prog 23 #[.func (.func 24) #[.int .u64 s] #[], .func (.func 28) #[] #[]] w fun e w' => ∃ v, e = .returned v ∧ Strs v ((groups (valsFrom s 0)).map (txt fun x => wdT x.toNat)) w' ∧ Below w.heap.size w w' := by
  have hbit : ∀ j, 7 ≤ j → s.testBit j = false := fun j hj => Nat.testBit_lt_two_pow (Nat.lt_of_lt_of_le hs (show 2 ^ 7 ≤ 2 ^ j from Nat.pow_le_pow_right (by omega) hj))
  have hok : ∀ p ∈ groups (valsFrom s 0), 0 ≤ p.1 ∧ p.1 < 7 ∧ 0 ≤ p.2 ∧ p.2 < 7 := by
    intro p hp
    obtain ⟨h1, h2⟩ := groups_mem p _ hp
    obtain ⟨j, _, _, hjt, e1⟩ := valsFrom_mem _ _ _ h1
    obtain ⟨k, _, _, hkt, e2⟩ := valsFrom_mem _ _ _ h2
    have a1 : j < 7 := by rcases Nat.lt_or_ge j 7 with h | h; exact h; rw [hbit j h] at hjt; cases hjt
    have a2 : k < 7 := by rcases Nat.lt_or_ge k 7 with h | h; exact h; rw [hbit k h] at hkt; cases hkt
    rw [e1, e2]; unfold vo; rw [if_neg (by omega), if_neg (by omega)]; omega
  refine (callsIn_wide.1 (texts_in 24 #[.int .u64 s] (enters_of Tryf.func24 (by kernel_rfl) rfl) (fun p => 0 ≤ p.1 ∧ p.1 < 7 ∧ 0 ≤ p.2 ∧ p.2 < 7) (groups (valsFrom s 0)) (groups (valsFrom s 0)).length (by have := groups_len (valsFrom s 0); have := valsFrom_len s 0; omega) n₀ w hE.size
    (runs_gives _ s (by omega) (hbit 32 (by omega)) hok n₀ w (by have := hE.low; omega) hE.size hE.tz) 28 (enters_of Tryf.func28 (by kernel_rfl) rfl) (fun x => wdT x.toNat) (fun x => Nat.le_trans (wdT_len _) (by omega)) ?_)).mono ?_
  · intro x w' hb
    have hE' := hE.below hb
    obtain ⟨⟨lo, hi⟩, h1, h2, h3, h4⟩ := x
    obtain ⟨a, rfl⟩ : ∃ a : Nat, lo = (a : Int) := ⟨lo.toNat, by dsimp only at h1; omega⟩
    obtain ⟨b, rfl⟩ : ∃ b : Nat, hi = (b : Int) := ⟨hi.toNat, by dsimp only at h3; omega⟩
    dsimp only at h2 h4 ⊢
    refine ⟨(weekday_any gN a (by omega) w' hE'.days).mono ?_, (weekday_any gN b (by omega) w' hE'.days).mono ?_⟩
    · rintro e w'' ⟨rfl, rfl⟩; exact ⟨rfl, Below.refl _ _⟩
    · rintro e w'' ⟨rfl, rfl⟩; exact ⟨rfl, Below.refl _ _⟩
  · rintro e w' ⟨v, rfl, h1, h2⟩
    exact ⟨v, rfl, strs_of h1, h2⟩

theorem texts_years (F : Interp) (gN n₀ : Nat) (p : ByteArray) (w : World) (hE : Env F gN n₀ w) (hp : p.size ≤ 524288) (hy : ∀ i, i < p.size / 4 → yr p (4 * i) < 10000 ∧ yr p (4 * i + 2) < 10000) :
    Calls Tryf.prog 23 #[.func (.func 26) #[.agg #[.string p]] #[], .func (.func 27) #[] #[]] w fun e w' => ∃ v, e = .returned v ∧ Strs v ((yearRuns p (p.size / 4)).map (txt fun x => four x.toNat)) w' ∧ Below w.heap.size w w' := by
  refine (callsIn_wide.1 (texts_in 26 #[.agg #[.string p]] (enters_of Tryf.func26 (by kernel_rfl) rfl) (fun p => 0 ≤ p.1 ∧ p.1 < 10000 ∧ 0 ≤ p.2 ∧ p.2 < 10000) (yearRuns p (p.size / 4)) (p.size / 4) (by omega) n₀ w hE.size
    (years_give _ p hp (fun i hi => by have := hy i hi; unfold yearRun; dsimp only; omega) n₀ w) 27 (enters_of Tryf.func27 (by kernel_rfl) rfl) (fun x => four x.toNat) (fun x => by simp [four, two]) ?_)).mono ?_
  · intro x w' hb
    have hE' := hE.below hb
    obtain ⟨⟨lo, hi⟩, h1, h2, h3, h4⟩ := x
    obtain ⟨a, rfl⟩ : ∃ a : Nat, lo = (a : Int) := ⟨lo.toNat, by dsimp only at h1; omega⟩
    obtain ⟨b, rfl⟩ : ∃ b : Nat, hi = (b : Int) := ⟨hi.toNat, by dsimp only at h3; omega⟩
    dsimp only at h2 h4 ⊢
    exact ⟨yearText_any F a (by omega) w' hE'.told, yearText_any F b (by omega) w' hE'.told⟩
  · rintro e w' ⟨v, rfl, h1, h2⟩
    exact ⟨v, rfl, strs_of h1, h2⟩
end Go.Proofs.Qxb6615962aFmt
