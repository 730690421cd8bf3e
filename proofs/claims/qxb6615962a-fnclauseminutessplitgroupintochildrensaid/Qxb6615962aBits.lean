import Derived.Test.Qxb6615962aRows
import Derived.WalkKit
import Derived.WalkSpells
import Derived.WalkLawsBesides
import Derived.Laws.BitsAllLaws
namespace Go.Proofs.Qxb6615962a
open Go.RowKit

/-- Does the set hold the value? Value v at bit v, below 0 at bit 64 + v. -/
def holds (vs v : Int) : Bool := vs.toNat.testBit (v % 64).toNat

/-- A number of 64 bits. -/
def U64 (n : Int) : Prop := 0 ≤ n ∧ n < 18446744073709551616

theorem ret_int {k : IntKind} {a b : Int} (h : a = b) : Ending.returned (.int k a) = .returned (.int k b) := by rw [h]
theorem ret_bool {a b : Bool} (h : a = b) : Ending.returned (.bool a) = .returned (.bool b) := by rw [h]

theorem mask (v : Int) : bits .and .u64 (IntKind.u64.wrap v) 63 = v % 64 := by
  rw [IntKind.wrap_u64, u64_and _ _ (by omega) (by omega) (by omega) (by omega)]
  rw [show (63 : Int).toNat = 63 from rfl, nat_mask6]
  omega

theorem has_form (vs : Int) (hv : U64 vs) (k : Nat) (hk : k < 64) : (bits .and .u64 vs (IntKind.u64.wrap (2 ^ k)) != 0) = vs.toNat.testBit k := by
  have h2 : (2 : Nat) ^ k < 2 ^ 64 := Nat.pow_lt_pow_right (by omega) hk
  have h3 : ((2 : Int) ^ k) = ((2 ^ k : Nat) : Int) := by simp
  have h4 : (2 : Nat) ^ 64 = 18446744073709551616 := by decide
  have h5 : 0 < (2 : Nat) ^ k := Nat.pow_pos (by omega)
  rw [IntKind.wrap_u64, h3, Int.emod_eq_of_lt (by omega) (by omega), u64_and _ _ hv.1 hv.2 (by omega) (by omega), Int.toNat_natCast, nat_bit, Nat.testBit_eq_decide_div_mod_eq]
  rcases Nat.mod_two_eq_zero_or_one (vs.toNat / 2 ^ k) with h | h
  · rw [h]; simp
  · rw [h, show ((((1 * 2 ^ k : Nat) : Int)) != 0) = true from bne_iff_ne.2 (by omega)]; rfl

theorem in_form (vs : Int) (hv : U64 vs) (k : Nat) : (bits .and .u64 (vs / 2 ^ k) 1 == 1) = vs.toNat.testBit k := by
  obtain ⟨n, rfl⟩ := Int.eq_ofNat_of_zero_le hv.1
  have h3 : ((n : Int) / 2 ^ k) = ((n / 2 ^ k : Nat) : Int) := by simp
  have h6 := hv.2
  have h7 : n / 2 ^ k ≤ n := Nat.div_le_self _ _
  rw [h3, Int.toNat_natCast, Nat.testBit_eq_decide_div_mod_eq]
  generalize n / 2 ^ k = q at *
  rw [u64_and _ _ (by omega) (by omega) (by omega) (by omega), Int.toNat_natCast, show (1 : Int).toNat = 1 from rfl, nat_mask1]
  rcases Nat.mod_two_eq_zero_or_one q with h | h
  · rw [h]; simp
  · rw [h]; simp

set_option maxHeartbeats 400000 in
theorem bitOf_any (v : Int) (w : World) :
    Calls Try.prog 18 #[.int .i64 v] w fun e w' => e = .returned (.int .u64 (v % 64)) ∧ w = w' := by
  go_enter Try.func18, Try.ntmps18
  go_wp2
  go_ret
  exact ⟨ret_int (mask v), rfl⟩

set_option maxHeartbeats 400000 in
theorem has_any (vs : Int) (v : Int) (w : World) (hv : U64 vs) :
    Calls Try.prog 21 #[.int .u64 vs, .int .i64 v] w fun e w' => e = .returned (.bool (holds vs v)) ∧ w = w' := by
  go_enter Try.func21, Try.ntmps21
  have hm : 0 ≤ v % 64 ∧ v % 64 < 64 := by omega
  go_wp2_with (go_at_call 18; refine (bitOf_any _ _).mono ?_; rintro e w' ⟨rfl, rfl⟩)
  go_ret
  exact ⟨ret_bool (has_form vs hv _ (by omega)), rfl⟩

set_option maxHeartbeats 400000 in
theorem inSet_any (vs : Int) (v : Int) (w : World) (hv : U64 vs) (h : -31 ≤ v) (h2 : v ≤ 31) :
    Calls Try.prog 24 #[.int .u64 vs, .int .i64 v] w fun e w' => e = .returned (.bool (holds vs v)) ∧ w = w' := by
  by_cases h0 : 0 ≤ v
  · go_enter Try.func24, Try.ntmps24
    go_wp2
    go_ret
    exact ⟨ret_bool (by rw [in_form vs hv]; unfold holds; rw [show v % 64 = v by omega]), rfl⟩
  · go_enter Try.func24, Try.ntmps24
    go_wp2
    go_ret
    exact ⟨ret_bool (by rw [in_form vs hv]; unfold holds; rw [show v % 64 = 64 + v by omega]), rfl⟩

/-- How many binary digits. -/
def blen (x : Nat) : Nat := if x = 0 then 0 else Nat.log2 x + 1

theorem blen_zero : blen 0 = 0 := rfl

theorem blen_half (x : Nat) (h : 0 < x) : blen x = blen (x / 2) + 1 := by
  unfold blen
  rw [if_neg (by omega)]
  by_cases h2 : x / 2 = 0
  · rw [if_pos h2]
    have : x = 1 := by omega
    subst this
    rfl
  · rw [if_neg h2, Nat.log2_def, if_pos (by omega)]

theorem blen_le (x : Nat) : blen x ≤ x := by
  induction x using Nat.strongRecOn with
  | ind x ih =>
    by_cases h : 0 < x
    · rw [blen_half x h]
      have := ih (x / 2) (by omega)
      omega
    · obtain rfl : x = 0 := by omega
      exact Nat.le_refl _

theorem blen_lt (n : Nat) : ∀ x, x < 2 ^ n → blen x ≤ n := by
  induction n with
  | zero => intro x hx; obtain rfl : x = 0 := by simp at hx; exact hx
            exact Nat.le_refl _
  | succ n ih =>
    intro x hx
    by_cases h : 0 < x
    · rw [blen_half x h]
      have := ih (x / 2) (by rw [Nat.pow_succ] at hx; omega)
      omega
    · obtain rfl : x = 0 := by omega
      rw [blen_zero]; omega

set_option maxHeartbeats 400000 in
theorem bitLen_any (x : Nat) (w : World) (hx : x ≤ 1000000) :
    Calls Try.prog 27 #[.int .i64 x] w fun e w' => e = .returned (.int .i64 (blen x)) ∧ w = w' := by
  go_enter Try.func27, Try.ntmps27
  go_wp2
  go_loop [0, 3] (fun y n => ∃ a m : Nat, y = .int .i64 a ∧ n = .int .i64 m ∧ m + blen a = blen x ∧ a ≤ x ∧ m + a ≤ x) (fun y _ => (intOf y).toNat)
  case atStart => exact ⟨x, 0, rfl, rfl, by omega, by omega, by omega⟩
  case round =>
    obtain ⟨a, m, rfl, rfl, hm, ha, hma⟩ := hrel
    have HM : Hid (m + blen a = blen x) := hm
    clear hm
    by_cases h0 : 0 < a
    · go_wp2
      go_round
      case rel =>
        refine ⟨a / 2, m + 1, by go_num, by go_num, ?_, by omega, by omega⟩
        have h1 := HM.out
        rw [blen_half a h0] at h1
        omega
      case measure => simp [intOf]; omega
    · obtain rfl : a = 0 := by omega
      have h1 := HM.out
      rw [blen_zero, Nat.add_zero] at h1
      have HX : Hid (m = blen x) := h1
      clear HM h1
      go_wp2
      go_ret
      rw [HX.out]
      exact ⟨rfl, rfl⟩

/-- The list at node k stands over leaf: going up from leaf by halves one comes to k. -/
def over (k leaf : Nat) : Bool := decide (1 ≤ k ∧ blen k ≤ blen leaf ∧ leaf / 2 ^ (blen leaf - blen k) = k)

set_option maxHeartbeats 400000 in
theorem under_any (k leaf : Nat) (w : World) (hk : k ≤ 200000) (hk1 : 1 ≤ k) (hl : leaf ≤ 200000) :
    Calls Try.prog 23 #[.int .i64 k, .int .i64 leaf] w fun e w' => e = .returned (.bool (over k leaf)) ∧ w = w' := by
  have HL := bitLen_any leaf w (by omega)
  have HK := bitLen_any k w (by omega)
  have hb1 : blen leaf ≤ leaf := blen_le leaf
  have hb2 : blen k ≤ k := blen_le k
  have hb3 : blen leaf ≤ 20 := blen_lt 20 leaf (by omega)
  have HO : Hid (over k leaf = decide (1 ≤ k ∧ blen k ≤ blen leaf ∧ leaf / 2 ^ (blen leaf - blen k) = k)) := rfl
  generalize blen leaf = bl at *
  generalize blen k = bk at *
  by_cases hlt : bk ≤ bl
  · go_enter Try.func23, Try.ntmps23
    go_wp2_with fail
    refine HL.mono ?_
    rintro e w' ⟨rfl, rfl⟩
    go_wp2_with fail
    refine HK.mono ?_
    rintro e w' ⟨rfl, rfl⟩
    go_wp2
    go_ret
    refine ⟨ret_bool ?_, rfl⟩
    rw [HO.out, show ((leaf : Int) / 2 ^ (bl - bk)) = ((leaf / 2 ^ (bl - bk) : Nat) : Int) by simp]
    generalize leaf / 2 ^ (bl - bk) = q
    rw [Bool.eq_iff_iff]
    simp only [beq_iff_eq, decide_eq_true_eq]
    omega
  · go_enter Try.func23, Try.ntmps23
    go_wp2_with fail
    refine HL.mono ?_
    rintro e w' ⟨rfl, rfl⟩
    go_wp2_with fail
    refine HK.mono ?_
    rintro e w' ⟨rfl, rfl⟩
    go_wp2
    go_ret
    refine ⟨ret_bool ?_, rfl⟩
    rw [HO.out]
    symm
    rw [decide_eq_false_iff_not]
    omega

/-! The day's test, as the calendar makes it and as the law does. -/

/-- Does a group of these months and weekdays hold on that day? -/
def fits (months : List Int) (wd : Int) (month length day weekday : Nat) : Bool :=
  (holds (months.getD (month - 1) 0) day || holds (months.getD (month - 1) 0) ((day : Int) - 1 - length)) && holds wd weekday

set_option maxHeartbeats 400000 in
theorem dateHas_any (b : Nat) (months : List Int) (month length day : Nat) (w : World) (hm : 1 ≤ month) (hm2 : month ≤ 12) (hl : length ≤ 31) (hd1 : 1 ≤ day) (hd : day ≤ 31) (hu : U64 (months.getD (month - 1) 0))
    (hc : w.cell? ⟨b, month - 1, none⟩ = some (.int .u64 (months.getD (month - 1) 0))) :
    Calls Try.prog 26 #[.pointer (some ⟨b, 0, none⟩), .int .i64 month, .int .i64 length, .int .i64 day] w fun e w' => e = .returned (.bool (holds (months.getD (month - 1) 0) day || holds (months.getD (month - 1) 0) ((day : Int) - 1 - length))) ∧ w = w' := by
  generalize months.getD (month - 1) 0 = vs at *
  have H1 := has_any vs day w hu
  have H2 := has_any vs ((day : Int) - 1 - length) w hu
  obtain ⟨m, rfl⟩ : ∃ m, month = m + 1 := ⟨month - 1, by omega⟩
  rw [Nat.add_sub_cancel] at hc
  cases h1 : holds vs day
  · rw [h1] at H1
    cases h2 : holds vs ((day : Int) - 1 - length)
    all_goals
      rw [h2] at H2
      go_enter Try.func26, Try.ntmps26
      go_wp2_with fail
      refine H1.mono ?_
      rintro e w' ⟨rfl, rfl⟩
      go_wp2_with fail
      refine H2.mono ?_
      rintro e w' ⟨rfl, rfl⟩
      go_wp2
      go_ret
      exact ⟨rfl, rfl⟩
  · rw [h1] at H1
    go_enter Try.func26, Try.ntmps26
    go_wp2_with fail
    refine H1.mono ?_
    rintro e w' ⟨rfl, rfl⟩
    go_wp2
    go_ret
    exact ⟨rfl, rfl⟩

/-- A struct Group as cells. -/
structure IsGroup (cs : List Value) (node : Int) (months : List Int) (wd : Int) (mins : List Int) : Prop where
  form : cs = .int .i64 node :: (months.map (Value.int .u64) ++ .int .u64 wd :: mins.map (Value.int .u64))
  hm : months.length = 12
  hs : mins.length = 23
  um : ∀ x ∈ months, U64 x
  uw : U64 wd
  us : ∀ x ∈ mins, U64 x

theorem IsGroup.len {cs : List Value} {node : Int} {months : List Int} {wd : Int} {mins : List Int} (h : IsGroup cs node months wd mins) : cs.length = 37 := by
  rw [h.form]; simp [h.hm, h.hs]

theorem IsGroup.at0 {cs : List Value} {node : Int} {months : List Int} {wd : Int} {mins : List Int} (h : IsGroup cs node months wd mins) : cs[0]? = some (.int .i64 node) := by
  rw [h.form]; rfl

theorem IsGroup.atMonth {cs : List Value} {node : Int} {months : List Int} {wd : Int} {mins : List Int} (h : IsGroup cs node months wd mins) (m : Nat) (hm : m < 12) : cs[1 + m]? = some (.int .u64 (months.getD m 0)) := by
  have h1 := h.hm
  rw [h.form, Nat.add_comm, List.getElem?_cons_succ, List.getElem?_append_left (by rw [List.length_map]; omega), List.getElem?_map, List.getElem?_eq_getElem (by omega)]
  simp [List.getElem?_eq_getElem (show m < months.length by omega)]

theorem IsGroup.atWd {cs : List Value} {node : Int} {months : List Int} {wd : Int} {mins : List Int} (h : IsGroup cs node months wd mins) : cs[13]? = some (.int .u64 wd) := by
  have h1 := h.hm
  rw [h.form, List.getElem?_cons_succ, List.getElem?_append_right (by rw [List.length_map]; omega), List.length_map, h1]
  rfl

theorem IsGroup.atMin {cs : List Value} {node : Int} {months : List Int} {wd : Int} {mins : List Int} (h : IsGroup cs node months wd mins) (m : Nat) (hm : m < 23) : cs[14 + m]? = some (.int .u64 (mins.getD m 0)) := by
  have h1 := h.hm
  have h2 := h.hs
  rw [h.form, show 14 + m = (13 + m) + 1 by omega, List.getElem?_cons_succ, List.getElem?_append_right (by rw [List.length_map]; omega), List.length_map, h1, show 13 + m - 12 = m + 1 by omega, List.getElem?_cons_succ, List.getElem?_map, List.getElem?_eq_getElem (by omega)]
  simp [List.getElem?_eq_getElem (show m < mins.length by omega)]

theorem u64_getD {l : List Int} (h : ∀ x ∈ l, U64 x) (m : Nat) : U64 (l.getD m 0) := by
  by_cases hm : m < l.length
  · rw [List.getD, List.getElem?_eq_getElem hm]
    exact h _ (List.getElem_mem hm)
  · rw [List.getD, List.getElem?_eq_none (by omega)]
    exact ⟨by decide, by decide⟩

set_option maxHeartbeats 400000 in
theorem groupHolds_any (cs : List Value) (node : Nat) (months : List Int) (wd : Int) (mins : List Int) (leaf month length day weekday : Nat) (w : World) (hG : IsGroup cs node months wd mins)
    (hn : node ≤ 200000) (hn1 : 1 ≤ node) (hlf : leaf ≤ 200000) (hm : 1 ≤ month) (hm2 : month ≤ 12) (hl1 : 28 ≤ length) (hl : length ≤ 31) (hd1 : 1 ≤ day) (hd : day ≤ length) (hwd : weekday ≤ 6) :
    Calls Try.prog 16 #[.agg cs.toArray, .int .i64 leaf, .int .i64 month, .int .i64 length, .int .i64 day, .int .i64 weekday] w fun e w' => e = .returned (.bool (over node leaf && fits months wd month length day weekday)) ∧ Below w.heap.size w w' := by
  obtain ⟨m, rfl⟩ : ∃ m, month = m + 1 := ⟨month - 1, by omega⟩
  have hb : Below w.heap.size w (w.alloc (.cells cs.toArray 34)) := (Below.refl _ _).alloc (Nat.le_refl _) _
  have hcell : ∀ k, (w.alloc (.cells cs.toArray 34)).cell? ⟨w.heap.size, k, none⟩ = cs[k]? := by
    intro k
    rw [World.cell?_alloc_at _ _ _ _ rfl]
    simp
  have hc0 := (hcell 0).trans hG.at0
  have hcm := (hcell (1 + m)).trans (hG.atMonth m (by omega))
  have hcw := (hcell 13).trans hG.atWd
  have hu := u64_getD hG.um m
  clear hcell
  have HF : Hid (fits months wd (m + 1) length day weekday = ((holds (months.getD m 0) day || holds (months.getD m 0) ((day : Int) - 1 - length)) && holds wd weekday)) := rfl
  have HU := under_any node leaf (w.alloc (.cells cs.toArray 34)) hn hn1 hlf
  have H1 := inSet_any (months.getD m 0) day (w.alloc (.cells cs.toArray 34)) hu (by omega) (by omega)
  have H2 := inSet_any (months.getD m 0) ((day : Int) - 1 - length) (w.alloc (.cells cs.toArray 34)) hu (by omega) (by omega)
  have H3 := inSet_any wd weekday (w.alloc (.cells cs.toArray 34)) hG.uw (by omega) (by omega)
  generalize months.getD m 0 = vs at *
  rw [HF.out]
  clear HF
  cases ho : over node leaf
  · rw [ho] at HU
    go_enter Try.func16, Try.ntmps16
    go_wp2_with fail
    refine HU.mono ?_
    rintro e w' ⟨rfl, rfl⟩
    go_wp2
    go_ret
    exact ⟨rfl, hb⟩
  rw [ho] at HU
  cases h1 : holds vs day
  · rw [h1] at H1
    cases h2 : holds vs ((day : Int) - 1 - length)
    · rw [h2] at H2
      go_enter Try.func16, Try.ntmps16
      go_wp2_with fail
      refine HU.mono ?_
      rintro e w' ⟨rfl, rfl⟩
      go_wp2_with fail
      refine H1.mono ?_
      rintro e w' ⟨rfl, rfl⟩
      go_wp2_with fail
      refine H2.mono ?_
      rintro e w' ⟨rfl, rfl⟩
      go_wp2
      go_ret
      exact ⟨rfl, hb⟩
    · rw [h2] at H2
      go_enter Try.func16, Try.ntmps16
      go_wp2_with fail
      refine HU.mono ?_
      rintro e w' ⟨rfl, rfl⟩
      go_wp2_with fail
      refine H1.mono ?_
      rintro e w' ⟨rfl, rfl⟩
      go_wp2_with fail
      refine H2.mono ?_
      rintro e w' ⟨rfl, rfl⟩
      go_wp2_with fail
      refine H3.mono ?_
      rintro e w' ⟨rfl, rfl⟩
      go_wp2
      go_ret
      exact ⟨rfl, hb⟩
  · rw [h1] at H1
    go_enter Try.func16, Try.ntmps16
    go_wp2_with fail
    refine HU.mono ?_
    rintro e w' ⟨rfl, rfl⟩
    go_wp2_with fail
    refine H1.mono ?_
    rintro e w' ⟨rfl, rfl⟩
    go_wp2_with fail
    refine H3.mono ?_
    rintro e w' ⟨rfl, rfl⟩
    go_wp2
    go_ret
    exact ⟨rfl, hb⟩

end Go.Proofs.Qxb6615962a
