import Derived.Test.Qxb6615962aBits
namespace Go.Proofs.Qxb6615962a
open Go.RowKit

/-- It ends in a bool, and where that is true, p. -/
def Tells (p : Prop) (e : Ending) : Prop := ∃ r : Bool, e = .returned (.bool r) ∧ (r = true → p)

theorem tells_no {p : Prop} : Tells p (.returned (.bool false)) := ⟨false, rfl, by simp⟩
theorem tells_yes {p : Prop} (h : p) : Tells p (.returned (.bool true)) := ⟨true, rfl, fun _ => h⟩

/-- A Group, as data. -/
structure Gp where
  node : Int
  months : List Int
  wd : Int
  mins : List Int

def Gp.cells (g : Gp) : List Value := .int .i64 g.node :: (g.months.map (Value.int .u64) ++ .int .u64 g.wd :: g.mins.map (Value.int .u64))

/-- It is well formed. -/
def Gp.ok (g : Gp) : Prop := IsGroup g.cells g.node g.months g.wd g.mins

/-- The groups that came in, in their cells. -/
structure IsGroups (w : World) (a : Option Addr) (len cap : Nat) (gs : List Gp) : Prop where
  num : gs.length = len
  ok : ∀ g ∈ gs, g.ok
  node : ∀ g ∈ gs, -9223372036854775808 ≤ g.node ∧ g.node ≤ 9223372036854775807
  cells : 0 < len → ∃ b off, a = some ⟨b, off, none⟩ ∧ b < w.heap.size ∧ ∀ j, j < len → ∀ i, i < 37 → ∀ g, gs[j]? = some g → w.cell? ⟨b, off + j * 37 + i, none⟩ = g.cells[i]?

/-- What clauseArgsOK looks for. -/
structure ArgsOK (nEras : Int) (gs : List Gp) (i month length day weekday : Int) : Prop where
  e1 : 1 ≤ nEras
  e2 : nEras ≤ 65536
  i1 : 0 ≤ i
  i2 : i < nEras
  m1 : 1 ≤ month
  m2 : month ≤ 12
  l1 : 28 ≤ length
  l2 : length ≤ 31
  d1 : 1 ≤ day
  d2 : day ≤ length
  w1 : 0 ≤ weekday
  w2 : weekday ≤ 6
  nodes : ∀ (j : Nat) (g : Gp), gs[j]? = some g → 1 ≤ g.node ∧ g.node < 2 * nEras

set_option maxHeartbeats 1000000 in
set_option maxRecDepth 100000 in
theorem args_some (b off len cap : Nat) (gs : List Gp) (nEras i month length day weekday : Int) (w : World) (hlen : gs.length = len) (hl : len ≤ 4096)
    (hc : ∀ j, j < len → ∀ g, gs[j]? = some g → w.cell? ⟨b, off + j * 37, none⟩ = some (.int .i64 g.node)) :
    Calls Try.prog 12 #[.int .i64 nEras, .slice (some ⟨b, off, none⟩) len cap, .int .i64 i, .int .i64 month, .int .i64 length, .int .i64 day, .int .i64 weekday] w fun e w' => Tells (ArgsOK nEras gs i month length day weekday) e ∧ w = w' := by
  have HC : Hid (∀ j, j < len → ∀ g, gs[j]? = some g → w.cell? ⟨b, off + j * 37, none⟩ = some (.int .i64 g.node)) := hc
  clear hc
  by_cases hE : 1 ≤ nEras ∧ nEras ≤ 65536 ∧ 0 ≤ i ∧ i < nEras ∧ 1 ≤ month ∧ month ≤ 12 ∧ 28 ≤ length ∧ length ≤ 31 ∧ 1 ≤ day ∧ day ≤ length ∧ 0 ≤ weekday ∧ weekday ≤ 6
  · obtain ⟨e1, e2, i1, i2, m1, m2, l1, l2, d1, d2, w1, w2⟩ := hE
    go_enter Try.func12, Try.ntmps12
    go_wp2
    go_loop [15] (fun t => ∃ k : Nat, k ≤ len ∧ t = .int .i64 k ∧ ∀ j g, j < k → gs[j]? = some g → 1 ≤ g.node ∧ g.node < 2 * nEras) (fun t => len - (intOf t).toNat)
    case atStart => exact ⟨0, Nat.zero_le _, rfl, by intro j g hj; omega⟩
    case round =>
      obtain ⟨k, hk, rfl, hn⟩ := hrel
      have HN : Hid (∀ j g, j < k → gs[j]? = some g → 1 ≤ g.node ∧ g.node < 2 * nEras) := hn
      clear hn
      by_cases hlt : k < len
      · obtain ⟨g, hg⟩ : ∃ g, gs[k]? = some g := ⟨_, List.getElem?_eq_getElem (by omega)⟩
        have hcx := HC.out k hlt g hg
        have HG : Hid (gs[k]? = some g) := hg
        clear hg
        have HS : Hid (1 ≤ g.node ∧ g.node < 2 * nEras → ∀ j g, j < k + 1 → gs[j]? = some g → 1 ≤ g.node ∧ g.node < 2 * nEras) := by
          intro h j g' hj hg'
          by_cases hjk : j = k
          · subst hjk
            rw [HG.out] at hg'
            cases hg'
            exact h
          · exact HN.out j g' (by omega) hg'
        clear HN HG
        generalize g.node = nd at *
        go_wp2
        all_goals first
          | (go_ret; exact ⟨tells_no, rfl⟩)
          | (go_round
             case rel => exact ⟨k + 1, by omega, by go_num, HS.out (by omega)⟩
             case measure => simp [intOf]; omega)
      · go_wp2
        go_ret
        exact ⟨tells_yes ⟨e1, e2, i1, i2, m1, m2, l1, l2, d1, d2, w1, w2, fun j g hg => HN.out j g (by have := (List.getElem?_eq_some_iff.1 hg).1; omega) hg⟩, rfl⟩
  · go_enter Try.func12, Try.ntmps12
    have HE : Hid (¬ (1 ≤ nEras ∧ nEras ≤ 65536 ∧ 0 ≤ i ∧ i < nEras ∧ 1 ≤ month ∧ month ≤ 12 ∧ 28 ≤ length ∧ length ≤ 31 ∧ 1 ≤ day ∧ day ≤ length ∧ 0 ≤ weekday ∧ weekday ≤ 6)) := hE
    clear hE
    go_wp2
    all_goals first
      | (go_ret; exact ⟨tells_no, rfl⟩)
      | (exact absurd (by omega) HE.out)

set_option maxHeartbeats 1000000 in
set_option maxRecDepth 100000 in
theorem args_none (a : Option Addr) (cap : Nat) (nEras i month length day weekday : Int) (w : World) :
    Calls Try.prog 12 #[.int .i64 nEras, .slice a 0 cap, .int .i64 i, .int .i64 month, .int .i64 length, .int .i64 day, .int .i64 weekday] w fun e w' => Tells (ArgsOK nEras [] i month length day weekday) e ∧ w = w' := by
  by_cases hE : 1 ≤ nEras ∧ nEras ≤ 65536 ∧ 0 ≤ i ∧ i < nEras ∧ 1 ≤ month ∧ month ≤ 12 ∧ 28 ≤ length ∧ length ≤ 31 ∧ 1 ≤ day ∧ day ≤ length ∧ 0 ≤ weekday ∧ weekday ≤ 6
  · obtain ⟨e1, e2, i1, i2, m1, m2, l1, l2, d1, d2, w1, w2⟩ := hE
    go_enter Try.func12, Try.ntmps12
    go_wp2
    refine wp_loop_rounds 1 ?_
    rw [rounds_succ]
    go_wp2
    go_ret
    exact ⟨tells_yes ⟨e1, e2, i1, i2, m1, m2, l1, l2, d1, d2, w1, w2, fun j g hg => by simp at hg⟩, rfl⟩
  · go_enter Try.func12, Try.ntmps12
    have HE : Hid (¬ (1 ≤ nEras ∧ nEras ≤ 65536 ∧ 0 ≤ i ∧ i < nEras ∧ 1 ≤ month ∧ month ≤ 12 ∧ 28 ≤ length ∧ length ≤ 31 ∧ 1 ≤ day ∧ day ≤ length ∧ 0 ≤ weekday ∧ weekday ≤ 6)) := hE
    clear hE
    go_wp2
    all_goals first
      | (go_ret; exact ⟨tells_no, rfl⟩)
      | (exact absurd (by omega) HE.out)

theorem args_any {a : Option Addr} {len cap : Nat} {gs : List Gp} {w : World} (h : IsGroups w a len cap gs) (hl : len ≤ 4096) (nEras i month length day weekday : Int) :
    Calls Try.prog 12 #[.int .i64 nEras, .slice a len cap, .int .i64 i, .int .i64 month, .int .i64 length, .int .i64 day, .int .i64 weekday] w fun e w' => Tells (ArgsOK nEras gs i month length day weekday) e ∧ w = w' := by
  by_cases h0 : 0 < len
  · obtain ⟨b, off, rfl, _, hc⟩ := h.cells h0
    refine args_some b off len cap gs nEras i month length day weekday w h.num hl ?_
    intro j hj g hg
    have := hc j hj 0 (by omega) g hg
    rw [Nat.add_zero] at this
    rw [this]
    rfl
  · obtain rfl : len = 0 := by omega
    obtain rfl : gs = [] := List.eq_nil_of_length_eq_zero h.num
    exact args_none a cap nEras i month length day weekday w

set_option maxHeartbeats 400000 in
theorem bytes11_any (a : Option Addr) (len cap : Nat) (nEras pos i month length day weekday : Int) (cs : List Value) (w : World) :
    Calls Try.prog 11 #[.int .i64 nEras, .slice a len cap, .int .i64 pos, .agg cs.toArray, .int .i64 i, .int .i64 month, .int .i64 length, .int .i64 day, .int .i64 weekday] w fun e w' => Tells True e ∧ Below w.heap.size w w' := by
  have hb : Below w.heap.size w (w.alloc (.cells cs.toArray 34)) := (Below.refl _ _).alloc (Nat.le_refl _) _
  by_cases hl : len ≤ 1048576
  all_goals
    go_enter Try.func11, Try.ntmps11
    go_wp2
    all_goals first
      | (go_ret; exact ⟨tells_no, hb⟩)
      | (go_ret; exact ⟨tells_yes trivial, hb⟩)

set_option maxHeartbeats 400000 in
theorem bytes17_any (a : Option Addr) (len cap : Nat) (nEras idx i month length day weekday : Int) (w : World) :
    Calls Try.prog 17 #[.int .i64 nEras, .slice a len cap, .int .i64 idx, .int .i64 i, .int .i64 month, .int .i64 length, .int .i64 day, .int .i64 weekday] w fun e w' => Tells True e ∧ w = w' := by
  by_cases hl : len ≤ 1048576
  all_goals
    go_enter Try.func17, Try.ntmps17
    go_wp2
    all_goals first
      | (go_ret; exact ⟨tells_no, rfl⟩)
      | (go_ret; exact ⟨tells_yes trivial, rfl⟩)

end Go.Proofs.Qxb6615962a
