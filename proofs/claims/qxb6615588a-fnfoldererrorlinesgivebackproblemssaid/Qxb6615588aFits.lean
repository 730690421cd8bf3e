import Derived.Test.Qxb6615588aRows
import Derived.WalkKit
import Derived.WalkSpells
import Derived.WalkLawsBesides
namespace Go.Proofs.Qxb6615588a
open Go.RowKit

/-- The bytes of a list of strings. -/
def sizes (ss : List ByteArray) : Nat := (ss.map (·.size)).sum

theorem sizes_append (a b : List ByteArray) : sizes (a ++ b) = sizes a + sizes b := by
  unfold sizes; rw [List.map_append, List.sum_append]

theorem sizes_succ (ss : List ByteArray) (k : Nat) (h : k < ss.length) : sizes (ss.take (k + 1)) = sizes (ss.take k) + (ss.getD k ByteArray.empty).size := by
  rw [List.take_succ_eq_append_getElem h, sizes_append]
  simp [sizes, List.getElem?_eq_getElem h]

theorem sizes_split (ss : List ByteArray) (k : Nat) : sizes (ss.take k) + sizes (ss.drop k) = sizes ss := by
  rw [← sizes_append, List.take_append_drop]

/-- It ends in a bool, and where that is true, p. -/
def Tells (p : Prop) (e : Ending) : Prop := ∃ r : Bool, e = .returned (.bool r) ∧ (r = true → p)

theorem tells_no {p : Prop} : Tells p (.returned (.bool false)) := ⟨false, rfl, by simp⟩
theorem tells_yes {p : Prop} (h : p) : Tells p (.returned (.bool true)) := ⟨true, rfl, fun _ => h⟩

set_option maxHeartbeats 400000 in
theorem bytes6_none (a : Option Addr) (cap : Nat) (cut : Int) (w : World) :
    Calls Try.prog 6 #[.slice a 0 cap, .int .i64 cut] w fun e w' => e = .returned (.bool true) ∧ w' = w := by
  go_enter Try.func6, Try.ntmps6
  go_wp2
  refine wp_loop_rounds 1 ?_
  rw [rounds_succ]
  go_wp2
  go_ret
  exact ⟨rfl, rfl⟩

set_option maxHeartbeats 400000 in
theorem bytes6_any (b off len cap : Nat) (cut : Int) (ss : List ByteArray) (w : World) (hz : len ≤ ss.length)
    (hc : ∀ j, j < len → w.cell? ⟨b, off + j, none⟩ = some (.string (ss.getD j ByteArray.empty))) :
    Calls Try.prog 6 #[.slice (some ⟨b, off, none⟩) len cap, .int .i64 cut] w fun e w' => Tells (len + sizes (ss.take len) ≤ 1048576) e ∧ w' = w := by
  go_enter Try.func6, Try.ntmps6
  by_cases hl : len ≤ 1048576
  · go_wp2
    go_loop [5, 6] (fun t i => ∃ k : Nat, k ≤ len ∧ i = .int .i64 k ∧ t = .int .i64 (len + sizes (ss.take k) : Nat) ∧ len + sizes (ss.take k) ≤ 1048576) (fun _ i => len - (intOf i).toNat)
    case atStart => exact ⟨0, Nat.zero_le _, rfl, by simp [sizes], by simp [sizes]; omega⟩
    case round =>
      obtain ⟨k, hk, rfl, rfl, ht⟩ := hrel
      by_cases hlt : k < len
      · have hcx := hc k hlt
        clear hc
        have HS : Hid (sizes (ss.take (k + 1)) = sizes (ss.take k) + (ss.getD k ByteArray.empty).size) := sizes_succ ss k (by omega)
        generalize ss.getD k ByteArray.empty = s at *
        generalize sizes (ss.take k) = z at *
        go_wp2
        all_goals first
          | (go_ret; exact ⟨tells_no, rfl⟩)
          | (go_round
             case rel => exact ⟨k + 1, by omega, by go_num, by rw [HS.out]; go_num, by rw [HS.out]; omega⟩
             case measure => simp [intOf]; omega)
      · go_wp2
        go_ret
        have hk' : k = len := by omega
        subst hk'
        exact ⟨tells_yes ht, rfl⟩
  · go_wp2
    go_ret
    exact ⟨tells_no, rfl⟩

set_option maxHeartbeats 400000 in
theorem bytes9_none (a : Option Addr) (cap : Nat) (w : World) :
    Calls Try.prog 9 #[.slice a 0 cap] w fun e w' => e = .returned (.bool true) ∧ w' = w := by
  go_enter Try.func9, Try.ntmps9
  go_wp2
  refine wp_loop_rounds 1 ?_
  rw [rounds_succ]
  go_wp2
  go_ret
  exact ⟨rfl, rfl⟩

set_option maxHeartbeats 400000 in
theorem bytes9_any (b off len cap : Nat) (ss : List ByteArray) (w : World) (hz : len ≤ ss.length)
    (hc : ∀ j, j < len → w.cell? ⟨b, off + j, none⟩ = some (.string (ss.getD j ByteArray.empty))) :
    Calls Try.prog 9 #[.slice (some ⟨b, off, none⟩) len cap] w fun e w' => Tells (len + sizes (ss.take len) ≤ 1048576) e ∧ w' = w := by
  go_enter Try.func9, Try.ntmps9
  by_cases hl : len ≤ 1048576
  · go_wp2
    go_loop [3, 4] (fun t i => ∃ k : Nat, k ≤ len ∧ i = .int .i64 k ∧ t = .int .i64 (len + sizes (ss.take k) : Nat) ∧ len + sizes (ss.take k) ≤ 1048576) (fun _ i => len - (intOf i).toNat)
    case atStart => exact ⟨0, Nat.zero_le _, rfl, by simp [sizes], by simp [sizes]; omega⟩
    case round =>
      obtain ⟨k, hk, rfl, rfl, ht⟩ := hrel
      by_cases hlt : k < len
      · have hcx := hc k hlt
        clear hc
        have HS : Hid (sizes (ss.take (k + 1)) = sizes (ss.take k) + (ss.getD k ByteArray.empty).size) := sizes_succ ss k (by omega)
        generalize ss.getD k ByteArray.empty = s at *
        generalize sizes (ss.take k) = z at *
        go_wp2
        all_goals first
          | (go_ret; exact ⟨tells_no, rfl⟩)
          | (go_round
             case rel => exact ⟨k + 1, by omega, by go_num, by rw [HS.out]; go_num, by rw [HS.out]; omega⟩
             case measure => simp [intOf]; omega)
      · go_wp2
        go_ret
        have hk' : k = len := by omega
        subst hk'
        exact ⟨tells_yes ht, rfl⟩
  · go_wp2
    go_ret
    exact ⟨tells_no, rfl⟩

set_option maxHeartbeats 400000 in
theorem fit7_none (a : Option Addr) (cap : Nat) (w : World) :
    Calls Try.prog 7 #[.slice a 0 cap] w fun e w' => e = .returned (.bool true) ∧ w' = w := by
  go_enter Try.func7, Try.ntmps7
  go_wp2
  refine wp_loop_rounds 1 ?_
  rw [rounds_succ]
  go_wp2
  go_ret
  exact ⟨rfl, rfl⟩

set_option maxHeartbeats 400000 in
theorem fit7_any (b off len cap : Nat) (ss : List ByteArray) (w : World) (hz : len ≤ ss.length) (hl : len ≤ 4096) (hb : sizes (ss.take len) ≤ 1048576)
    (hc : ∀ j, j < len → w.cell? ⟨b, off + j, none⟩ = some (.string (ss.getD j ByteArray.empty))) :
    Calls Try.prog 7 #[.slice (some ⟨b, off, none⟩) len cap] w fun e w' => Tells True e ∧ w' = w := by
  go_enter Try.func7, Try.ntmps7
  go_wp2
  go_loop [3, 4] (fun t i => ∃ k : Nat, k ≤ len ∧ i = .int .i64 k ∧ t = .int .i64 (16 * k + sizes (ss.take k) : Nat)) (fun _ i => len - (intOf i).toNat)
  case atStart => exact ⟨0, Nat.zero_le _, rfl, by simp [sizes]⟩
  case round =>
    obtain ⟨k, hk, rfl, rfl⟩ := hrel
    by_cases hlt : k < len
    · have hcx := hc k hlt
      clear hc
      have hle : sizes (ss.take (k + 1)) ≤ 1048576 := by
        have h1 := sizes_split (ss.take len) (k + 1)
        rw [List.take_take, Nat.min_eq_left (by omega)] at h1
        omega
      have hs : sizes (ss.take (k + 1)) = sizes (ss.take k) + (ss.getD k ByteArray.empty).size := sizes_succ ss k (by omega)
      have HS : Hid (sizes (ss.take (k + 1)) = sizes (ss.take k) + (ss.getD k ByteArray.empty).size) := hs
      have hz1 : sizes (ss.take k) ≤ 1048576 := by omega
      have hz2 : (ss.getD k ByteArray.empty).size ≤ 1048576 := by omega
      clear hs hle hb
      generalize ss.getD k ByteArray.empty = s at *
      generalize sizes (ss.take k) = z at *
      go_wp2
      all_goals first
        | (go_ret; exact ⟨tells_no, rfl⟩)
        | (go_round
           case rel => exact ⟨k + 1, by omega, by go_num, by rw [HS.out]; go_num⟩
           case measure => simp [intOf]; omega)
    · go_wp2
      go_ret
      exact ⟨tells_yes trivial, rfl⟩

end Go.Proofs.Qxb6615588a
