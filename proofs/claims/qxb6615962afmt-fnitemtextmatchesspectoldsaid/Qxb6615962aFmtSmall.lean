import Derived.Test.Qxb6615962aFmtItem
namespace Go.Proofs.Qxb6615962aFmt
open Go.RowKit Go.Shelf
set_option linter.unusedSimpArgs false

theorem bytes_any (ms : List Nat) (p : ByteArray) (wd : Nat) (ao : Option Addr) (n cap ps : Nat) (w : World) :
    Calls Tryf.prog 5 #[.agg (mcells ms).toArray, .string p, .int .u64 wd, .slice ao n cap, .int .u64 ps] w fun e w' => Tells True e ∧ Below w.heap.size w w' := by
  by_cases h1 : 1048576 < p.size
  · go_enter Tryf.func5, Tryf.ntmps5
    go_wp2
    go_ret
    exact ⟨by first | exact tells_no | exact tells_yes trivial, (Below.refl _ _).alloc (Nat.le_refl _) _⟩
  · by_cases h2 : 1048576 < n
    · go_enter Tryf.func5, Tryf.ntmps5
      go_wp2
      go_ret
      exact ⟨by first | exact tells_no | exact tells_yes trivial, (Below.refl _ _).alloc (Nat.le_refl _) _⟩
    · by_cases h3 : 1048576 < p.size + n
      · have h4 : (1048576 : Int) < (p.size : Int) + (n : Int) := by omega
        go_enter Tryf.func5, Tryf.ntmps5
        go_wp2
        go_ret
        exact ⟨by first | exact tells_no | exact tells_yes trivial, (Below.refl _ _).alloc (Nat.le_refl _) _⟩
      · have h4 : ¬ ((1048576 : Int) < (p.size : Int) + (n : Int)) := by omega
        go_enter Tryf.func5, Tryf.ntmps5
        go_wp2
        go_ret
        exact ⟨by first | exact tells_no | exact tells_yes trivial, (Below.refl _ _).alloc (Nat.le_refl _) _⟩

set_option maxRecDepth 100000 in
set_option maxHeartbeats 1000000 in
theorem common_any (ms : List Nat) (w : World) (h12 : ms.length = 12) :
    Calls Tryf.prog 6 #[.agg (mcells ms).toArray] w fun e w' => (e = .returned (.tuple #[.int .u64 0, .bool false]) ∨ e = .returned (.tuple #[.int .u64 (dlast ms 12), .bool true])) ∧ Below w.heap.size w w' := by
  have HB : Hid (Blk (w.alloc (.cells (mcells ms).toArray 23)) w.heap.size (mcells ms) 23) := Blk.new w (mcells ms) 23
  go_enter Tryf.func6, Tryf.ntmps6
  go_wp2
  go_loopw [4, 5] (fun d m wr => ∃ k : Nat, m = .int .i64 k ∧ k ≤ 12 ∧ d = .int .u64 (dlast ms k) ∧ wr = w.alloc (.cells (mcells ms).toArray 23)) (fun _ m _ => 12 - (intOf m).toNat)
  case atStart => exact ⟨0, rfl, by omega, rfl, rfl⟩
  case round =>
    obtain ⟨k, rfl, hk, rfl, rfl⟩ := hrel
    by_cases hlt : k < 12
    · have hc : (w.alloc (.cells (mcells ms).toArray 23)).cell? ⟨w.heap.size, k, none⟩ = some (.int .u64 (nat0 ms k)) := by rw [HB.out.cell k]; exact mcells_at ms k (by omega)
      have hs : dlast ms (k + 1) = if nat0 ms k = 0 then dlast ms k else nat0 ms k := rfl
      by_cases hz : nat0 ms k = 0
      · rw [if_pos hz] at hs
        rw [hz] at hc
        have HS : Hid (dlast ms (k + 1) = dlast ms k) := hs
        clear hs hz
        go_wp2
        go_roundw
        case rel => exact ⟨k + 1, by go_num, by omega, by rw [HS.out], trivial⟩
        case measure => simp [intOf] <;> omega
      · rw [if_neg hz] at hs
        have HS : Hid (dlast ms (k + 1) = nat0 ms k) := hs
        have hnz : ((nat0 ms k : Nat) : Int) ≠ 0 := by omega
        clear hs
        generalize nat0 ms k = x at *
        generalize dlast ms k = y at *
        by_cases hy : y = 0
        · subst hy
          go_wp2
          go_roundw
          case rel => exact ⟨k + 1, by go_num, by omega, by rw [HS.out], trivial⟩
          case measure => simp [intOf] <;> omega
        · have hyz : ((y : Nat) : Int) ≠ 0 := by omega
          by_cases hxy : x = y
          · subst hxy
            go_wp2
            go_roundw
            case rel => exact ⟨k + 1, by go_num, by omega, by rw [HS.out], trivial⟩
            case measure => simp [intOf] <;> omega
          · have hne : (((x : Nat) : Int) != ((y : Nat) : Int)) = true := bne_iff_ne.2 (by omega)
            have hne2 : (((y : Nat) : Int) != 0) = true := bne_iff_ne.2 hyz
            have hne3 : (x == y) = false := by simp [hxy]
            go_wp2
            go_ret2
            exact ⟨.inl rfl, (Below.refl _ _).alloc (Nat.le_refl _) _⟩
    · obtain rfl : k = 12 := by omega
      go_wp2
      go_ret2
      exact ⟨.inr rfl, (Below.refl _ _).alloc (Nat.le_refl _) _⟩

/-- Every run of years ends by 9999. -/
def YearsOk (p : ByteArray) (k : Nat) : Prop := ∀ i, i < k → yr p (4 * i) < 10000 ∧ yr p (4 * i + 2) < 10000

theorem zz_item (bC ps : Nat) (t : ByteArray) (w : World) (h : Calls Tryf.prog 14 #[.pointer (some ⟨bC, 0, none⟩), .int .u64 ps] w fun e w' => e = .returned (.string t) ∧ Below w.heap.size w w') :
    Calls Tryf.prog 9 #[.pointer (some ⟨bC, 0, none⟩), .int .u64 ps] w fun e w' => e = .returned (.string t) ∧ Below w.heap.size w w' := by
  go_enter Tryf.func9, Tryf.ntmps9
  go_wp2_with fail
  refine h.mono ?_
  rintro e w' ⟨rfl, hb⟩
  go_wp2
  go_ret
  exact ⟨rfl, hb⟩
end Go.Proofs.Qxb6615962aFmt
