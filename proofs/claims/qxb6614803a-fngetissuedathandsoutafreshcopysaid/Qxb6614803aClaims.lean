import Derived.Test.Qxb6614803aTime
namespace Go.Proofs.Qxb6614803a
open Go.RowKit

set_option maxHeartbeats 400000 in
theorem numDate (wl ex : Int) (p m : Bool) (w : World) :
    Calls Try.prog 5 #[.agg #[.int .u64 wl, .int .i64 ex, .pointer none], .bool p, .bool m] w fun e w' => e = .returned (.agg #[.int .u64 wl, .int .i64 ex, .pointer none, .bool p, .bool m]) ∧ Below w.heap.size w w' := by
  have n1 := Blk.new (w.alloc (.cells #[.int .u64 wl, .int .i64 ex, .pointer none] 25)) [.int .u64 wl, .int .i64 ex, .pointer none, .bool p, .bool m] 29
  simp only [World.size_alloc] at n1
  go_enter Try.func5, Try.ntmps5
  go_wp2
  refine bodyPost_ret (results_cell_row rfl _ _ (w.heap.size + 1) 29 #[.int .u64 wl, .int .i64 ex, .pointer none, .bool p, .bool m] (0, 0) _ rfl n1 Try.underlying29 rfl (by kernel_rfl)) rfl ?_
  exact ⟨rfl, ((Below.refl _ _).alloc (Nat.le_refl _) _).alloc (by simp) _⟩

/-- What asJWT and GetIssuedAt hand out: nil, or a new variable with the time. -/
def Hands (w : World) (wl ex : Int) (p : Bool) (v : Value) (w' : World) : Prop :=
  Below w.heap.size w w' ∧ match p with
    | false => v = .pointer none
    | true => ∃ b, v = .pointer (some ⟨b, 0, none⟩) ∧ w.heap.size ≤ b ∧ Blk w' b [.int .u64 wl, .int .i64 ex, .pointer none] 42

set_option maxHeartbeats 400000 in
theorem asJWT (wl ex : Int) (p m : Bool) (w : World) :
    Calls Try.prog 11 #[.agg #[.int .u64 wl, .int .i64 ex, .pointer none, .bool p, .bool m]] w fun e w' => ∃ v, e = .returned v ∧ Hands w wl ex p v w' := by
  have n1 := Blk.new (w.alloc (.cells #[.int .u64 wl, .int .i64 ex, .pointer none, .bool p, .bool m] 29)) [.int .u64 wl, .int .i64 ex, .pointer none] 42
  simp only [World.size_alloc] at n1
  have HN : Hid (Blk ((w.alloc (.cells #[.int .u64 wl, .int .i64 ex, .pointer none, .bool p, .bool m] 29)).alloc (.cells #[.int .u64 wl, .int .i64 ex, .pointer none] 42)) (w.heap.size + 1) [.int .u64 wl, .int .i64 ex, .pointer none] 42) := n1
  clear n1
  cases p
  · go_enter Try.func11, Try.ntmps11
    go_wp2
    go_ret
    exact ⟨_, rfl, (Below.refl _ _).alloc (Nat.le_refl _) _, rfl⟩
  · go_enter Try.func11, Try.ntmps11
    go_wp2
    go_ret
    exact ⟨_, rfl, ((Below.refl _ _).alloc (Nat.le_refl _) _).alloc (by simp) _, _, rfl, by omega, HN.out⟩

set_option maxHeartbeats 400000 in
theorem getIssued (c0 c1 c2 c3 c4 c5 c6 c7 c8 c9 c10 c11 c12 c13 c19 : Value) (wl ex : Int) (p m : Bool) (w : World) :
    Calls Try.prog 6 #[.agg #[c0, c1, c2, c3, c4, c5, c6, c7, c8, c9, c10, c11, c12, c13, .int .u64 wl, .int .i64 ex, .pointer none, .bool p, .bool m, c19]] w fun e w' => ∃ v, e = .returned (.tuple #[v, .nilIface]) ∧ Hands w wl ex p v w' := by
  have hb : Below w.heap.size w (w.alloc (.cells #[c0, c1, c2, c3, c4, c5, c6, c7, c8, c9, c10, c11, c12, c13, .int .u64 wl, .int .i64 ex, .pointer none, .bool p, .bool m, c19] 35)) := (Below.refl _ _).alloc (Nat.le_refl _) _
  go_enter Try.func6, Try.ntmps6
  go_wp2_with fail
  refine (asJWT wl ex p m _).mono ?_
  rintro r w' ⟨v, rfl, hH⟩
  have HH : Hid (Hands w wl ex p v w') := by
    refine ⟨hb.trans (hH.1.mono (by simp)), ?_⟩
    cases p
    · exact hH.2
    · obtain ⟨b, hv, hle, hB⟩ := hH.2
      exact ⟨b, hv, by simp at hle; omega, hB⟩
  clear hH
  go_wp2
  go_ret2
  exact ⟨v, rfl, HH.out⟩
end Go.Proofs.Qxb6614803a
