import Derived.Test.Qxb6614803aClaims
import Derived.Deep.RegionHeld
import Derived.BigQuiet
import Derived.LaidEql
namespace Go.Proofs.Qxb6614803a
open Go.RowKit

def zero20 : List Value := [.string ByteArray.empty, .string ByteArray.empty, .slice none 0 0, .bool false, .int .u64 0, .int .i64 0, .pointer none, .bool false, .bool false, .int .u64 0, .int .i64 0, .pointer none, .bool false, .bool false, .int .u64 0, .int .i64 0, .pointer none, .bool false, .bool false, .string ByteArray.empty]
def claims20 (wl ex : Int) (p m : Bool) : List Value := [.string ByteArray.empty, .string ByteArray.empty, .slice none 0 0, .bool false, .int .u64 0, .int .i64 0, .pointer none, .bool false, .bool false, .int .u64 0, .int .i64 0, .pointer none, .bool false, .bool false, .int .u64 wl, .int .i64 ex, .pointer none, .bool p, .bool m, .string ByteArray.empty]

theorem info35 : (Try.prog.info? 35).map (·.size) = some 20 := by kernel_rfl

theorem one20 (wl ex : Int) (p m : Bool) : ∀ v ∈ claims20 wl ex p m, v.oneCell' = true := by
  intro v hv
  simp only [claims20, List.mem_cons, List.not_mem_nil, or_false] at hv
  rcases hv with rfl | rfl | rfl | rfl | rfl | rfl | rfl | rfl | rfl | rfl | rfl | rfl | rfl | rfl | rfl | rfl | rfl | rfl | rfl | rfl <;> rfl

theorem getC (wl ex : Int) (p m : Bool) (w : World) : Calls Try.prog 6 #[.agg (claims20 wl ex p m).toArray] w fun e w' => ∃ v, e = .returned (.tuple #[v, .nilIface]) ∧ Hands w wl ex p v w' :=
  getIssued _ _ _ _ _ _ _ _ _ _ _ _ _ _ _ wl ex p m w

theorem eqT (wl ex : Int) (w : World) : (Op.equalIn 10000 25 (.agg #[.int .u64 wl, .int .i64 ex, .pointer none]) (.agg #[.int .u64 wl, .int .i64 ex, .pointer none])).run Try.prog w = .ok true w := by
  have hS : Try.prog.underlying 25 = some (.struct (Try.prog.fieldsOf 25)) := by kernel_rfl
  have hp : Try.prog.stoodInHeld 25 = false := by kernel_rfl
  rw [show (10000 : Nat) = 9999 + 1 from rfl, run_equalIn_agg w 9999 25 _ _ hS hp]
  simp only [Program.fieldsOf, Try.underlying25]
  go_simp
  rw [show (9999 : Nat) = 9998 + 1 from rfl, run_equalIn_pointer_nil w 9998 23 none (by kernel_rfl)]
  rfl

theorem neq_ptr (w : World) (g1 g2 : Nat) (cs1 cs2 : List Value) (hne : g2 ≠ g1) (h1 : Blk w g1 cs1 42) (h2 : Blk w g2 cs2 42) : (binOp .neq 36 (.pointer (some ⟨g2, 0, none⟩)) (.pointer (some ⟨g1, 0, none⟩))).run Try.prog w = .ok (.bool true) w := by
  have hI : ∃ j, Try.prog.info? 42 = some j ∧ j.size = 3 := by
    have h : (Try.prog.info? 42).map (·.size) = some 3 := by kernel_rfl
    exact Option.map_eq_some_iff.1 h
  obtain ⟨j, hj, hs⟩ := hI
  have hsa := run_sameAddr_other (P := Try.prog) w (a := ⟨g2, 0, none⟩) (b := ⟨g1, 0, none⟩) (fun e => hne (by injection e)) h2 h1
  have h : (Op.equalIn 10000 36 (.pointer (some ⟨g2, 0, none⟩)) (.pointer (some ⟨g1, 0, none⟩))).run Try.prog w = .ok false w := by
    rw [show (10000 : Nat) = 9999 + 1 from rfl, Op.equalIn]
    simp only [Sem.run_bind, run_underlying Try.underlying36, Result.andThen_ok]
    simp only [sizeOf, typeInfo, Sem.run_bind, hj, hs, run_program, Result.andThen_ok, Sem.run_pure, Sem.run_ite]
    exact hsa
  simp only [binOp]
  simp only [Op.equal, Op.maxDepth, Sem.run_bind, h, Result.andThen_ok, Sem.run_pure, Bool.not_false]

/-- What the walk knows of its own blocks: the zero time, the wanted time, the claims. -/
structure Own (w : World) (wB cB : Nat) (wl ex : Int) (p m : Bool) (W : World) : Prop where
  z : Blk W w.heap.size [.int .u64 0, .int .i64 0, .pointer none] 25
  t : Blk W wB [.int .u64 wl, .int .i64 ex, .pointer none] 25
  c : Blk W cB (claims20 wl ex p m) 35
  bel : Below w.heap.size w W

theorem Own.below {w : World} {wB cB : Nat} {wl ex : Int} {p m : Bool} {W W' : World} (h : Own w wB cB wl ex p m W) (hb : Below W.heap.size W W') : Own w wB cB wl ex p m W' :=
  ⟨h.z.below hb h.z.lt, h.t.below hb h.t.lt, h.c.below hb h.c.lt, h.bel.trans (hb.mono h.bel.size)⟩

set_option maxRecDepth 100000 in
set_option maxHeartbeats 2000000 in
theorem fresh_walk (d : Int) (p m : Bool) (o : Int) (w : World) (hd1 : -9223372036854775808 ≤ d) (hd2 : d ≤ 9223372036854775807) (ho1 : -9223372036854775808 ≤ o) (ho2 : o ≤ 9223372036854775807) :
    Calls Try.prog 3 #[.int .i64 d, .bool p, .bool m, .int .i64 o] w fun e w' => e = .returned (.bool true) ∧ Below w.heap.size w w' := by
  have hbw : Below w.heap.size w w := Below.refl _ _
  have n0 := Blk.new w [.int .u64 0, .int .i64 0, .pointer none] 25
  have hb0 : Below w.heap.size w (w.alloc (.cells #[.int .u64 0, .int .i64 0, .pointer none] 25)) := (Below.refl _ _).alloc (Nat.le_refl _) _
  have HA := add_zero d (w.alloc (.cells #[.int .u64 0, .int .i64 0, .pointer none] 25)) hd1 hd2
  have HA2 := fun w' => add_zero d w' hd1 hd2
  have HO := fun w' => add_zero o w' ho1 ho2
  unfold timeOf at HA HA2 HO
  generalize wallOf d = wl at HA HA2
  generalize secOf d = ex at HA HA2
  generalize wallOf o = wo at HO
  generalize secOf o = eo at HO
  have H1 : Hid (Calls Try.prog 4 _ _ _) := HA
  have H2 : Hid (∀ w' : World, Calls Try.prog 4 _ w' _) := HA2
  have H3 : Hid (∀ w' : World, Calls Try.prog 4 _ w' _) := HO
  have H0 : Hid (Blk (w.alloc (.cells #[.int .u64 0, .int .i64 0, .pointer none] 25)) w.heap.size [.int .u64 0, .int .i64 0, .pointer none] 25 ∧ Below w.heap.size w (w.alloc (.cells #[.int .u64 0, .int .i64 0, .pointer none] 25))) := ⟨n0, hb0⟩
  clear HA HA2 HO n0 hb0
  cases p
  · by_cases h0 : d = 0
    · cases m
      · subst h0
        go_enter Try.func3, Try.ntmps3
        go_wp2_with fail
        refine H1.out.mono ?_
        rintro r w2 ⟨rfl, hb2⟩
        have hz := (H0.out.1.below hb2 H0.out.1.lt).alloc (.cells #[.int .u64 wl, .int .i64 ex, .pointer none] 25)
        have hn := Blk.new w2 [.int .u64 wl, .int .i64 ex, .pointer none] 25
        have hb3 : Below w.heap.size w (w2.alloc (.cells #[.int .u64 wl, .int .i64 ex, .pointer none] 25)) := (H0.out.2.trans (hb2.mono H0.out.2.size)).alloc (Nat.le_trans H0.out.2.size hb2.size) _
        have z0 : (w2.alloc (.cells #[.int .u64 wl, .int .i64 ex, .pointer none] 25)).cell? ⟨w.heap.size, 0, none⟩ = some (.int .u64 0) := hz.cell 0
        have z1 : (w2.alloc (.cells #[.int .u64 wl, .int .i64 ex, .pointer none] 25)).cell? ⟨w.heap.size, 1, none⟩ = some (.int .i64 0) := hz.cell 1
        have z2 : (w2.alloc (.cells #[.int .u64 wl, .int .i64 ex, .pointer none] 25)).cell? ⟨w.heap.size, 2, none⟩ = some (.pointer none) := hz.cell 2
        have HK : Hid (Blk (w2.alloc (.cells #[.int .u64 wl, .int .i64 ex, .pointer none] 25)) w.heap.size [.int .u64 0, .int .i64 0, .pointer none] 25 ∧ Blk (w2.alloc (.cells #[.int .u64 wl, .int .i64 ex, .pointer none] 25)) w2.heap.size [.int .u64 wl, .int .i64 ex, .pointer none] 25 ∧ Below w.heap.size w (w2.alloc (.cells #[.int .u64 wl, .int .i64 ex, .pointer none] 25))) := ⟨hz, hn, hb3⟩
        clear hz hn hb3 hb2 H0 H1
        go_wp2_with fail
        clear z0 z1 z2
        generalize (w2.alloc (.cells #[.int .u64 wl, .int .i64 ex, .pointer none] 25)) = w3 at HK ⊢
        generalize w2.heap.size = wB at HK ⊢
        refine (H2.out w3).mono ?_
        rintro r w4 ⟨rfl, hb4⟩
        go_wp2_with fail
        refine (numDate wl ex false false w4).mono ?_
        rintro r w5 ⟨rfl, hb5⟩
        have HK5 : Hid (Blk w5 w.heap.size [.int .u64 0, .int .i64 0, .pointer none] 25 ∧ Blk w5 wB [.int .u64 wl, .int .i64 ex, .pointer none] 25 ∧ Below w.heap.size w w5) := by
          obtain ⟨k1, k2, k3⟩ := HK.out
          have hb45 := hb4.trans (hb5.mono hb4.size)
          exact ⟨k1.below hb45 k1.lt, k2.below hb45 k2.lt, k3.trans (hb45.mono k3.size)⟩
        clear HK hb4 hb5
        have HZ : Hid (Blk (w5.alloc (.cells #[.string ByteArray.empty, .string ByteArray.empty, .slice none 0 0, .bool false, .int .u64 0, .int .i64 0, .pointer none, .bool false, .bool false, .int .u64 0, .int .i64 0, .pointer none, .bool false, .bool false, .int .u64 0, .int .i64 0, .pointer none, .bool false, .bool false, .string ByteArray.empty] 35)) w5.heap.size zero20 35 ∧ (Try.prog.info? 35).map (·.size) = some (claims20 wl ex false false).length ∧ zero20.length = (claims20 wl ex false false).length ∧ ∀ v ∈ claims20 wl ex false false, v.oneCell' = true) := ⟨Blk.new w5 zero20 35, info35, rfl, one20 wl ex false false⟩
        go_wp2_with (refine wpList_store_put rfl 35 (.tmp 11) (.tmp 36) rfl w5.heap.size 35 zero20 (claims20 wl ex false false) rfl rfl HZ.out.1 HZ.out.2.1 HZ.out.2.2.1 HZ.out.2.2.2 ?_)
        intro w6 HP6
        have HR6 : Hid (w6.rangeAt w5.heap.size 0 (claims20 wl ex false false)) := HP6.out.blk.range
        go_wp2_with (refine wpList_load_mid rfl 35 (.tmp 11) rfl _ _ rfl _ _ HR6.out Try.underlying35 rfl HZ.out.2.1 ?_)
        have HO6 : Hid (Own w wB w5.heap.size wl ex false false w6) := by
          obtain ⟨k1, k2, k3⟩ := HK5.out
          have hp := HP6.out
          have l1 := k1.lt
          have l2 := k2.lt
          exact ⟨(hp.other _ (by omega)).trans (k1.alloc _), (hp.other _ (by omega)).trans (k2.alloc _), hp.blk, (k3.alloc k3.size _).trans ⟨hp.os, hp.tape, hp.output, Nat.le_of_eq hp.size.symm, fun b hb => hp.other b (by have := k3.size; omega)⟩⟩
        clear HK5 HP6 HR6 HZ
        generalize w5.heap.size = cB at HO6 ⊢
        refine (getC wl ex false false w6).mono ?_
        rintro r w7 ⟨v, rfl, hb7, rfl⟩
        have HO7 : Hid (Own w wB cB wl ex false false w7) := HO6.out.below hb7
        have HR7 : Hid (w7.rangeAt cB 0 (claims20 wl ex false false) ∧ (Try.prog.info? 35).map (·.size) = some (claims20 wl ex false false).length) := ⟨HO7.out.c.range, info35⟩
        clear HO6 hb7
        go_wp2_with (refine wpList_load_mid rfl 35 (.tmp 11) rfl _ _ rfl _ _ HR7.out.1 Try.underlying35 rfl HR7.out.2 ?_)
        refine (getC wl ex false false w7).mono ?_
        rintro r w8 ⟨v, rfl, hb8, rfl⟩
        have HO8 : Hid (Own w wB cB wl ex false false w8) := HO7.out.below hb8
        clear HO7 HR7 hb8
        go_wp2
        go_ret
        exact ⟨rfl, HO8.out.bel⟩
      · go_enter Try.func3, Try.ntmps3
        go_wp2
        go_ret
        exact ⟨rfl, hbw⟩
    · go_enter Try.func3, Try.ntmps3
      go_wp2
      go_ret
      exact ⟨rfl, hbw⟩
  · go_enter Try.func3, Try.ntmps3
    go_wp2_with fail
    refine H1.out.mono ?_
    rintro r w2 ⟨rfl, hb2⟩
    have hz := (H0.out.1.below hb2 H0.out.1.lt).alloc (.cells #[.int .u64 wl, .int .i64 ex, .pointer none] 25)
    have hn := Blk.new w2 [.int .u64 wl, .int .i64 ex, .pointer none] 25
    have hb3 : Below w.heap.size w (w2.alloc (.cells #[.int .u64 wl, .int .i64 ex, .pointer none] 25)) := (H0.out.2.trans (hb2.mono H0.out.2.size)).alloc (Nat.le_trans H0.out.2.size hb2.size) _
    have z0 : (w2.alloc (.cells #[.int .u64 wl, .int .i64 ex, .pointer none] 25)).cell? ⟨w.heap.size, 0, none⟩ = some (.int .u64 0) := hz.cell 0
    have z1 : (w2.alloc (.cells #[.int .u64 wl, .int .i64 ex, .pointer none] 25)).cell? ⟨w.heap.size, 1, none⟩ = some (.int .i64 0) := hz.cell 1
    have z2 : (w2.alloc (.cells #[.int .u64 wl, .int .i64 ex, .pointer none] 25)).cell? ⟨w.heap.size, 2, none⟩ = some (.pointer none) := hz.cell 2
    have HK : Hid (Blk (w2.alloc (.cells #[.int .u64 wl, .int .i64 ex, .pointer none] 25)) w.heap.size [.int .u64 0, .int .i64 0, .pointer none] 25 ∧ Blk (w2.alloc (.cells #[.int .u64 wl, .int .i64 ex, .pointer none] 25)) w2.heap.size [.int .u64 wl, .int .i64 ex, .pointer none] 25 ∧ Below w.heap.size w (w2.alloc (.cells #[.int .u64 wl, .int .i64 ex, .pointer none] 25))) := ⟨hz, hn, hb3⟩
    clear hz hn hb3 hb2 H0 H1
    go_wp2_with fail
    clear z0 z1 z2
    generalize (w2.alloc (.cells #[.int .u64 wl, .int .i64 ex, .pointer none] 25)) = w3 at HK ⊢
    generalize w2.heap.size = wB at HK ⊢
    refine (H2.out w3).mono ?_
    rintro r w4 ⟨rfl, hb4⟩
    go_wp2_with fail
    refine (numDate wl ex true m w4).mono ?_
    rintro r w5 ⟨rfl, hb5⟩
    have HK5 : Hid (Blk w5 w.heap.size [.int .u64 0, .int .i64 0, .pointer none] 25 ∧ Blk w5 wB [.int .u64 wl, .int .i64 ex, .pointer none] 25 ∧ Below w.heap.size w w5) := by
      obtain ⟨k1, k2, k3⟩ := HK.out
      have hb45 := hb4.trans (hb5.mono hb4.size)
      exact ⟨k1.below hb45 k1.lt, k2.below hb45 k2.lt, k3.trans (hb45.mono k3.size)⟩
    clear HK hb4 hb5
    have HZ : Hid (Blk (w5.alloc (.cells #[.string ByteArray.empty, .string ByteArray.empty, .slice none 0 0, .bool false, .int .u64 0, .int .i64 0, .pointer none, .bool false, .bool false, .int .u64 0, .int .i64 0, .pointer none, .bool false, .bool false, .int .u64 0, .int .i64 0, .pointer none, .bool false, .bool false, .string ByteArray.empty] 35)) w5.heap.size zero20 35 ∧ (Try.prog.info? 35).map (·.size) = some (claims20 wl ex true m).length ∧ zero20.length = (claims20 wl ex true m).length ∧ ∀ v ∈ claims20 wl ex true m, v.oneCell' = true) := ⟨Blk.new w5 zero20 35, info35, rfl, one20 wl ex true m⟩
    go_wp2_with (refine wpList_store_put rfl 35 (.tmp 11) (.tmp 36) rfl w5.heap.size 35 zero20 (claims20 wl ex true m) rfl rfl HZ.out.1 HZ.out.2.1 HZ.out.2.2.1 HZ.out.2.2.2 ?_)
    intro w6 HP6
    have HR6 : Hid (w6.rangeAt w5.heap.size 0 (claims20 wl ex true m)) := HP6.out.blk.range
    go_wp2_with (refine wpList_load_mid rfl 35 (.tmp 11) rfl _ _ rfl _ _ HR6.out Try.underlying35 rfl HZ.out.2.1 ?_)
    have HO6 : Hid (Own w wB w5.heap.size wl ex true m w6) := by
      obtain ⟨k1, k2, k3⟩ := HK5.out
      have hp := HP6.out
      have l1 := k1.lt
      have l2 := k2.lt
      exact ⟨(hp.other _ (by omega)).trans (k1.alloc _), (hp.other _ (by omega)).trans (k2.alloc _), hp.blk, (k3.alloc k3.size _).trans ⟨hp.os, hp.tape, hp.output, Nat.le_of_eq hp.size.symm, fun b hb => hp.other b (by have := k3.size; omega)⟩⟩
    clear HK5 HP6 HR6 HZ
    generalize w5.heap.size = cB at HO6 ⊢
    refine (getC wl ex true m w6).mono ?_
    rintro r w7 ⟨v, rfl, hb7, g1, rfl, hg1, hB1⟩
    have HO7 : Hid (Own w wB cB wl ex true m w7) := HO6.out.below hb7
    have HG : Hid (Blk w7 g1 [.int .u64 wl, .int .i64 ex, .pointer none] 42 ∧ w.heap.size < g1 ∧ wB < g1 ∧ cB < g1) := ⟨hB1, Nat.lt_of_lt_of_le HO6.out.z.lt hg1, Nat.lt_of_lt_of_le HO6.out.t.lt hg1, Nat.lt_of_lt_of_le HO6.out.c.lt hg1⟩
    have a0 : w7.cell? ⟨g1, 0, none⟩ = some (.int .u64 wl) := hB1.cell 0
    have a1 : w7.cell? ⟨g1, 1, none⟩ = some (.int .i64 ex) := hB1.cell 1
    have a2 : w7.cell? ⟨g1, 2, none⟩ = some (.pointer none) := hB1.cell 2
    have b0 : w7.cell? ⟨wB, 0, none⟩ = some (.int .u64 wl) := HO7.out.t.cell 0
    have b1 : w7.cell? ⟨wB, 1, none⟩ = some (.int .i64 ex) := HO7.out.t.cell 1
    have b2 : w7.cell? ⟨wB, 2, none⟩ = some (.pointer none) := HO7.out.t.cell 2
    clear HO6 hb7 hg1 hB1
    have heq := eqT wl ex
    have z0 : w7.cell? ⟨w.heap.size, 0, none⟩ = some (.int .u64 0) := HO7.out.z.cell 0
    have z1 : w7.cell? ⟨w.heap.size, 1, none⟩ = some (.int .i64 0) := HO7.out.z.cell 1
    have z2 : w7.cell? ⟨w.heap.size, 2, none⟩ = some (.pointer none) := HO7.out.z.cell 2
    go_wp2_with fail
    go_quiet (fail)
    rename_i nq
    go_wp2_with fail
    refine (H3.out (w7.drewN nq)).mono ?_
    rintro r w8 ⟨rfl, hb8⟩
    have hb78 : Below w7.heap.size w7 w8 := ⟨hb8.os, hb8.tape, hb8.output, hb8.size, hb8.block⟩
    have HO8 : Hid (Own w wB cB wl ex true m w8) := HO7.out.below hb78
    have HG8 : Hid (Blk w8 g1 [.int .u64 wl, .int .i64 ex, .pointer none] 42) := HG.out.1.below hb78 HG.out.1.lt
    clear a0 a1 a2 b0 b1 b2 z0 z1 z2 hb8 hb78 HO7
    have a0 : w8.cell? ⟨g1, 0, none⟩ = some (.int .u64 wl) := HG8.out.cell 0
    have a1 : w8.cell? ⟨g1, 1, none⟩ = some (.int .i64 ex) := HG8.out.cell 1
    have a2 : w8.cell? ⟨g1, 2, none⟩ = some (.pointer none) := HG8.out.cell 2
    have f0 : w8.frozen? ⟨g1, 0, none⟩ = false := HG8.out.frozen 0
    have f1 : w8.frozen? ⟨g1, 1, none⟩ = false := HG8.out.frozen 1
    have f2 : w8.frozen? ⟨g1, 2, none⟩ = false := HG8.out.frozen 2
    have HO9b : Hid (Blk (((w8.setCell ⟨g1, 0, none⟩ (.int .u64 wo)).setCell ⟨g1, 1, none⟩ (.int .i64 eo)).setCell ⟨g1, 2, none⟩ (.pointer none)) g1 [.int .u64 wo, .int .i64 eo, .pointer none] 42) := ((HG8.out.set 0 _).set 1 _).set 2 _
    have HO9 : Hid (Own w wB cB wl ex true m (((w8.setCell ⟨g1, 0, none⟩ (.int .u64 wo)).setCell ⟨g1, 1, none⟩ (.int .i64 eo)).setCell ⟨g1, 2, none⟩ (.pointer none)) ∧ g1 < (((w8.setCell ⟨g1, 0, none⟩ (.int .u64 wo)).setCell ⟨g1, 1, none⟩ (.int .i64 eo)).setCell ⟨g1, 2, none⟩ (.pointer none)).heap.size) := by
      obtain ⟨_, l1, l2, l3⟩ := HG.out
      have h8 := HO8.out
      refine ⟨⟨((h8.z.other _ _ (by simp only [ne_eq]; omega)).other _ _ (by simp only [ne_eq]; omega)).other _ _ (by simp only [ne_eq]; omega), ((h8.t.other _ _ (by simp only [ne_eq]; omega)).other _ _ (by simp only [ne_eq]; omega)).other _ _ (by simp only [ne_eq]; omega), ((h8.c.other _ _ (by simp only [ne_eq]; omega)).other _ _ (by simp only [ne_eq]; omega)).other _ _ (by simp only [ne_eq]; omega), ((h8.bel.setCell (by simp only []; omega) _).setCell (by simp only []; omega) _).setCell (by simp only []; omega) _⟩, ?_⟩
      have := HG8.out.lt
      simp [World.setCell]
      exact this
    have HR9 : Hid ((((w8.setCell ⟨g1, 0, none⟩ (.int .u64 wo)).setCell ⟨g1, 1, none⟩ (.int .i64 eo)).setCell ⟨g1, 2, none⟩ (.pointer none)).rangeAt cB 0 (claims20 wl ex true m) ∧ (Try.prog.info? 35).map (·.size) = some (claims20 wl ex true m).length) := ⟨HO9.out.1.c.range, info35⟩
    go_wp2_with (refine wpList_load_mid rfl 35 (.tmp 11) rfl _ _ rfl _ _ HR9.out.1 Try.underlying35 rfl HR9.out.2 ?_)
    clear a0 a1 a2 f0 f1 f2 HO8 HG8 HR9
    generalize (((w8.setCell ⟨g1, 0, none⟩ (.int .u64 wo)).setCell ⟨g1, 1, none⟩ (.int .i64 eo)).setCell ⟨g1, 2, none⟩ (.pointer none)) = w9 at HO9 HO9b ⊢
    refine (getC wl ex true m w9).mono ?_
    rintro r w10 ⟨v, rfl, hb10, g2, rfl, hg2, hB2⟩
    have HO10 : Hid (Own w wB cB wl ex true m w10) := HO9.out.1.below hb10
    have hgne : g2 ≠ g1 := by have := HO9.out.2; omega
    have a0 : w10.cell? ⟨g2, 0, none⟩ = some (.int .u64 wl) := hB2.cell 0
    have a1 : w10.cell? ⟨g2, 1, none⟩ = some (.int .i64 ex) := hB2.cell 1
    have a2 : w10.cell? ⟨g2, 2, none⟩ = some (.pointer none) := hB2.cell 2
    have b0 : w10.cell? ⟨wB, 0, none⟩ = some (.int .u64 wl) := HO10.out.t.cell 0
    have b1 : w10.cell? ⟨wB, 1, none⟩ = some (.int .i64 ex) := HO10.out.t.cell 1
    have b2 : w10.cell? ⟨wB, 2, none⟩ = some (.pointer none) := HO10.out.t.cell 2
    have c0 : w10.cell? ⟨cB, 14, none⟩ = some (.int .u64 wl) := HO10.out.c.cell 14
    have c1 : w10.cell? ⟨cB, 15, none⟩ = some (.int .i64 ex) := HO10.out.c.cell 15
    have c2 : w10.cell? ⟨cB, 16, none⟩ = some (.pointer none) := HO10.out.c.cell 16
    have c3 : w10.cell? ⟨cB, 17, none⟩ = some (.bool true) := HO10.out.c.cell 17
    have hneq : ∀ nn, (binOp .neq 36 (.pointer (some ⟨g2, 0, none⟩)) (.pointer (some ⟨g1, 0, none⟩))).run Try.prog (w10.drewN nn) = .ok (.bool true) (w10.drewN nn) := fun nn => neq_ptr (w10.drewN nn) g1 g2 [.int .u64 wo, .int .i64 eo, .pointer none] [.int .u64 wl, .int .i64 ex, .pointer none] hgne (show Blk w10 g1 _ 42 from HO9b.out.below hb10 HO9b.out.lt) hB2
    clear hb10 hg2 hB2 HO9 HO9b HG
    go_wp2_with fail
    go_quiet (fail)
    go_wp2
    go_ret
    exact ⟨rfl, HO10.out.bel.os, HO10.out.bel.tape, HO10.out.bel.output, HO10.out.bel.size, HO10.out.bel.block⟩
end Go.Proofs.Qxb6614803a
