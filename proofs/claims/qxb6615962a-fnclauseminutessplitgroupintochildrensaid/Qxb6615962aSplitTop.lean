import Derived.Test.Qxb6615962aAddTop
import Derived.BigQuiet
import Derived.ChangeKeysEq
namespace Go.Proofs.Qxb6615962a
open Go.RowKit Go.Shelf

/-- The list of the second calendar after j rounds: the pair at place p laid in as two. -/
def spl (ps : List (Nat × Gp)) (x y : Nat × Gp) (p j : Nat) : List (Nat × Gp) := if j ≤ p then ps.take j else ps.take p ++ x :: y :: (ps.take j).drop (p + 1)

theorem spl_len (ps : List (Nat × Gp)) (x y : Nat × Gp) (p j : Nat) : (spl ps x y p j).length ≤ ps.length + 2 := by
  unfold spl
  split
  · simp; omega
  · simp; omega

theorem spl_zero (ps : List (Nat × Gp)) (x y : Nat × Gp) (p : Nat) : spl ps x y p 0 = [] := by simp [spl]

theorem spl_next {ps : List (Nat × Gp)} {x y : Nat × Gp} {p j : Nat} {z : Nat × Gp} (h : ps[j]? = some z) (hne : j ≠ p) : spl ps x y p (j + 1) = spl ps x y p j ++ [z] := by
  obtain ⟨hl, _⟩ := List.getElem?_eq_some_iff.1 h
  unfold spl
  by_cases h1 : j < p
  · rw [if_pos (by omega), if_pos (by omega), take_next h]
  · rw [if_neg (by omega), if_neg (by omega), take_next h, List.drop_append_of_le_length (by simp; omega)]
    simp

theorem spl_here {ps : List (Nat × Gp)} {x y : Nat × Gp} {p : Nat} (hp : p < ps.length) : spl ps x y p (p + 1) = (spl ps x y p p ++ [x]) ++ [y] := by
  unfold spl
  rw [if_neg (by omega), if_pos (Nat.le_refl _), List.drop_eq_nil_of_le (by rw [List.length_take]; omega)]
  simp

theorem spl_all (ps : List (Nat × Gp)) (x y : Nat × Gp) (p : Nat) (hp : p < ps.length) : spl ps x y p ps.length = ps.take p ++ x :: y :: ps.drop (p + 1) := by
  unfold spl
  rw [if_neg (by omega), List.take_of_length_le (Nat.le_refl _)]

theorem part_split {ps : List (Nat × Gp)} {p : Nat} {z : Nat × Gp} (h : ps[p]? = some z) : ps.take p ++ z :: ps.drop (p + 1) = ps := by
  obtain ⟨hl, rfl⟩ := List.getElem?_eq_some_iff.1 h
  rw [← List.drop_eq_getElem_cons hl, List.take_append_drop]

theorem info26 : ∃ i, Try.prog.info? 26 = some i := by
  have h : (Try.prog.info? 26).isSome = true := by kernel_rfl
  exact Option.isSome_iff_exists.1 h

theorem cells26' : Try.prog.cellsOf 26 = 1 := by kernel_rfl

/-- An array of 23 words equals itself. -/
theorem eq_self (M : List Int) (h : M.length = 23) (w : World) : (Op.equalIn 10000 32 (.agg (M.map (Value.int .u64)).toArray) (.agg (M.map (Value.int .u64)).toArray)).run Try.prog w = .ok true w := by
  obtain ⟨i, hi⟩ := info26
  rw [show (10000 : Nat) = 9999 + 1 from rfl, run_equalIn_array w 9999 _ _ Try.underlying32 hi, cells26']
  have gen : ∀ is : List Nat, (∀ i ∈ is, i < 23) → (Op.eqItems 9999 26 1 (M.map (Value.int .u64)).toArray (M.map (Value.int .u64)).toArray is).run Try.prog w = .ok true w := by
    intro is
    induction is with
    | nil => intro _; simp [Op.eqItems]
    | cons j is ih =>
      intro hj
      have hjl : j < M.length := by have := hj j (by simp); omega
      have px : (Go.part 26 (M.map (Value.int .u64)).toArray (j * 1)).run Try.prog w = .ok (.int .u64 M[j]) w := by
        simp [Go.part, isAgg, run_underlying Try.underlying26, List.getElem?_eq_getElem hjl]
      have pe : (Op.equalIn 9999 26 (.int .u64 M[j]) (.int .u64 M[j])).run Try.prog w = .ok true w := by
        rw [show (9999 : Nat) = 9998 + 1 from rfl, run_equalIn_int w 9998 26 .u64 .u64 _ _ Try.underlying26]
        simp
      simp only [Op.eqItems, Sem.run_bind, px, pe, Result.andThen_ok, Bool.not_true, Bool.false_eq_true, if_false]
      exact ih fun x hx => hj x (by simp [hx])
  exact gen _ (fun i hi => List.mem_range.1 hi)

set_option maxRecDepth 100000 in
set_option maxHeartbeats 4000000 in
theorem split_top (a : Option Addr) (len cap : Nat) (gs : List Gp) (nEras pos i month length day weekday : Int) (w : World) (hG : IsGroups w a len cap gs) :
    Calls Try.prog 6 #[.int .i64 nEras, .slice a len cap, .int .i64 pos, .int .i64 i, .int .i64 month, .int .i64 length, .int .i64 day, .int .i64 weekday] w fun r w' =>
      r = .returned (.bool true) ∧ Below w.heap.size w w' := by
  have HG : Hid (IsGroups w a len cap gs) := hG
  clear hG
  have hbw : Below w.heap.size w w := Below.refl _ _
  go_enter Try.func6, Try.ntmps6
  go_wp2_with fail
  refine (bytes17_any a len cap nEras pos i month length day weekday w).mono ?_
  rintro r w' ⟨ht, rfl⟩
  obtain ⟨r, rfl, -⟩ := ht
  cases r
  · go_wp2
    go_ret
    exact ⟨rfl, hbw⟩
  by_cases hlen : len < 3542
  case neg =>
    go_wp2
    go_ret
    exact ⟨rfl, hbw⟩
  go_wp2_with fail
  refine (args_any HG.out (by omega) nEras i month length day weekday).mono ?_
  rintro r w' ⟨ht, rfl⟩
  obtain ⟨r, rfl, hA⟩ := ht
  cases r
  · go_wp2
    go_ret
    exact ⟨rfl, hbw⟩
  replace hA := hA rfl
  obtain ⟨n, rfl⟩ : ∃ n : Nat, nEras = n := ⟨nEras.toNat, by have := hA.e1; omega⟩
  obtain ⟨i, rfl⟩ : ∃ k : Nat, i = k := ⟨i.toNat, by have := hA.i1; omega⟩
  obtain ⟨month, rfl⟩ : ∃ k : Nat, month = k := ⟨month.toNat, by have := hA.m1; omega⟩
  obtain ⟨length, rfl⟩ : ∃ k : Nat, length = k := ⟨length.toNat, by have := hA.l1; omega⟩
  obtain ⟨day, rfl⟩ : ∃ k : Nat, day = k := ⟨day.toNat, by have := hA.d1; omega⟩
  obtain ⟨weekday, rfl⟩ : ∃ k : Nat, weekday = k := ⟨weekday.toNat, by have := hA.w1; omega⟩
  have HA : Hid (ArgsOK n gs i month length day weekday) := hA
  have hn1 : 1 ≤ n := by have := hA.e1; omega
  have hn2 : n ≤ 65536 := by have := hA.e2; omega
  clear hA
  by_cases hp : 0 ≤ pos ∧ pos < len
  case neg =>
    by_cases h1 : 0 ≤ pos
    · have h2 : (len : Int) ≤ pos := by omega
      go_wp2
      go_ret
      exact ⟨rfl, hbw⟩
    · go_wp2
      go_ret
      exact ⟨rfl, hbw⟩
  obtain ⟨hp1, hp2⟩ := hp
  obtain ⟨p, rfl⟩ : ∃ p : Nat, pos = p := ⟨pos.toNat, by omega⟩
  obtain ⟨b, off, hab, hbl, hcl0⟩ := HG.out.cells (by omega)
  subst hab
  have hplt : p < len := by omega
  obtain ⟨e, hge⟩ : ∃ g, gs[p]? = some g := ⟨_, List.getElem?_eq_getElem (by rw [HG.out.num]; exact hplt)⟩
  have he := HG.out.ok e (List.mem_of_getElem? hge)
  have hkn := HA.out.nodes p e hge
  obtain ⟨k, hke⟩ : ∃ k : Nat, e.node = k := ⟨e.node.toNat, by omega⟩
  have HK : Hid (e.node = (k : Int)) := hke
  have HS : Hid (Sizes e) := sizes_of he
  have hpe : (pairs gs)[p]? = some (k, e) := by
    unfold pairs
    rw [List.getElem?_map, hge, Option.map_some, hke]
    rfl
  have HPE : Hid ((pairs gs)[p]? = some (k, e)) := hpe
  have HRE : Hid (w.rangeAt b (off + p * 37) e.cells) := by
    intro t v hv
    have ht : t < 37 := by have := (List.getElem?_eq_some_iff.1 hv).1; rw [HS.out.len] at this; exact this
    rw [hcl0 p hplt t ht e hge]
    exact hv
  have HBL : Hid (b < w.heap.size) := hbl
  have hnode : w.cell? ⟨b, off + p * 37, none⟩ = some (.int .i64 k) := by
    rw [← hke]
    exact HRE.out 0 _ rfl
  rw [hke] at hkn
  obtain ⟨hk1, hk2⟩ := hkn
  clear hcl0 hke hpe hge hbl
  by_cases hkl : k < n
  case neg =>
    have hkl2 : (n : Int) ≤ k := by omega
    go_wp2
    go_ret
    exact ⟨rfl, hbw⟩
  have hkl2 : (k : Int) < n := by omega
  go_wp2_with fail
  refine (new_any n w hn2).mono ?_
  rintro r w3 ⟨c1, rfl, hC1, hch1⟩
  have HC1 : Hid (CalAt (fun b => w.heap.size ≤ b ∧ b < w3.heap.size) w3 c1 n [] ∧ Chg (fun _ => False) w w3) := ⟨hC1, hch1⟩
  clear hC1 hch1 hnode hbw
  go_wp2_with fail
  refine (new_any n w3 hn2).mono ?_
  rintro r w4 ⟨c2, rfl, hC2, hch2⟩
  have H4 : Hid (Two (fun b => b < w.heap.size) c1 c2 n [] [] w4 ∧ Chg (fun b => ¬ b < w.heap.size) w w4) := Two.start HC1.out.1 HC1.out.2 hC2 hch2
  clear HC1 hC2 hch2
  have hplen : (pairs gs).length = len := by unfold pairs; rw [List.length_map, HG.out.num]
  have HPL : Hid ((pairs gs).length = len) := hplen
  clear hplen
  go_wp2_with fail
  go_loopw [20] (fun t wr => ∃ j : Nat, t = .int .i64 j ∧ j ≤ len ∧ Two (fun b => b < w.heap.size) c1 c2 n ((pairs gs).take j) (spl (pairs gs) (2 * k, e) (2 * k + 1, e) p j) wr ∧ Chg (fun b => ¬ b < w.heap.size) w wr)
    (fun t _ => len - (intOf t).toNat)
  case atStart => exact ⟨0, rfl, Nat.zero_le _, by rw [spl_zero]; exact H4.out.1, H4.out.2⟩
  case round =>
    obtain ⟨j, rfl, hj, hT, hch⟩ := hrel
    clear H4
    by_cases hlt : j < len
    case neg =>
      obtain rfl : j = len := by omega
      have hT1 : Two (fun b => b < w.heap.size) c1 c2 n (pairs gs) ((pairs gs).take p ++ (2 * k, e) :: (2 * k + 1, e) :: (pairs gs).drop (p + 1)) wr := by
        have h1 := HPL.out
        rw [← h1, spl_all _ _ _ _ (by omega), List.take_of_length_le (Nat.le_refl _)] at hT
        exact hT
      have hok1 : ∀ y ∈ pairs gs, y.2.ok := by
        intro y hy
        obtain ⟨g, hg, rfl⟩ := List.mem_map.1 hy
        exact HG.out.ok g hg
      have hok2 : ∀ y ∈ (pairs gs).take p ++ (2 * k, e) :: (2 * k + 1, e) :: (pairs gs).drop (p + 1), y.2.ok := by
        intro y hy
        rcases List.mem_append.1 hy with h | h
        · exact hok1 y (List.mem_of_mem_take h)
        rcases List.mem_cons.1 h with rfl | h
        · exact he
        rcases List.mem_cons.1 h with rfl | h
        · exact he
        · exact hok1 y (List.mem_of_mem_drop h)
      have hll2 : ((pairs gs).take p ++ (2 * k, e) :: (2 * k + 1, e) :: (pairs gs).drop (p + 1)).length = j + 1 := by
        have h1 := HPL.out
        simp only [List.length_append, List.length_cons, List.length_take, List.length_drop]
        omega
      have HLAW : Hid (minutes ((pairs gs).take p ++ (2 * k, e) :: (2 * k + 1, e) :: (pairs gs).drop (p + 1)) (n + i) month length day weekday = minutes (pairs gs) (n + i) month length day weekday) := by
        have h1 := mword_of (pairs gs) (n + i) month length day weekday hok1
        have h2 := mword_of _ (n + i) month length day weekday hok2
        have l1 := minutes_len (pairs gs) (n + i) month length day weekday hok1
        have l2 := minutes_len _ (n + i) month length day weekday hok2
        show _ = _
        apply List.ext_getElem?
        intro y
        by_cases hy : y < 23
        · rw [h1.2 y hy, h2.2 y hy]
          have h := split_one ((pairs gs).take p) ((pairs gs).drop (p + 1)) k e (by omega) (n + i) month length day weekday y (by omega)
          rw [part_split HPE.out] at h
          rw [h]
        · rw [List.getElem?_eq_none (by omega), List.getElem?_eq_none (by omega)]
      have HHELD : Hid ((over k (n + i) && fits e.months e.wd month length day weekday) = true → ∀ y, mword (pairs gs) (n + i) month length day weekday y &&& (e.mins.getD y 0).toNat = (e.mins.getD y 0).toNat) := by
        intro ho y
        have h := held_in ((pairs gs).take p) ((pairs gs).drop (p + 1)) k e (by omega) (n + i) month length day weekday y ho
        rw [part_split HPE.out] at h
        exact h
      obtain ⟨L2, hL2⟩ : ∃ L2, (pairs gs).take p ++ (2 * k, e) :: (2 * k + 1, e) :: (pairs gs).drop (p + 1) = L2 := ⟨_, rfl⟩
      rw [hL2] at hT1 hok2 hll2 HLAW
      have HL2 : Hid ((∀ y ∈ L2, y.2.ok) ∧ L2.length ≤ 10000) := ⟨hok2, by omega⟩
      have HL1 : Hid ((∀ y ∈ pairs gs, y.2.ok) ∧ (pairs gs).length ≤ 10000) := ⟨hok1, by have := HPL.out; omega⟩
      have HT1 : Hid (Two (fun b => b < w.heap.size) c1 c2 n (pairs gs) L2 wr) := hT1
      have HAR : Hid (i < n ∧ 1 ≤ month ∧ month ≤ 12 ∧ length ≤ 31 ∧ 1 ≤ day ∧ day ≤ 31 ∧ 28 ≤ length ∧ day ≤ length ∧ weekday ≤ 6) := by
        have h := HA.out
        have h1 := h.i2; have h2 := h.m1; have h3 := h.m2; have h4 := h.l1; have h5 := h.l2; have h6 := h.d1; have h7 := h.d2; have h8 := h.w2
        refine ⟨?_, ?_, ?_, ?_, ?_, ?_, ?_, ?_, ?_⟩ <;> omega
      have HBW : Hid (Below w.heap.size w wr) := hch.below (Nat.le_refl _) (fun b h => Nat.le_of_not_lt h)
      clear hT hch hT1 hok1 hok2 hll2 hL2 HPL HG HA HPE
      go_wp2_with fail
      refine (HT1.out.minutes1 HL1.out.1 i month length day weekday HAR.out.1 hn2 HL1.out.2 HAR.out.2.1 HAR.out.2.2.1 HAR.out.2.2.2.1 HAR.out.2.2.2.2.1 HAR.out.2.2.2.2.2.1).mono ?_
      rintro r w5 ⟨rfl, hb5⟩
      have HM1 : Hid ((minutes (pairs gs) (n + i) month length day weekday).length = 23 ∧ (∀ j, j < 23 → (minutes (pairs gs) (n + i) month length day weekday)[j]? = some (mword (pairs gs) (n + i) month length day weekday j : Int)) ∧ ∀ y, mword (pairs gs) (n + i) month length day weekday y < 18446744073709551616) := ⟨minutes_len _ _ _ _ _ _ HL1.out.1, (mword_of _ _ _ _ _ _ HL1.out.1).2, (mword_of _ _ _ _ _ _ HL1.out.1).1⟩
      generalize minutes (pairs gs) (n + i) month length day weekday = M1 at HM1 HLAW ⊢
      have HB5 : Hid (Below wr.heap.size wr w5) := hb5
      have HI1 : Hid ((Try.prog.info? 32).map (·.size) = some (M1.map (Value.int .u64)).length ∧ zeros.length = (M1.map (Value.int .u64)).length ∧ ∀ v ∈ M1.map (Value.int .u64), v.oneCell' = true) := ⟨by rw [List.length_map, HM1.out.1]; exact info32, by rw [List.length_map, HM1.out.1]; rfl, one_of_ints M1⟩
      have HZ5 : Hid (Blk (w5.alloc (.cells #[.int .u64 0, .int .u64 0, .int .u64 0, .int .u64 0, .int .u64 0, .int .u64 0, .int .u64 0, .int .u64 0, .int .u64 0, .int .u64 0, .int .u64 0, .int .u64 0, .int .u64 0, .int .u64 0, .int .u64 0, .int .u64 0, .int .u64 0, .int .u64 0, .int .u64 0, .int .u64 0, .int .u64 0, .int .u64 0, .int .u64 0] 32)) w5.heap.size zeros 32) := Blk.new w5 zeros 32
      clear hb5
      go_wp2_with (refine wpList_store_put rfl 32 (.tmp 22) (.tmp 128) rfl w5.heap.size 32 zeros (M1.map (Value.int .u64)) rfl rfl HZ5.out HI1.out.1 HI1.out.2.1 HI1.out.2.2 ?_)
      intro w6 HP6
      have HB6 : Hid (Below wr.heap.size wr w6 ∧ Blk w6 w5.heap.size (M1.map (Value.int .u64)) 32 ∧ wr.heap.size ≤ w5.heap.size) := by
        have hp := HP6.out
        have h5 := HB5.out.size
        refine ⟨HB5.out.trans ⟨hp.os, hp.tape, hp.output, by rw [hp.size]; simp, fun b hb => (hp.other b (by omega)).trans (Below.heap_alloc _ _ _ (by omega))⟩, hp.blk, h5⟩
      have HT6 : Hid (Two (fun b => b < w.heap.size) c1 c2 n (pairs gs) L2 w6) := HT1.out.grow HB6.out.1 (fun b hb => .inl hb)
      clear HP6 HZ5 HB5 HT1
      go_wp2_with fail
      have HMM := HT6.out.swap.minutes1 HL2.out.1 i month length day weekday HAR.out.1 hn2 HL2.out.2 HAR.out.2.1 HAR.out.2.2.1 HAR.out.2.2.2.1 HAR.out.2.2.2.2.1 HAR.out.2.2.2.2.2.1
      rw [HLAW.out] at HMM
      refine HMM.mono ?_
      clear HMM
      rintro r w7 ⟨rfl, hb7⟩
      have HB7 : Hid (Below w6.heap.size w6 w7) := hb7
      have HZ7 : Hid (Blk (w7.alloc (.cells #[.int .u64 0, .int .u64 0, .int .u64 0, .int .u64 0, .int .u64 0, .int .u64 0, .int .u64 0, .int .u64 0, .int .u64 0, .int .u64 0, .int .u64 0, .int .u64 0, .int .u64 0, .int .u64 0, .int .u64 0, .int .u64 0, .int .u64 0, .int .u64 0, .int .u64 0, .int .u64 0, .int .u64 0, .int .u64 0, .int .u64 0] 32)) w7.heap.size zeros 32) := Blk.new w7 zeros 32
      clear hb7
      go_wp2_with (refine wpList_store_put rfl 32 (.tmp 23) (.tmp 135) rfl w7.heap.size 32 zeros (M1.map (Value.int .u64)) rfl rfl HZ7.out HI1.out.1 HI1.out.2.1 HI1.out.2.2 ?_)
      intro w8 HP8
      have HB8 : Hid (Below w6.heap.size w6 w8 ∧ Blk w8 w7.heap.size (M1.map (Value.int .u64)) 32 ∧ w6.heap.size ≤ w7.heap.size) := by
        have hp := HP8.out
        have h7 := HB7.out.size
        refine ⟨HB7.out.trans ⟨hp.os, hp.tape, hp.output, by rw [hp.size]; simp, fun b hb => (hp.other b (by omega)).trans (Below.heap_alloc _ _ _ (by omega))⟩, hp.blk, h7⟩
      have HE8 : Hid (w8.rangeAt b (off + p * 37) e.cells ∧ Blk w8 w5.heap.size (M1.map (Value.int .u64)) 32 ∧ Below w.heap.size w w8) := by
        have hlt := HB6.out.2.1.lt
        have hs6 := HB6.out.1.size
        have hsr := HBW.out.size
        have hbel : Below w.heap.size w w8 := (HBW.out.trans (HB6.out.1.mono (by omega))).trans (HB8.out.1.mono (by omega))
        refine ⟨fun j v hv => (hbel.cell (p := ⟨b, off + p * 37 + j, none⟩) HBL.out).trans (HRE.out j v hv), HB6.out.2.1.below HB8.out.1 hlt, hbel⟩
      have HR8 : Hid (w8.rangeAt w5.heap.size 0 (M1.map (Value.int .u64)) ∧ w8.rangeAt w7.heap.size 0 (M1.map (Value.int .u64))) := ⟨HE8.out.2.1.range, HB8.out.2.1.range⟩
      have heqM := eq_self M1 HM1.out.1
      clear HP8 HZ7 HB7 HT6
      have HGH := groupHolds_any e.cells k e.months e.wd e.mins (n + i) month length day weekday w8 (by have h := he; unfold Gp.ok at h; rw [HK.out] at h; exact h) (by omega) (by omega) (by have := HAR.out.1; omega) HAR.out.2.1 HAR.out.2.2.1 HAR.out.2.2.2.2.2.2.1 HAR.out.2.2.2.1 HAR.out.2.2.2.2.1 HAR.out.2.2.2.2.2.2.2.1 HAR.out.2.2.2.2.2.2.2.2
      rw [Int.natCast_add] at HGH
      obtain ⟨hd, hhd⟩ : ∃ hd, (over k (n + i) && fits e.months e.wd month length day weekday) = hd := ⟨_, rfl⟩
      rw [hhd] at HGH HHELD
      have HGH' : Hid (Calls Try.prog 16 _ _ _) := HGH
      clear HGH hhd
      have hin' := HAR.out.1
      have hin2 : (n : Int) + (i : Int) ≤ 200000 := by omega
      go_wp2_with (first | (refine wpList_load_mid rfl 32 (.tmp 22) rfl _ _ rfl _ _ HR8.out.1 Try.underlying32 rfl HI1.out.1 ?_) | (refine wpList_load_mid rfl 32 (.tmp 23) rfl _ _ rfl _ _ HR8.out.2 Try.underlying32 rfl HI1.out.1 ?_) | (refine wpList_load_mid rfl 34 (.tmp 141) rfl _ _ rfl _ _ HE8.out.1 Try.underlying34 rfl HS.out.s34 ?_))
      refine HGH'.out.mono ?_
      rintro r w9 ⟨rfl, hb9⟩
      have HEND : Hid (Below w.heap.size w w9 ∧ w.heap.size ≤ w9.heap.size) := ⟨HE8.out.2.2.trans (hb9.mono HE8.out.2.2.size), Nat.le_trans HE8.out.2.2.size hb9.size⟩
      cases hd
      · go_wp2
        go_ret
        exact ⟨rfl, HEND.out.1⟩
      have HMS : Hid (w9.rangeAt b (off + p * 37 + 14) (e.mins.map (Value.int .u64))) := by
        intro t v hv
        have ht : t < 23 := by have := (List.getElem?_eq_some_iff.1 hv).1; rw [List.length_map, he.hs] at this; exact this
        rw [HEND.out.1.cell (p := ⟨b, off + p * 37 + 14 + t, none⟩) HBL.out, Nat.add_assoc]
        refine HRE.out (14 + t) v ?_
        rw [he.atMin t ht, ← hv, List.getElem?_map, List.getElem?_eq_getElem (by rw [he.hs]; exact ht)]
        simp [List.getElem?_eq_getElem (show t < e.mins.length by rw [he.hs]; exact ht)]
      have HZ9 : Hid (Blk (w9.alloc (.cells #[.int .u64 0, .int .u64 0, .int .u64 0, .int .u64 0, .int .u64 0, .int .u64 0, .int .u64 0, .int .u64 0, .int .u64 0, .int .u64 0, .int .u64 0, .int .u64 0, .int .u64 0, .int .u64 0, .int .u64 0, .int .u64 0, .int .u64 0, .int .u64 0, .int .u64 0, .int .u64 0, .int .u64 0, .int .u64 0, .int .u64 0] 32)) w9.heap.size zeros 32) := Blk.new w9 zeros 32
      have HI9 : Hid (zeros.length = (e.mins.map (Value.int .u64)).length ∧ ∀ v ∈ e.mins.map (Value.int .u64), v.oneCell' = true) := ⟨by rw [List.length_map, he.hs]; rfl, one_of_ints e.mins⟩
      have HK9 : Hid (Blk w9 w5.heap.size (M1.map (Value.int .u64)) 32) := HE8.out.2.1.below hb9 HE8.out.2.1.lt
      clear hb9 HGH' HR8 HE8 HB8 HB6 HL1 HL2 HBW
      go_wp2_with (first | (refine wpList_load_mid rfl 32 (.tmp 154) rfl _ _ rfl _ _ HMS.out Try.underlying32 rfl HS.out.s32 ?_) | (refine wpList_store_put rfl 32 (.tmp 24) (.tmp 155) rfl w9.heap.size 32 zeros (e.mins.map (Value.int .u64)) rfl rfl HZ9.out HS.out.s32 HI9.out.1 HI9.out.2 ?_))
      intro w10 HP10
      have HF : Hid (∀ y, y < 23 → w10.cell? ⟨w5.heap.size, y, none⟩ = some (.int .u64 (mword (pairs gs) (n + i) month length day weekday y : Int)) ∧ w10.cell? ⟨w9.heap.size, y, none⟩ = some (.int .u64 (e.mins.getD y 0))) := by
        intro y hy
        have hp := HP10.out
        have k1 : Blk w10 w5.heap.size (M1.map (Value.int .u64)) 32 := (hp.other _ (by have := HK9.out.lt; omega)).trans (HK9.out.alloc _)
        refine ⟨?_, ?_⟩
        · rw [k1.cell, List.getElem?_map, HM1.out.2.1 y hy]; rfl
        · rw [hp.blk.cell, List.getElem?_map, List.getElem?_eq_getElem (by rw [he.hs]; exact hy), Option.map_some]
          simp [List.getElem?_eq_getElem (show y < e.mins.length by rw [he.hs]; exact hy)]
      have HE10 : Hid (Below w.heap.size w w10) := by
        have hp := HP10.out
        exact HEND.out.1.trans ⟨hp.os, hp.tape, hp.output, by rw [hp.size]; simp, fun b hb => (hp.other b (by have := HEND.out.2; omega)).trans (Below.heap_alloc _ _ _ (by have := HEND.out.2; omega))⟩
      clear HP10 HZ9 HI9 HK9 HMS HEND
      go_wp2_with fail
      go_loopw [25] (fun t wq => ∃ y : Nat, t = .int .i64 y ∧ y ≤ 23 ∧ wq.heap = w10.heap ∧ Below w.heap.size w wq) (fun t _ => 23 - (intOf t).toNat)
      case atStart => exact ⟨0, rfl, Nat.zero_le _, rfl, HE10.out⟩
      case round =>
        obtain ⟨y, rfl, hy, hhp, hbq⟩ := hrel
        have HBQ : Hid (Below w.heap.size w wr ∧ wr.heap = w10.heap) := ⟨hbq, hhp⟩
        by_cases hlt : y < 23
        · obtain ⟨q1, q2⟩ := HF.out y hlt
          have q1' : wr.cell? ⟨w5.heap.size, y, none⟩ = some (.int .u64 (mword (pairs gs) (n + i) month length day weekday y : Int)) := by
            rw [← q1]; simp only [World.cell?, hhp]
          have q2' : wr.cell? ⟨w9.heap.size, y, none⟩ = some (.int .u64 (e.mins.getD y 0)) := by
            rw [← q2]; simp only [World.cell?, hhp]
          have hl := HHELD.out (by trivial) y
          have hlt1 := HM1.out.2.2 y
          have hlt2 := min_lt he y
          have hmb := min_back he y
          obtain ⟨me, hme⟩ : ∃ me, (e.mins.getD y 0).toNat = me := ⟨_, rfl⟩
          rw [hme] at hl hlt2 hmb
          rw [← hmb] at q2'
          obtain ⟨m1, hm1⟩ : ∃ m1, mword (pairs gs) (n + i) month length day weekday y = m1 := ⟨_, rfl⟩
          rw [hm1] at hl hlt1 q1'
          have hand : bits .and .u64 (m1 : Int) (me : Int) = (me : Int) := by
            rw [u64_and _ _ (by omega) (by omega) (by omega) (by omega)]
            simp only [Int.toNat_natCast]
            rw [hl]
          clear q1 q2 hm1 hme hmb hl hhp hbq
          have hyi : (y : Int) < 23 := by omega
          go_wp2_with fail
          go_quiet (fail)
          go_wp2
          go_roundw
          case rel => exact ⟨y + 1, by go_num, by omega, HBQ.out.2, ⟨HBQ.out.1.os, HBQ.out.1.tape, HBQ.out.1.output, HBQ.out.1.size, HBQ.out.1.block⟩⟩
          case measure => simp [intOf]; omega
        · obtain rfl : y = 23 := by omega
          go_wp2
          go_ret
          exact ⟨rfl, hbq⟩
    have HC : Hid (Chg (fun b => ¬ b < w.heap.size) w wr) := hch
    have HT : Hid (Two (fun b => b < w.heap.size) c1 c2 n ((pairs gs).take j) (spl (pairs gs) (2 * k, e) (2 * k + 1, e) p j) wr) := hT
    have HZR : Hid (w.heap.size ≤ wr.heap.size) := hch.size
    clear hch hT
    have HXL : Hid ((spl (pairs gs) (2 * k, e) (2 * k + 1, e) p j).length ≤ 9000) := by
      have := spl_len (pairs gs) (2 * k, e) (2 * k + 1, e) p j
      have := HPL.out
      show _ ≤ _
      omega
    obtain ⟨g, hg⟩ : ∃ g, gs[j]? = some g := ⟨_, List.getElem?_eq_getElem (by rw [HG.out.num]; exact hlt)⟩
    have hgok := HG.out.ok g (List.mem_of_getElem? hg)
    have hgn := HA.out.nodes j g hg
    obtain ⟨kg, hkg⟩ : ∃ kg : Nat, g.node = kg := ⟨g.node.toNat, by omega⟩
    have HKG : Hid (g.node = (kg : Int)) := hkg
    have HSg : Hid (Sizes g) := sizes_of hgok
    have hpj : (pairs gs)[j]? = some (kg, g) := by
      unfold pairs
      rw [List.getElem?_map, hg, Option.map_some, hkg]
      rfl
    rw [hkg] at hgn
    obtain ⟨hgn1, hgn2⟩ := hgn
    clear hkg
    have HGa : Hid (IsGroups wr (some ⟨b, off, none⟩) len cap gs) := HG.out.below (HC.out.below (B := w.heap.size) (Nat.le_refl _) (fun b h => Nat.le_of_not_lt h)) (Nat.le_refl _)
    obtain ⟨b', off', hab, _, hcl⟩ := HGa.out.cells (by omega)
    cases hab
    have HRG : Hid (wr.rangeAt b (off + j * 37) g.cells) := by
      intro t v hv
      have ht : t < 37 := by have := (List.getElem?_eq_some_iff.1 hv).1; rw [HSg.out.len] at this; exact this
      rw [hcl j (by omega) t ht g hg]
      exact hv
    clear hcl HGa
    have HPJ : Hid ((pairs gs)[j]? = some (kg, g)) := hpj
    clear hpj hg
    have HZ : Hid (Blk (wr.alloc (.cells #[.int .i64 0, .int .u64 0, .int .u64 0, .int .u64 0, .int .u64 0, .int .u64 0, .int .u64 0, .int .u64 0, .int .u64 0, .int .u64 0, .int .u64 0, .int .u64 0, .int .u64 0, .int .u64 0, .int .u64 0, .int .u64 0, .int .u64 0, .int .u64 0, .int .u64 0, .int .u64 0, .int .u64 0, .int .u64 0, .int .u64 0, .int .u64 0, .int .u64 0, .int .u64 0, .int .u64 0, .int .u64 0, .int .u64 0, .int .u64 0, .int .u64 0, .int .u64 0, .int .u64 0, .int .u64 0, .int .u64 0, .int .u64 0, .int .u64 0] 34)) wr.heap.size zero34 34) := Blk.new wr zero34 34
    have HZL : Hid (zero34.length = g.cells.length) := by
      show zero34.length = g.cells.length
      rw [HSg.out.len]; rfl
    go_wp2_with (first | (refine wpList_load_mid rfl 34 (.tmp 76) rfl _ _ rfl _ _ HRG.out Try.underlying34 rfl HSg.out.s34 ?_) | (refine wpList_store_put rfl 34 (.tmp 21) (.tmp 77) rfl wr.heap.size 34 zero34 g.cells rfl rfl HZ.out HSg.out.s34 HZL.out HSg.out.one ?_))
    intro w5 HP
    have HP5 : Hid (Below wr.heap.size wr w5 ∧ Blk w5 wr.heap.size g.cells 34 ∧ w5.heap.size = wr.heap.size + 1) := by
      have hp := HP.out
      refine ⟨⟨hp.os, hp.tape, hp.output, by rw [hp.size]; simp, fun b hb => (hp.other b (by omega)).trans (Below.heap_alloc _ _ _ hb)⟩, hp.blk, by rw [hp.size]; simp⟩
    clear HP HZ HZL HRG
    have HT5 : Hid (Two (fun b => b < w.heap.size ∨ b = wr.heap.size) c1 c2 n ((pairs gs).take j) (spl (pairs gs) (2 * k, e) (2 * k + 1, e) p j) w5) := HT.out.grow HP5.out.1 (fun b hb => hb.elim .inl (fun e => .inr (by omega)))
    have hrd := reads_of HP5.out.2.1 hgok
    have rn5 : w5.cell? ⟨wr.heap.size, 0, none⟩ = some (.int .i64 kg) := by rw [← HKG.out]; exact hrd.node
    have rd5 := hrd.wd
    have HM5 : Hid (w5.rangeAt wr.heap.size 1 (g.months.map (Value.int .u64)) ∧ w5.rangeAt wr.heap.size 14 (g.mins.map (Value.int .u64))) := ⟨hrd.months, hrd.mins⟩
    clear hrd
    go_wp2_with (first | (refine wpList_load_mid rfl 31 (.tmp 81) rfl _ _ rfl _ _ HM5.out.1 Try.underlying31 rfl HSg.out.s31 ?_) | (refine wpList_load_mid rfl 32 (.tmp 85) rfl _ _ rfl _ _ HM5.out.2 Try.underlying32 rfl HSg.out.s32 ?_))
    refine (HT5.out.add1 (by have := HP5.out.2.2; have := HZR.out; intro b hb; omega) kg g (by omega) hgok hn2 (by have := HPL.out; rw [List.length_take]; omega)).mono ?_
    rintro r w6 ⟨rfl, hT6, hc6⟩
    have HT6 : Hid (Two (fun b => b < w.heap.size ∨ b = wr.heap.size) c1 c2 n ((pairs gs).take j ++ [(kg, g)]) (spl (pairs gs) (2 * k, e) (2 * k + 1, e) p j) w6) := hT6
    have HC6 : Hid (Chg (fun b => ¬ (b < w.heap.size ∨ b = wr.heap.size)) w5 w6) := hc6
    have HB6 : Hid (Blk w6 wr.heap.size g.cells 34) := HP5.out.2.1.chg hc6 (fun h => h (.inr rfl))
    have hrd := reads_of HB6.out hgok
    have rn6 : w6.cell? ⟨wr.heap.size, 0, none⟩ = some (.int .i64 kg) := by rw [← HKG.out]; exact hrd.node
    have rd6 := hrd.wd
    have HM6 : Hid (w6.rangeAt wr.heap.size 1 (g.months.map (Value.int .u64)) ∧ w6.rangeAt wr.heap.size 14 (g.mins.map (Value.int .u64))) := ⟨hrd.months, hrd.mins⟩
    clear hrd hT6 hc6 rn5 rd5 HM5
    by_cases hjp : j = p
    · subst hjp
      obtain ⟨rfl, rfl⟩ : k = kg ∧ e = g := by
        have h1 := HPE.out
        rw [HPJ.out, Option.some.injEq, Prod.mk.injEq] at h1
        exact ⟨h1.1.symm, h1.2.symm⟩
      have HA2 := HT6.out.add2 (by have := HP5.out.2.2; have := HC6.out.size; have := HZR.out; intro b hb; omega) (2 * k) e (by omega) hgok hn2 (by have := HXL.out; omega)
      rw [show ((2 * k : Nat) : Int) = 2 * (k : Int) by omega] at HA2
      have HA2' : Hid (Calls Try.prog 14 _ _ _) := HA2
      clear HA2
      go_wp2_with (first | (refine wpList_load_mid rfl 31 (.tmp 94) rfl _ _ rfl _ _ HM6.out.1 Try.underlying31 rfl HSg.out.s31 ?_) | (refine wpList_load_mid rfl 32 (.tmp 98) rfl _ _ rfl _ _ HM6.out.2 Try.underlying32 rfl HSg.out.s32 ?_))
      refine HA2'.out.mono ?_
      rintro r w7 ⟨rfl, hT7, hc7⟩
      have HT7 : Hid (Two (fun b => b < w.heap.size ∨ b = wr.heap.size) c1 c2 n ((pairs gs).take j ++ [(k, e)]) (spl (pairs gs) (2 * k, e) (2 * k + 1, e) j j ++ [(2 * k, e)]) w7) := hT7
      have HC7 : Hid (Chg (fun b => ¬ (b < w.heap.size ∨ b = wr.heap.size)) w6 w7) := hc7
      have HB7 : Hid (Blk w7 wr.heap.size e.cells 34) := HB6.out.chg hc7 (fun h => h (.inr rfl))
      have hrd := reads_of HB7.out hgok
      have rd7 := hrd.wd
      have HM7 : Hid (w7.rangeAt wr.heap.size 1 (e.months.map (Value.int .u64)) ∧ w7.rangeAt wr.heap.size 14 (e.mins.map (Value.int .u64))) := ⟨hrd.months, hrd.mins⟩
      clear hrd hT7 hc7 rn6 rd6 HM6 HA2'
      have HA3 := HT7.out.add2 (by have := HP5.out.2.2; have := HC6.out.size; have := HC7.out.size; have := HZR.out; intro b hb; omega) (2 * k + 1) e (by omega) hgok hn2 (by have := HXL.out; rw [List.length_append, List.length_singleton]; omega)
      rw [show ((2 * k + 1 : Nat) : Int) = 2 * (k : Int) + 1 by omega] at HA3
      have HA3' : Hid (Calls Try.prog 14 _ _ _) := HA3
      clear HA3
      go_wp2_with (first | (refine wpList_load_mid rfl 31 (.tmp 105) rfl _ _ rfl _ _ HM7.out.1 Try.underlying31 rfl HSg.out.s31 ?_) | (refine wpList_load_mid rfl 32 (.tmp 109) rfl _ _ rfl _ _ HM7.out.2 Try.underlying32 rfl HSg.out.s32 ?_))
      refine HA3'.out.mono ?_
      rintro r w8 ⟨rfl, hT8, hc8⟩
      have HT8 : Hid (Two (fun b => b < w.heap.size) c1 c2 n ((pairs gs).take (j + 1)) (spl (pairs gs) (2 * k, e) (2 * k + 1, e) j (j + 1)) w8) := by
        show Two _ _ _ _ _ _ _
        rw [take_next HPJ.out, spl_here (by have := HPL.out; omega)]
        exact hT8.grow (Below.refl _ _) (fun b hb => .inl (.inl hb))
      have HC8 : Hid (Chg (fun b => ¬ b < w.heap.size) w w8) := by
        refine (((HC.out.trans (Chg.of_below HP5.out.1 (M := fun b => ¬ b < w.heap.size) (fun b h1 h2 => by have := HZR.out; omega)) (fun _ _ h => h)).trans HC6.out (fun x hx h h' => h (.inl h'))).trans HC7.out (fun x hx h h' => h (.inl h'))).trans hc8 (fun x hx h h' => h (.inl h'))
      clear hT8 hc8 HT7 HC7 HT6 HC6 HT5 HP5 rd7 HM7 HA3'
      go_wp2
      go_roundw
      case rel => exact ⟨j + 1, by go_num, by omega, HT8.out, HC8.out⟩
      case measure => simp [intOf]; omega
    · go_wp2_with (first | (refine wpList_load_mid rfl 31 (.tmp 115) rfl _ _ rfl _ _ HM6.out.1 Try.underlying31 rfl HSg.out.s31 ?_) | (refine wpList_load_mid rfl 32 (.tmp 119) rfl _ _ rfl _ _ HM6.out.2 Try.underlying32 rfl HSg.out.s32 ?_))
      refine (HT6.out.add2 (by have := HP5.out.2.2; have := HC6.out.size; have := HZR.out; intro b hb; omega) kg g (by omega) hgok hn2 (by have := HXL.out; omega)).mono ?_
      rintro r w7 ⟨rfl, hT7, hc7⟩
      have HT7 : Hid (Two (fun b => b < w.heap.size) c1 c2 n ((pairs gs).take (j + 1)) (spl (pairs gs) (2 * k, e) (2 * k + 1, e) p (j + 1)) w7) := by
        show Two _ _ _ _ _ _ _
        rw [take_next HPJ.out, spl_next HPJ.out hjp]
        exact hT7.grow (Below.refl _ _) (fun b hb => .inl (.inl hb))
      have HC7 : Hid (Chg (fun b => ¬ b < w.heap.size) w w7) := by
        refine ((HC.out.trans (Chg.of_below HP5.out.1 (M := fun b => ¬ b < w.heap.size) (fun b h1 h2 => by have := HZR.out; omega)) (fun _ _ h => h)).trans HC6.out (fun x hx h h' => h (.inl h'))).trans hc7 (fun x hx h h' => h (.inl h'))
      clear hT7 hc7 HT6 HC6 HT5 HP5 rn6 rd6 HM6
      go_wp2
      go_roundw
      case rel => exact ⟨j + 1, by go_num, by omega, HT7.out, HC7.out⟩
      case measure => simp [intOf]; omega
end Go.Proofs.Qxb6615962a
