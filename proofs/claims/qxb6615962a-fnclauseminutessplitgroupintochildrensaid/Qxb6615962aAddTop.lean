import Derived.Test.Qxb6615962aTwo
namespace Go.Proofs.Qxb6615962a
open Go.RowKit Go.Shelf

theorem IsGroups.below {w w' : World} {B : Nat} {a : Option Addr} {len cap : Nat} {gs : List Gp} (h : IsGroups w a len cap gs) (hb : Below B w w') (hB : w.heap.size ≤ B) : IsGroups w' a len cap gs :=
  ⟨h.num, h.ok, h.node, fun h0 => let ⟨b, off, ha, hl, hc⟩ := h.cells h0; ⟨b, off, ha, Nat.lt_of_lt_of_le hl hb.size, fun j hj i hi g hg => (hb.cell (p := ⟨b, off + j * 37 + i, none⟩) (Nat.lt_of_lt_of_le hl hB)).trans (hc j hj i hi g hg)⟩⟩

def zero34 : List Value := [.int .i64 0, .int .u64 0, .int .u64 0, .int .u64 0, .int .u64 0, .int .u64 0, .int .u64 0, .int .u64 0, .int .u64 0, .int .u64 0, .int .u64 0, .int .u64 0, .int .u64 0, .int .u64 0, .int .u64 0, .int .u64 0, .int .u64 0, .int .u64 0, .int .u64 0, .int .u64 0, .int .u64 0, .int .u64 0, .int .u64 0, .int .u64 0, .int .u64 0, .int .u64 0, .int .u64 0, .int .u64 0, .int .u64 0, .int .u64 0, .int .u64 0, .int .u64 0, .int .u64 0, .int .u64 0, .int .u64 0, .int .u64 0, .int .u64 0]

/-- The list of the second calendar after j rounds: the pair x laid in at place p. -/
def ins (ps : List (Nat × Gp)) (x : Nat × Gp) (p j : Nat) : List (Nat × Gp) := if j ≤ p then ps.take j else ps.take p ++ x :: (ps.take j).drop p

theorem ins_len (ps : List (Nat × Gp)) (x : Nat × Gp) (p j : Nat) : (ins ps x p j).length ≤ ps.length + 1 := by
  unfold ins
  split
  · simp; omega
  · simp; omega

theorem ins_zero (ps : List (Nat × Gp)) (x : Nat × Gp) (p : Nat) : ins ps x p 0 = [] := by simp [ins]

theorem take_next {ps : List (Nat × Gp)} {j : Nat} {y : Nat × Gp} (h : ps[j]? = some y) : ps.take (j + 1) = ps.take j ++ [y] := by
  obtain ⟨hl, rfl⟩ := List.getElem?_eq_some_iff.1 h
  exact List.take_succ_eq_append_getElem hl

theorem ins_next {ps : List (Nat × Gp)} {x : Nat × Gp} {p j : Nat} {y : Nat × Gp} (h : ps[j]? = some y) (hne : j ≠ p) : ins ps x p (j + 1) = ins ps x p j ++ [y] := by
  obtain ⟨hl, _⟩ := List.getElem?_eq_some_iff.1 h
  unfold ins
  by_cases h1 : j < p
  · rw [if_pos (by omega), if_pos (by omega), take_next h]
  · rw [if_neg (by omega), if_neg (by omega), take_next h, List.drop_append_of_le_length (by simp; omega)]
    simp

theorem ins_here {ps : List (Nat × Gp)} {x : Nat × Gp} {p : Nat} {y : Nat × Gp} (h : ps[p]? = some y) : ins ps x p (p + 1) = (ins ps x p p ++ [x]) ++ [y] := by
  obtain ⟨hl, _⟩ := List.getElem?_eq_some_iff.1 h
  unfold ins
  rw [if_neg (by omega), if_pos (Nat.le_refl _), take_next h, List.drop_append_of_le_length (by simp; omega)]
  simp

theorem ins_last (ps : List (Nat × Gp)) (x : Nat × Gp) (p : Nat) (hp : p = ps.length) : ins ps x p (p + 1) = ins ps x p p ++ [x] := by
  unfold ins
  subst hp
  rw [if_neg (by omega), if_pos (Nat.le_refl _), List.take_of_length_le (Nat.le_refl _), List.take_of_length_le (Nat.le_succ _), List.drop_eq_nil_of_le (Nat.le_refl _)]

theorem ins_past (ps : List (Nat × Gp)) (x : Nat × Gp) (p : Nat) (hp : p < ps.length) : ins ps x p (ps.length + 1) = ins ps x p ps.length := by
  unfold ins
  rw [if_neg (by omega), if_neg (by omega), List.take_of_length_le (show ps.length ≤ ps.length + 1 by omega), List.take_of_length_le (Nat.le_refl _)]

theorem ins_all (ps : List (Nat × Gp)) (x : Nat × Gp) (p : Nat) (hp : p ≤ ps.length) : ins ps x p (ps.length + 1) = ps.take p ++ x :: ps.drop p := by
  unfold ins
  rw [if_neg (by omega), List.take_of_length_le (show ps.length ≤ ps.length + 1 by omega)]

set_option maxRecDepth 100000 in
set_option maxHeartbeats 2000000 in
theorem add_top (a : Option Addr) (len cap : Nat) (gs : List Gp) (e : Gp) (nEras pos i month length day weekday : Int) (w : World) (hG : IsGroups w a len cap gs) (he : e.ok) :
    Calls Try.prog 5 #[.int .i64 nEras, .slice a len cap, .int .i64 pos, .agg e.cells.toArray, .int .i64 i, .int .i64 month, .int .i64 length, .int .i64 day, .int .i64 weekday] w fun r w' =>
      r = .returned (.bool true) ∧ Below w.heap.size w w' := by
  have HS : Hid (Sizes e) := sizes_of he
  have hE0 := Blk.new w e.cells 34
  have hb0 : Below w.heap.size w (w.alloc (.cells e.cells.toArray 34)) := (Below.refl _ _).alloc (Nat.le_refl _) _
  have hz0 : (w.alloc (.cells e.cells.toArray 34)).heap.size = w.heap.size + 1 := by simp
  obtain ⟨w1, hw1⟩ : ∃ w1, w.alloc (.cells e.cells.toArray 34) = w1 := ⟨_, rfl⟩
  rw [hw1] at hE0 hb0 hz0
  have HE : Hid (Blk w1 w.heap.size e.cells 34) := hE0
  have H0 : Hid (Below w.heap.size w w1 ∧ w1.heap.size = w.heap.size + 1) := ⟨hb0, hz0⟩
  have HG : Hid (IsGroups w a len cap gs) := hG
  have hr0 := hE0.range
  have HR0 : Hid (w1.rangeAt w.heap.size 0 e.cells) := hr0
  clear hE0 hb0 hz0 hr0 hG
  go_enter Try.func5, Try.ntmps5
  go_wp2_with (first | (refine wpList_load_mid rfl 34 (.tmp 12) rfl _ _ rfl _ _ HR0.out Try.underlying34 rfl HS.out.s34 ?_))
  refine (bytes11_any a len cap nEras pos i month length day weekday e.cells w1).mono ?_
  rintro r w2 ⟨ht, hb⟩
  have H2 : Hid (Below w.heap.size w w2 ∧ w.heap.size + 1 ≤ w2.heap.size ∧ Blk w2 w.heap.size e.cells 34) := ⟨H0.out.1.trans (hb.mono (by have := H0.out.2; omega)), by have := H0.out.2; have := hb.size; omega, HE.out.below hb (by have := H0.out.2; omega)⟩
  clear hb HR0 HE H0 hw1 w1
  obtain ⟨r, rfl, -⟩ := ht
  cases r
  · go_wp2
    go_ret
    exact ⟨rfl, H2.out.1⟩
  by_cases hlen : len < 3542
  case neg =>
    go_wp2
    go_ret
    exact ⟨rfl, H2.out.1⟩
  go_wp2_with fail
  refine (args_any (HG.out.below H2.out.1 (Nat.le_refl _)) (by omega) nEras i month length day weekday).mono ?_
  rintro r w' ⟨ht, rfl⟩
  obtain ⟨r, rfl, hA⟩ := ht
  cases r
  · go_wp2
    go_ret
    exact ⟨rfl, H2.out.1⟩
  replace hA := hA rfl
  obtain ⟨n, rfl⟩ : ∃ n : Nat, nEras = n := ⟨nEras.toNat, by have := hA.e1; omega⟩
  obtain ⟨i, rfl⟩ : ∃ k : Nat, i = k := ⟨i.toNat, by have := hA.i1; omega⟩
  obtain ⟨month, rfl⟩ : ∃ k : Nat, month = k := ⟨month.toNat, by have := hA.m1; omega⟩
  obtain ⟨length, rfl⟩ : ∃ k : Nat, length = k := ⟨length.toNat, by have := hA.l1; omega⟩
  obtain ⟨day, rfl⟩ : ∃ k : Nat, day = k := ⟨day.toNat, by have := hA.d1; omega⟩
  obtain ⟨weekday, rfl⟩ : ∃ k : Nat, weekday = k := ⟨weekday.toNat, by have := hA.w1; omega⟩
  have HA : Hid (ArgsOK n gs i month length day weekday) := hA
  have hn1 : 1 ≤ n := by have := hA.e1; omega
  have hn2 : n ≤ 65536 := by have := hA.e2; omega
  clear hA
  have hnode := H2.out.2.2.cell 0
  have hnode' : w2.cell? ⟨w.heap.size, 0, none⟩ = some (.int .i64 e.node) := hnode
  clear hnode
  by_cases hk : 1 ≤ e.node ∧ e.node < 2 * (n : Int)
  case neg =>
    by_cases h1 : 1 ≤ e.node
    · have h2 : 2 * (n : Int) ≤ e.node := by omega
      go_wp2
      go_ret
      exact ⟨rfl, H2.out.1⟩
    · go_wp2
      go_ret
      exact ⟨rfl, H2.out.1⟩
  obtain ⟨hk1, hk2⟩ := hk
  by_cases hp : 0 ≤ pos ∧ pos ≤ len
  case neg =>
    by_cases h1 : 0 ≤ pos
    · have h2 : (len : Int) < pos := by omega
      go_wp2
      go_ret
      exact ⟨rfl, H2.out.1⟩
    · go_wp2
      go_ret
      exact ⟨rfl, H2.out.1⟩
  obtain ⟨hp1, hp2⟩ := hp
  obtain ⟨k, hke⟩ : ∃ k : Nat, e.node = k := ⟨e.node.toNat, by omega⟩
  obtain ⟨p, rfl⟩ : ∃ p : Nat, pos = p := ⟨pos.toNat, by omega⟩
  rw [hke] at hnode' hk1 hk2
  have HK : Hid (e.node = (k : Int)) := hke
  clear hke
  go_wp2_with fail
  refine (new_any n w2 hn2).mono ?_
  rintro r w3 ⟨c1, rfl, hC1, hch1⟩
  have HC1 : Hid (CalAt (fun b => w2.heap.size ≤ b ∧ b < w3.heap.size) w3 c1 n [] ∧ Chg (fun _ => False) w2 w3) := ⟨hC1, hch1⟩
  clear hC1 hch1 hnode'
  go_wp2_with fail
  refine (new_any n w3 hn2).mono ?_
  rintro r w4 ⟨c2, rfl, hC2, hch2⟩
  have H4 : Hid (Two (fun b => b < w2.heap.size) c1 c2 n [] [] w4 ∧ Chg (fun b => ¬ b < w2.heap.size) w2 w4) := Two.start HC1.out.1 HC1.out.2 hC2 hch2
  clear HC1 hC2 hch2
  have hplen : (pairs gs).length = len := by unfold pairs; rw [List.length_map, HG.out.num]
  have HPL : Hid ((pairs gs).length = len) := hplen
  clear hplen
  go_wp2_with fail
  go_loopw [21] (fun t wr => ∃ j : Nat, t = .int .i64 j ∧ j ≤ len + 1 ∧ Two (fun b => b < w2.heap.size) c1 c2 n ((pairs gs).take j) (ins (pairs gs) (k, e) p j) wr ∧ Chg (fun b => ¬ b < w2.heap.size) w2 wr)
    (fun t _ => len + 1 - (intOf t).toNat)
  case atStart => exact ⟨0, rfl, Nat.zero_le _, by rw [ins_zero]; exact H4.out.1, H4.out.2⟩
  case round =>
    obtain ⟨j, rfl, hj, hT, hch⟩ := hrel
    clear H4
    by_cases hjl : j ≤ len
    case neg =>
      obtain rfl : j = len + 1 := by omega
      have hT1 : Two (fun b => b < w2.heap.size) c1 c2 n (pairs gs) ((pairs gs).take p ++ (k, e) :: (pairs gs).drop p) wr := by
        have h1 := HPL.out
        rw [← h1, ins_all _ _ _ (by omega), List.take_of_length_le (show (pairs gs).length ≤ (pairs gs).length + 1 by omega)] at hT
        exact hT
      have hok1 : ∀ y ∈ pairs gs, y.2.ok := by
        intro y hy
        obtain ⟨g, hg, rfl⟩ := List.mem_map.1 hy
        exact HG.out.ok g hg
      have hok2 : ∀ y ∈ (pairs gs).take p ++ (k, e) :: (pairs gs).drop p, y.2.ok := by
        intro y hy
        rcases List.mem_append.1 hy with h | h
        · exact hok1 y (List.mem_of_mem_take h)
        rcases List.mem_cons.1 h with rfl | h
        · exact he
        · exact hok1 y (List.mem_of_mem_drop h)
      have hll2 : ((pairs gs).take p ++ (k, e) :: (pairs gs).drop p).length = len + 1 := by
        have h1 := HPL.out
        simp only [List.length_append, List.length_cons, List.length_take, List.length_drop]
        omega
      have HLAW : Hid (∀ y, mword ((pairs gs).take p ++ (k, e) :: (pairs gs).drop p) (n + i) month length day weekday y = if (over k (n + i) && fits e.months e.wd month length day weekday) = true then mword (pairs gs) (n + i) month length day weekday y ||| (e.mins.getD y 0).toNat else mword (pairs gs) (n + i) month length day weekday y) := by
        intro y
        have h := add_one ((pairs gs).take p) ((pairs gs).drop p) k e (by omega) (n + i) month length day weekday y
        rw [List.take_append_drop] at h
        exact h
      obtain ⟨L2, hL2⟩ : ∃ L2, (pairs gs).take p ++ (k, e) :: (pairs gs).drop p = L2 := ⟨_, rfl⟩
      rw [hL2] at hT1 hok2 hll2 HLAW
      have HL2 : Hid ((∀ y ∈ L2, y.2.ok) ∧ L2.length ≤ 10000) := ⟨hok2, by omega⟩
      have HL1 : Hid ((∀ y ∈ pairs gs, y.2.ok) ∧ (pairs gs).length ≤ 10000) := ⟨hok1, by have := HPL.out; omega⟩
      have HT1 : Hid (Two (fun b => b < w2.heap.size) c1 c2 n (pairs gs) L2 wr) := hT1
      have HCr : Hid (Chg (fun b => ¬ b < w2.heap.size) w2 wr) := hch
      have HAR : Hid (i < n ∧ 1 ≤ month ∧ month ≤ 12 ∧ length ≤ 31 ∧ 1 ≤ day ∧ day ≤ 31 ∧ 28 ≤ length ∧ day ≤ length ∧ weekday ≤ 6) := by
        have h := HA.out
        have h1 := h.i2; have h2 := h.m1; have h3 := h.m2; have h4 := h.l1; have h5 := h.l2; have h6 := h.d1; have h7 := h.d2; have h8 := h.w2
        refine ⟨?_, ?_, ?_, ?_, ?_, ?_, ?_, ?_, ?_⟩ <;> omega
      have HE : Hid (Blk wr w.heap.size e.cells 34) := H2.out.2.2.chg hch (fun h => h (by have := H2.out.2.1; omega))
      have HBW : Hid (Below w.heap.size w wr ∧ w.heap.size < wr.heap.size) := by
        have h1 : Below w2.heap.size w2 wr := hch.below (Nat.le_refl _) (fun b h => Nat.le_of_not_lt h)
        exact ⟨H2.out.1.trans (h1.mono H2.out.1.size), Nat.lt_of_lt_of_le (by have := H2.out.2.1; omega) h1.size⟩
      clear hT hch hT1 hok1 hok2 hll2 hL2 HPL HG HA HCr H2
      go_wp2_with fail
      refine (HT1.out.minutes1 HL1.out.1 i month length day weekday HAR.out.1 hn2 HL1.out.2 HAR.out.2.1 HAR.out.2.2.1 HAR.out.2.2.2.1 HAR.out.2.2.2.2.1 HAR.out.2.2.2.2.2.1).mono ?_
      rintro r w5 ⟨rfl, hb5⟩
      have HM1 : Hid ((minutes (pairs gs) (n + i) month length day weekday).length = 23 ∧ ∀ j, j < 23 → (minutes (pairs gs) (n + i) month length day weekday)[j]? = some (mword (pairs gs) (n + i) month length day weekday j : Int)) := ⟨minutes_len _ _ _ _ _ _ HL1.out.1, (mword_of _ _ _ _ _ _ HL1.out.1).2⟩
      generalize minutes (pairs gs) (n + i) month length day weekday = M1 at HM1 ⊢
      have HB5 : Hid (Below wr.heap.size wr w5) := hb5
      have HI1 : Hid ((Try.prog.info? 32).map (·.size) = some (M1.map (Value.int .u64)).length ∧ zeros.length = (M1.map (Value.int .u64)).length ∧ ∀ v ∈ M1.map (Value.int .u64), v.oneCell' = true) := ⟨by rw [List.length_map, HM1.out.1]; exact info32, by rw [List.length_map, HM1.out.1]; rfl, one_of_ints M1⟩
      have HZ5 : Hid (Blk (w5.alloc (.cells #[.int .u64 0, .int .u64 0, .int .u64 0, .int .u64 0, .int .u64 0, .int .u64 0, .int .u64 0, .int .u64 0, .int .u64 0, .int .u64 0, .int .u64 0, .int .u64 0, .int .u64 0, .int .u64 0, .int .u64 0, .int .u64 0, .int .u64 0, .int .u64 0, .int .u64 0, .int .u64 0, .int .u64 0, .int .u64 0, .int .u64 0] 32)) w5.heap.size zeros 32) := Blk.new w5 zeros 32
      clear hb5
      go_wp2_with (refine wpList_store_put rfl 32 (.tmp 23) (.tmp 128) rfl w5.heap.size 32 zeros (M1.map (Value.int .u64)) rfl rfl HZ5.out HI1.out.1 HI1.out.2.1 HI1.out.2.2 ?_)
      intro w6 HP6
      have HB6 : Hid (Below wr.heap.size wr w6 ∧ Blk w6 w5.heap.size (M1.map (Value.int .u64)) 32 ∧ wr.heap.size ≤ w5.heap.size) := by
        have hp := HP6.out
        have h5 := HB5.out.size
        refine ⟨HB5.out.trans ⟨hp.os, hp.tape, hp.output, by rw [hp.size]; simp, fun b hb => (hp.other b (by omega)).trans (Below.heap_alloc _ _ _ (by omega))⟩, hp.blk, h5⟩
      have HT6 : Hid (Two (fun b => b < w2.heap.size) c1 c2 n (pairs gs) L2 w6) := HT1.out.grow HB6.out.1 (fun b hb => .inl hb)
      clear HP6 HZ5 HI1 HB5 HT1
      go_wp2_with fail
      refine (HT6.out.swap.minutes1 HL2.out.1 i month length day weekday HAR.out.1 hn2 HL2.out.2 HAR.out.2.1 HAR.out.2.2.1 HAR.out.2.2.2.1 HAR.out.2.2.2.2.1 HAR.out.2.2.2.2.2.1).mono ?_
      rintro r w7 ⟨rfl, hb7⟩
      have HM2 : Hid ((minutes L2 (n + i) month length day weekday).length = 23 ∧ ∀ j, j < 23 → (minutes L2 (n + i) month length day weekday)[j]? = some (mword L2 (n + i) month length day weekday j : Int)) := ⟨minutes_len _ _ _ _ _ _ HL2.out.1, (mword_of _ _ _ _ _ _ HL2.out.1).2⟩
      generalize minutes L2 (n + i) month length day weekday = M2 at HM2 ⊢
      have HB7 : Hid (Below w6.heap.size w6 w7) := hb7
      have HI2 : Hid ((Try.prog.info? 32).map (·.size) = some (M2.map (Value.int .u64)).length ∧ zeros.length = (M2.map (Value.int .u64)).length ∧ ∀ v ∈ M2.map (Value.int .u64), v.oneCell' = true) := ⟨by rw [List.length_map, HM2.out.1]; exact info32, by rw [List.length_map, HM2.out.1]; rfl, one_of_ints M2⟩
      have HZ7 : Hid (Blk (w7.alloc (.cells #[.int .u64 0, .int .u64 0, .int .u64 0, .int .u64 0, .int .u64 0, .int .u64 0, .int .u64 0, .int .u64 0, .int .u64 0, .int .u64 0, .int .u64 0, .int .u64 0, .int .u64 0, .int .u64 0, .int .u64 0, .int .u64 0, .int .u64 0, .int .u64 0, .int .u64 0, .int .u64 0, .int .u64 0, .int .u64 0, .int .u64 0] 32)) w7.heap.size zeros 32) := Blk.new w7 zeros 32
      clear hb7
      go_wp2_with (refine wpList_store_put rfl 32 (.tmp 24) (.tmp 135) rfl w7.heap.size 32 zeros (M2.map (Value.int .u64)) rfl rfl HZ7.out HI2.out.1 HI2.out.2.1 HI2.out.2.2 ?_)
      intro w8 HP8
      have HB8 : Hid (Below w6.heap.size w6 w8 ∧ Blk w8 w7.heap.size (M2.map (Value.int .u64)) 32 ∧ w6.heap.size ≤ w7.heap.size) := by
        have hp := HP8.out
        have h7 := HB7.out.size
        refine ⟨HB7.out.trans ⟨hp.os, hp.tape, hp.output, by rw [hp.size]; simp, fun b hb => (hp.other b (by omega)).trans (Below.heap_alloc _ _ _ (by omega))⟩, hp.blk, h7⟩
      have HE8 : Hid (Blk w8 w.heap.size e.cells 34 ∧ Blk w8 w5.heap.size (M1.map (Value.int .u64)) 32 ∧ Below w.heap.size w w8) := by
        have hlt := HB6.out.2.1.lt
        have hsz := HBW.out.2
        have hs6 := HB6.out.1.size
        refine ⟨(HE.out.below HB6.out.1 hsz).below HB8.out.1 (by omega), HB6.out.2.1.below HB8.out.1 hlt, (HBW.out.1.trans (HB6.out.1.mono (by omega))).trans (HB8.out.1.mono (by omega))⟩
      have HR8 : Hid (w8.rangeAt w.heap.size 0 e.cells) := HE8.out.1.range
      clear HP8 HZ7 HI2 HB7 HT6
      have HGH := groupHolds_any e.cells k e.months e.wd e.mins (n + i) month length day weekday w8 (by have h := he; unfold Gp.ok at h; rw [HK.out] at h; exact h) (by omega) (by omega) (by have := HAR.out.1; omega) HAR.out.2.1 HAR.out.2.2.1 HAR.out.2.2.2.2.2.2.1 HAR.out.2.2.2.1 HAR.out.2.2.2.2.1 HAR.out.2.2.2.2.2.2.2.1 HAR.out.2.2.2.2.2.2.2.2
      rw [Int.natCast_add] at HGH
      obtain ⟨hd, hhd⟩ : ∃ hd, (over k (n + i) && fits e.months e.wd month length day weekday) = hd := ⟨_, rfl⟩
      rw [hhd] at HGH HLAW
      have HGH' : Hid (Calls Try.prog 16 _ _ _) := HGH
      clear HGH hhd
      have hin' := HAR.out.1
      have hin2 : (n : Int) + (i : Int) ≤ 200000 := by omega
      go_wp2_with (refine wpList_load_mid rfl 34 (.tmp 12) rfl _ _ rfl _ _ HR8.out Try.underlying34 rfl HS.out.s34 ?_)
      refine HGH'.out.mono ?_
      rintro r w9 ⟨rfl, hb9⟩
      have HF : Hid (∀ y, y < 23 → w9.cell? ⟨w5.heap.size, y, none⟩ = some (.int .u64 (mword (pairs gs) (n + i) month length day weekday y : Int)) ∧ w9.cell? ⟨w7.heap.size, y, none⟩ = some (.int .u64 (mword L2 (n + i) month length day weekday y : Int)) ∧ w9.cell? ⟨w.heap.size, 14 + y, none⟩ = some (.int .u64 (e.mins.getD y 0))) := by
        intro y hy
        have k1 := HE8.out.2.1.below hb9 HE8.out.2.1.lt
        have k2 := HB8.out.2.1.below hb9 HB8.out.2.1.lt
        have k3 := HE8.out.1.below hb9 HE8.out.1.lt
        refine ⟨?_, ?_, ?_⟩
        · rw [k1.cell, List.getElem?_map, HM1.out.2 y hy]; rfl
        · rw [k2.cell, List.getElem?_map, HM2.out.2 y hy]; rfl
        · rw [k3.cell]; exact he.atMin y hy
      have HEND : Hid (Below w.heap.size w w9) := HE8.out.2.2.trans (hb9.mono (by have := HE8.out.1.lt; omega))
      have HLT : Hid ((∀ y, mword (pairs gs) (n + i) month length day weekday y < 18446744073709551616)) := (mword_of _ _ _ _ _ _ HL1.out.1).1
      clear hb9 HGH' HR8 HE8 HB8 HB6 HM1 HM2 HE HL1 HL2 HBW
      go_wp2_with fail
      go_loop [26] (fun t => ∃ y : Nat, t = .int .i64 y ∧ y ≤ 23) (fun t => 23 - (intOf t).toNat)
      case atStart => exact ⟨0, rfl, Nat.zero_le _⟩
      case round =>
        obtain ⟨y, rfl, hy⟩ := hrel
        by_cases hlt : y < 23
        · obtain ⟨q1, q2, q3⟩ := HF.out y hlt
          have hl := HLAW.out y
          have hlt1 := HLT.out y
          have hlt2 := min_lt he y
          have hmb := min_back he y
          obtain ⟨me, hme⟩ : ∃ me, (e.mins.getD y 0).toNat = me := ⟨_, rfl⟩
          rw [hme] at hl hlt2 hmb
          rw [← hmb] at q3
          obtain ⟨m1, hm1⟩ : ∃ m1, mword (pairs gs) (n + i) month length day weekday y = m1 := ⟨_, rfl⟩
          obtain ⟨m2, hm2⟩ : ∃ m2, mword L2 (n + i) month length day weekday y = m2 := ⟨_, rfl⟩
          rw [hm1] at hl hlt1 q1
          rw [hm2] at hl q2
          have hor : bits .or .u64 (m1 : Int) (me : Int) = ((m1 ||| me : Nat) : Int) := orI_nat m1 me hlt1 hlt2
          clear hm1 hm2 hme hmb
          cases hd
          · rw [if_neg (by simp)] at hl
            subst hl
            go_wp2
            go_round
            case rel => exact ⟨y + 1, by go_num, by omega⟩
            case measure => simp [intOf]; omega
          · rw [if_pos rfl] at hl
            subst hl
            go_wp2
            go_round
            case rel => exact ⟨y + 1, by go_num, by omega⟩
            case measure => simp [intOf]; omega
        · obtain rfl : y = 23 := by omega
          go_wp2
          go_ret
          exact ⟨rfl, HEND.out⟩
    have HC : Hid (Chg (fun b => ¬ b < w2.heap.size) w2 wr) := hch
    have HT : Hid (Two (fun b => b < w2.heap.size) c1 c2 n ((pairs gs).take j) (ins (pairs gs) (k, e) p j) wr) := hT
    have hzr : w2.heap.size ≤ wr.heap.size := hch.size
    clear hch hT
    have HZR : Hid (w2.heap.size ≤ wr.heap.size) := hzr
    clear hzr
    by_cases hjp : j = p
    · subst hjp
      have hrd := reads_of (H2.out.2.2.chg HC.out (fun h => h (by have := H2.out.2.1; omega))) he
      have rn : wr.cell? ⟨w.heap.size, 0, none⟩ = some (.int .i64 k) := by rw [← HK.out]; exact hrd.node
      have rd := hrd.wd
      have HM : Hid (wr.rangeAt w.heap.size 1 (e.months.map (Value.int .u64)) ∧ wr.rangeAt w.heap.size 14 (e.mins.map (Value.int .u64))) := ⟨hrd.months, hrd.mins⟩
      clear hrd
      have HIL : Hid ((ins (pairs gs) (k, e) j j).length ≤ 4000) := by
        have := ins_len (pairs gs) (k, e) j j
        have := HPL.out
        show _ ≤ _
        omega
      go_wp2_with (first | (refine wpList_load_mid rfl 31 (.tmp 87) rfl _ _ rfl _ _ HM.out.1 Try.underlying31 rfl HS.out.s31 ?_) | (refine wpList_load_mid rfl 32 (.tmp 91) rfl _ _ rfl _ _ HM.out.2 Try.underlying32 rfl HS.out.s32 ?_))
      refine (HT.out.add2 (by have := HZR.out; intro b hb; omega) k e (by omega) he hn2 (by have := HIL.out; omega)).mono ?_
      rintro r wa ⟨rfl, hTa, hca⟩
      have HTa : Hid (Two (fun b => b < w2.heap.size) c1 c2 n ((pairs gs).take j) (ins (pairs gs) (k, e) j j ++ [(k, e)]) wa) := hTa
      have HCa : Hid (Chg (fun b => ¬ b < w2.heap.size) w2 wa) := HC.out.trans hca (fun _ _ h => h)
      have HZa : Hid (w2.heap.size ≤ wa.heap.size) := HCa.out.size
      clear hTa hca HT HC HZR rn rd HM
      have HZR := HZa
      clear HZa
      by_cases hlt : j < len
      · have HXL : Hid ((ins (pairs gs) (k, e) j j ++ [(k, e)]).length ≤ 10000) := by
          have := HIL.out
          show _ ≤ _
          rw [List.length_append, List.length_singleton]
          omega
        obtain ⟨g, hg⟩ : ∃ g, gs[j]? = some g := ⟨_, List.getElem?_eq_getElem (by rw [HG.out.num]; exact hlt)⟩
        obtain ⟨b, off, hab, _, _⟩ := HG.out.cells (by omega)
        subst hab
        have hgok := HG.out.ok g (List.mem_of_getElem? hg)
        have hgn := HA.out.nodes j g hg
        obtain ⟨kg, hkg⟩ : ∃ kg : Nat, g.node = kg := ⟨g.node.toNat, by omega⟩
        have HKG : Hid (g.node = (kg : Int)) := hkg
        have HSg : Hid (Sizes g) := sizes_of hgok
        have hpj : (pairs gs)[j]? = some (kg, g) := by
          unfold pairs
          rw [List.getElem?_map, hg, Option.map_some, hkg]
          rfl
        rw [hkg] at hgn
        obtain ⟨hgn1, hgn2⟩ := hgn
        clear hkg
        have HGa : Hid (IsGroups wa (some ⟨b, off, none⟩) len cap gs) := (HG.out.below H2.out.1 (Nat.le_refl _)).below (HCa.out.below (B := w2.heap.size) (Nat.le_refl _) (fun b h => Nat.le_of_not_lt h)) (Nat.le_refl _)
        obtain ⟨b', off', hab, _, hcl⟩ := HGa.out.cells (by omega)
        cases hab
        have HRG : Hid (wa.rangeAt b (off + j * 37) g.cells) := by
          intro t v hv
          have ht : t < 37 := by have := (List.getElem?_eq_some_iff.1 hv).1; rw [HSg.out.len] at this; exact this
          rw [hcl j (by omega) t ht g hg]
          exact hv
        clear hcl HGa
        have HZ : Hid (Blk (wa.alloc (.cells #[.int .i64 0, .int .u64 0, .int .u64 0, .int .u64 0, .int .u64 0, .int .u64 0, .int .u64 0, .int .u64 0, .int .u64 0, .int .u64 0, .int .u64 0, .int .u64 0, .int .u64 0, .int .u64 0, .int .u64 0, .int .u64 0, .int .u64 0, .int .u64 0, .int .u64 0, .int .u64 0, .int .u64 0, .int .u64 0, .int .u64 0, .int .u64 0, .int .u64 0, .int .u64 0, .int .u64 0, .int .u64 0, .int .u64 0, .int .u64 0, .int .u64 0, .int .u64 0, .int .u64 0, .int .u64 0, .int .u64 0, .int .u64 0, .int .u64 0] 34)) wa.heap.size zero34 34) := Blk.new wa zero34 34
        have HZL : Hid (zero34.length = g.cells.length) := by
          show zero34.length = g.cells.length
          rw [HSg.out.len]; rfl
        go_wp2_with (first | (refine wpList_load_mid rfl 34 (.tmp 100) rfl _ _ rfl _ _ HRG.out Try.underlying34 rfl HSg.out.s34 ?_) | (refine wpList_store_put rfl 34 (.tmp 22) (.tmp 101) rfl wa.heap.size 34 zero34 g.cells rfl rfl HZ.out HSg.out.s34 HZL.out HSg.out.one ?_))
        intro w5 HP
        have HP5 : Hid (Below wa.heap.size wa w5 ∧ Blk w5 wa.heap.size g.cells 34 ∧ w5.heap.size = wa.heap.size + 1) := by
          have hp := HP.out
          refine ⟨⟨hp.os, hp.tape, hp.output, by rw [hp.size]; simp, fun b hb => (hp.other b (by omega)).trans (Below.heap_alloc _ _ _ hb)⟩, hp.blk, by rw [hp.size]; simp⟩
        clear HP HZ HZL HRG
        have HT5 : Hid (Two (fun b => b < w2.heap.size ∨ b = wa.heap.size) c1 c2 n ((pairs gs).take j) (ins (pairs gs) (k, e) j j ++ [(k, e)]) w5) := HTa.out.grow HP5.out.1 (fun b hb => hb.elim .inl (fun e => .inr (by omega)))
        have hrd := reads_of HP5.out.2.1 hgok
        have rn5 : w5.cell? ⟨wa.heap.size, 0, none⟩ = some (.int .i64 kg) := by rw [← HKG.out]; exact hrd.node
        have rd5 := hrd.wd
        have HM5 : Hid (w5.rangeAt wa.heap.size 1 (g.months.map (Value.int .u64)) ∧ w5.rangeAt wa.heap.size 14 (g.mins.map (Value.int .u64))) := ⟨hrd.months, hrd.mins⟩
        clear hrd
        go_wp2_with (first | (refine wpList_load_mid rfl 31 (.tmp 105) rfl _ _ rfl _ _ HM5.out.1 Try.underlying31 rfl HSg.out.s31 ?_) | (refine wpList_load_mid rfl 32 (.tmp 109) rfl _ _ rfl _ _ HM5.out.2 Try.underlying32 rfl HSg.out.s32 ?_))
        refine (HT5.out.add1 (by have := HP5.out.2.2; have := HZR.out; intro b hb; omega) kg g (by omega) hgok hn2 (by have := HPL.out; rw [List.length_take]; omega)).mono ?_
        rintro r w6 ⟨rfl, hT6, hc6⟩
        have HT6 : Hid (Two (fun b => b < w2.heap.size ∨ b = wa.heap.size) c1 c2 n ((pairs gs).take j ++ [(kg, g)]) (ins (pairs gs) (k, e) j j ++ [(k, e)]) w6) := hT6
        have HC6 : Hid (Chg (fun b => ¬ (b < w2.heap.size ∨ b = wa.heap.size)) w5 w6) := hc6
        have HB6 : Hid (Blk w6 wa.heap.size g.cells 34) := HP5.out.2.1.chg hc6 (fun h => h (.inr rfl))
        have hrd := reads_of HB6.out hgok
        have rn6 : w6.cell? ⟨wa.heap.size, 0, none⟩ = some (.int .i64 kg) := by rw [← HKG.out]; exact hrd.node
        have rd6 := hrd.wd
        have HM6 : Hid (w6.rangeAt wa.heap.size 1 (g.months.map (Value.int .u64)) ∧ w6.rangeAt wa.heap.size 14 (g.mins.map (Value.int .u64))) := ⟨hrd.months, hrd.mins⟩
        clear hrd hT6 hc6 rn5 rd5 HM5 HB6
        go_wp2_with (first | (refine wpList_load_mid rfl 31 (.tmp 115) rfl _ _ rfl _ _ HM6.out.1 Try.underlying31 rfl HSg.out.s31 ?_) | (refine wpList_load_mid rfl 32 (.tmp 119) rfl _ _ rfl _ _ HM6.out.2 Try.underlying32 rfl HSg.out.s32 ?_))
        refine (HT6.out.add2 (by have := HP5.out.2.2; have := HC6.out.size; have := HZR.out; intro b hb; omega) kg g (by omega) hgok hn2 HXL.out).mono ?_
        rintro r w7 ⟨rfl, hT7, hc7⟩
        have HT7 : Hid (Two (fun b => b < w2.heap.size) c1 c2 n ((pairs gs).take (j + 1)) (ins (pairs gs) (k, e) j (j + 1)) w7) := by
          show Two _ _ _ _ _ _ _
          rw [take_next hpj, ins_here hpj]
          exact hT7.grow (Below.refl _ _) (fun b hb => .inl (.inl hb))
        have HC7 : Hid (Chg (fun b => ¬ b < w2.heap.size) w2 w7) := by
          refine ((HCa.out.trans (Chg.of_below HP5.out.1 (M := fun b => ¬ b < w2.heap.size) (fun b h1 h2 => by omega)) (fun _ _ h => h)).trans HC6.out (fun x hx h h' => h (.inl h'))).trans hc7 (fun x hx h h' => h (.inl h'))
        clear hT7 hc7 HT6 HC6 HT5 HP5 rn6 rd6 HM6
        go_wp2
        go_roundw
        case rel => exact ⟨j + 1, by go_num, by omega, HT7.out, HC7.out⟩
        case measure => simp [intOf]; omega
      · obtain rfl : j = len := by omega
        have HT7 : Hid (Two (fun b => b < w2.heap.size) c1 c2 n ((pairs gs).take (j + 1)) (ins (pairs gs) (k, e) j (j + 1)) wa) := by
          have h1 := HPL.out
          show Two _ _ _ _ _ _ _
          rw [ins_last _ _ _ h1.symm, List.take_of_length_le (show (pairs gs).length ≤ j + 1 by omega)]
          have h2 := HTa.out
          rw [List.take_of_length_le (show (pairs gs).length ≤ j by omega)] at h2
          exact h2
        clear HTa
        go_wp2
        go_roundw
        case rel => exact ⟨j + 1, by go_num, by omega, HT7.out, HCa.out⟩
        case measure => simp [intOf]
    · by_cases hlt : j < len
      · have HXL : Hid ((ins (pairs gs) (k, e) p j).length ≤ 10000) := by
          have := ins_len (pairs gs) (k, e) p j
          have := HPL.out
          show _ ≤ _
          omega
        obtain ⟨g, hg⟩ : ∃ g, gs[j]? = some g := ⟨_, List.getElem?_eq_getElem (by rw [HG.out.num]; exact hlt)⟩
        obtain ⟨b, off, hab, _, _⟩ := HG.out.cells (by omega)
        subst hab
        have hgok := HG.out.ok g (List.mem_of_getElem? hg)
        have hgn := HA.out.nodes j g hg
        obtain ⟨kg, hkg⟩ : ∃ kg : Nat, g.node = kg := ⟨g.node.toNat, by omega⟩
        have HKG : Hid (g.node = (kg : Int)) := hkg
        have HSg : Hid (Sizes g) := sizes_of hgok
        have hpj : (pairs gs)[j]? = some (kg, g) := by
          unfold pairs
          rw [List.getElem?_map, hg, Option.map_some, hkg]
          rfl
        rw [hkg] at hgn
        obtain ⟨hgn1, hgn2⟩ := hgn
        clear hkg
        have HGa : Hid (IsGroups wr (some ⟨b, off, none⟩) len cap gs) := (HG.out.below H2.out.1 (Nat.le_refl _)).below (HC.out.below (B := w2.heap.size) (Nat.le_refl _) (fun b h => Nat.le_of_not_lt h)) (Nat.le_refl _)
        obtain ⟨b', off', hab, _, hcl⟩ := HGa.out.cells (by omega)
        cases hab
        have HRG : Hid (wr.rangeAt b (off + j * 37) g.cells) := by
          intro t v hv
          have ht : t < 37 := by have := (List.getElem?_eq_some_iff.1 hv).1; rw [HSg.out.len] at this; exact this
          rw [hcl j (by omega) t ht g hg]
          exact hv
        clear hcl HGa
        have HZ : Hid (Blk (wr.alloc (.cells #[.int .i64 0, .int .u64 0, .int .u64 0, .int .u64 0, .int .u64 0, .int .u64 0, .int .u64 0, .int .u64 0, .int .u64 0, .int .u64 0, .int .u64 0, .int .u64 0, .int .u64 0, .int .u64 0, .int .u64 0, .int .u64 0, .int .u64 0, .int .u64 0, .int .u64 0, .int .u64 0, .int .u64 0, .int .u64 0, .int .u64 0, .int .u64 0, .int .u64 0, .int .u64 0, .int .u64 0, .int .u64 0, .int .u64 0, .int .u64 0, .int .u64 0, .int .u64 0, .int .u64 0, .int .u64 0, .int .u64 0, .int .u64 0, .int .u64 0] 34)) wr.heap.size zero34 34) := Blk.new wr zero34 34
        have HZL : Hid (zero34.length = g.cells.length) := by
          show zero34.length = g.cells.length
          rw [HSg.out.len]; rfl
        go_wp2_with (first | (refine wpList_load_mid rfl 34 (.tmp 100) rfl _ _ rfl _ _ HRG.out Try.underlying34 rfl HSg.out.s34 ?_) | (refine wpList_store_put rfl 34 (.tmp 22) (.tmp 101) rfl wr.heap.size 34 zero34 g.cells rfl rfl HZ.out HSg.out.s34 HZL.out HSg.out.one ?_))
        intro w5 HP
        have HP5 : Hid (Below wr.heap.size wr w5 ∧ Blk w5 wr.heap.size g.cells 34 ∧ w5.heap.size = wr.heap.size + 1) := by
          have hp := HP.out
          refine ⟨⟨hp.os, hp.tape, hp.output, by rw [hp.size]; simp, fun b hb => (hp.other b (by omega)).trans (Below.heap_alloc _ _ _ hb)⟩, hp.blk, by rw [hp.size]; simp⟩
        clear HP HZ HZL HRG
        have HT5 : Hid (Two (fun b => b < w2.heap.size ∨ b = wr.heap.size) c1 c2 n ((pairs gs).take j) (ins (pairs gs) (k, e) p j) w5) := HT.out.grow HP5.out.1 (fun b hb => hb.elim .inl (fun e => .inr (by omega)))
        have hrd := reads_of HP5.out.2.1 hgok
        have rn5 : w5.cell? ⟨wr.heap.size, 0, none⟩ = some (.int .i64 kg) := by rw [← HKG.out]; exact hrd.node
        have rd5 := hrd.wd
        have HM5 : Hid (w5.rangeAt wr.heap.size 1 (g.months.map (Value.int .u64)) ∧ w5.rangeAt wr.heap.size 14 (g.mins.map (Value.int .u64))) := ⟨hrd.months, hrd.mins⟩
        clear hrd
        go_wp2_with (first | (refine wpList_load_mid rfl 31 (.tmp 105) rfl _ _ rfl _ _ HM5.out.1 Try.underlying31 rfl HSg.out.s31 ?_) | (refine wpList_load_mid rfl 32 (.tmp 109) rfl _ _ rfl _ _ HM5.out.2 Try.underlying32 rfl HSg.out.s32 ?_))
        refine (HT5.out.add1 (by have := HP5.out.2.2; have := HZR.out; intro b hb; omega) kg g (by omega) hgok hn2 (by have := HPL.out; rw [List.length_take]; omega)).mono ?_
        rintro r w6 ⟨rfl, hT6, hc6⟩
        have HT6 : Hid (Two (fun b => b < w2.heap.size ∨ b = wr.heap.size) c1 c2 n ((pairs gs).take j ++ [(kg, g)]) (ins (pairs gs) (k, e) p j) w6) := hT6
        have HC6 : Hid (Chg (fun b => ¬ (b < w2.heap.size ∨ b = wr.heap.size)) w5 w6) := hc6
        have HB6 : Hid (Blk w6 wr.heap.size g.cells 34) := HP5.out.2.1.chg hc6 (fun h => h (.inr rfl))
        have hrd := reads_of HB6.out hgok
        have rn6 : w6.cell? ⟨wr.heap.size, 0, none⟩ = some (.int .i64 kg) := by rw [← HKG.out]; exact hrd.node
        have rd6 := hrd.wd
        have HM6 : Hid (w6.rangeAt wr.heap.size 1 (g.months.map (Value.int .u64)) ∧ w6.rangeAt wr.heap.size 14 (g.mins.map (Value.int .u64))) := ⟨hrd.months, hrd.mins⟩
        clear hrd hT6 hc6 rn5 rd5 HM5 HB6
        go_wp2_with (first | (refine wpList_load_mid rfl 31 (.tmp 115) rfl _ _ rfl _ _ HM6.out.1 Try.underlying31 rfl HSg.out.s31 ?_) | (refine wpList_load_mid rfl 32 (.tmp 119) rfl _ _ rfl _ _ HM6.out.2 Try.underlying32 rfl HSg.out.s32 ?_))
        refine (HT6.out.add2 (by have := HP5.out.2.2; have := HC6.out.size; have := HZR.out; intro b hb; omega) kg g (by omega) hgok hn2 HXL.out).mono ?_
        rintro r w7 ⟨rfl, hT7, hc7⟩
        have HT7 : Hid (Two (fun b => b < w2.heap.size) c1 c2 n ((pairs gs).take (j + 1)) (ins (pairs gs) (k, e) p (j + 1)) w7) := by
          show Two _ _ _ _ _ _ _
          rw [take_next hpj, ins_next hpj hjp]
          exact hT7.grow (Below.refl _ _) (fun b hb => .inl (.inl hb))
        have HC7 : Hid (Chg (fun b => ¬ b < w2.heap.size) w2 w7) := by
          refine ((HC.out.trans (Chg.of_below HP5.out.1 (M := fun b => ¬ b < w2.heap.size) (fun b h1 h2 => by omega)) (fun _ _ h => h)).trans HC6.out (fun x hx h h' => h (.inl h'))).trans hc7 (fun x hx h h' => h (.inl h'))
        clear hT7 hc7 HT6 HC6 HT5 HP5 rn6 rd6 HM6
        go_wp2
        go_roundw
        case rel => exact ⟨j + 1, by go_num, by omega, HT7.out, HC7.out⟩
        case measure => simp [intOf]; omega
      · obtain rfl : j = len := by omega
        have HT7 : Hid (Two (fun b => b < w2.heap.size) c1 c2 n ((pairs gs).take (j + 1)) (ins (pairs gs) (k, e) p (j + 1)) wr) := by
          have h1 := HPL.out
          have h2 := HT.out
          show Two _ _ _ _ _ _ _
          rw [← h1, ins_past _ _ _ (by omega), List.take_of_length_le (show (pairs gs).length ≤ (pairs gs).length + 1 by omega)]
          rw [← h1, List.take_of_length_le (Nat.le_refl _)] at h2
          exact h2
        clear HT
        go_wp2
        go_roundw
        case rel => exact ⟨j + 1, by go_num, by omega, HT7.out, HC.out⟩
        case measure => simp [intOf]
end Go.Proofs.Qxb6615962a
