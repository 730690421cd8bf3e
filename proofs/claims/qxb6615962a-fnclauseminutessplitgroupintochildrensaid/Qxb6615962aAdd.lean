import Derived.Test.Qxb6615962aNew
import Derived.Test.Qxb6615962aOrders
import Derived.ArgAppend
import Derived.Laws.Tables
namespace Go.Proofs.Qxb6615962a
open Go.RowKit Go.Deep

/-- What lies behind the store of a whole array into block g. -/
structure Put (w : World) (g : Nat) (cs : List Value) (t : TypeId) (w' : World) : Prop where
  blk : Blk w' g cs t
  size : w'.heap.size = w.heap.size
  os : w'.os = w.os
  tape : w'.tape = w.tape
  output : w'.output = w.output
  other : ∀ b, b ≠ g → w'.heap[b]? = w.heap[b]?

theorem wpList_store_put {P : Program} {ops : Array Oper} {rest : List Oper} {op : Oper} {a : Act} {w : World} {Q : Exit → Act → World → Prop} (hgd : op.guard = none) (ty : TypeId) (x y : Operand) (ho : op.op = .store ty x y)
    (g : Nat) (t : TypeId) (old cells : List Value) (hx : a.eval x = .pointer (some ⟨g, 0, none⟩)) (hy : a.eval y = .agg cells.toArray)
    (hg : Blk w g old t) (hi : (P.info? ty).map (·.size) = some cells.length) (hl : old.length = cells.length) (h1 : ∀ v ∈ cells, v.oneCell' = true)
    (h : ∀ w', Hid (Put w g cells t w') → wpList P ops Q rest (a.put op.dst undef) w') : wpList P ops Q (op :: rest) a w :=
  wpList_plain hgd fun _ hK => by
    unfold Oper.wp execOp
    simp only [ho, hx, hy, Instr.storeAt, Instr.sureAddr, Sem.run_bind, Sem.run_pure, Result.andThen_ok, run_storeVar_row (P := P) w g t ty old.toArray cells.toArray hg (by simpa using hi) (by simpa using hl) (all_oneCell_toArray h1)]
    refine hK _ _ (h _ ⟨setRow_heap w g _ _ t _ hg, by simp [World.setRow], rfl, rfl, rfl, fun b hb => setRow_other w g b _ (by omega)⟩)

/-- The dates block while it is filled. -/
def filled (months : List Int) (k : Nat) : List Value := (months.take k).map (Value.int .u64) ++ (List.replicate (12 - k) (.int .u64 0) ++ [.string ByteArray.empty])

theorem filled_len (months : List Int) (k : Nat) (hm : months.length = 12) (hk : k ≤ 12) : (filled months k).length = 13 := by
  simp [filled, hm]; omega

theorem filled_step (months : List Int) (k : Nat) (hm : months.length = 12) (hk : k < 12) : (filled months k).set k (.int .u64 (months.getD k 0)) = filled months (k + 1) := by
  unfold filled
  have hl : ((months.take k).map (Value.int .u64)).length = k := by simp [hm]; omega
  rw [List.set_append_right _ _ (by omega), hl, Nat.sub_self, show 12 - k = (12 - (k + 1)) + 1 by omega, List.replicate_succ, List.cons_append, List.set_cons_zero, List.take_succ_eq_append_getElem (by omega), List.map_append, List.append_assoc]
  simp [List.getElem?_eq_getElem (show k < months.length by omega)]

theorem filled_end (months : List Int) (hm : months.length = 12) : filled months 12 = months.map (Value.int .u64) ++ [.string ByteArray.empty] := by
  unfold filled
  rw [List.take_of_length_le (by omega)]
  rfl

theorem start_blk (g : Gp) (w : World) :
    Blk (((w.alloc (.cells (g.months.map (Value.int .u64)).toArray 31)).alloc (.cells (g.mins.map (Value.int .u64)).toArray 32)).alloc (.cells #[.int .u64 0, .int .u64 0, .int .u64 0, .int .u64 0, .int .u64 0, .int .u64 0, .int .u64 0, .int .u64 0, .int .u64 0, .int .u64 0, .int .u64 0, .int .u64 0, .string ⟨#[]⟩] 55)) (w.heap.size + 1 + 1) (filled g.months 0) 55 ∧
    Blk (((w.alloc (.cells (g.months.map (Value.int .u64)).toArray 31)).alloc (.cells (g.mins.map (Value.int .u64)).toArray 32)).alloc (.cells #[.int .u64 0, .int .u64 0, .int .u64 0, .int .u64 0, .int .u64 0, .int .u64 0, .int .u64 0, .int .u64 0, .int .u64 0, .int .u64 0, .int .u64 0, .int .u64 0, .string ⟨#[]⟩] 55)) w.heap.size (g.months.map (Value.int .u64)) 31 ∧
    Blk (((w.alloc (.cells (g.months.map (Value.int .u64)).toArray 31)).alloc (.cells (g.mins.map (Value.int .u64)).toArray 32)).alloc (.cells #[.int .u64 0, .int .u64 0, .int .u64 0, .int .u64 0, .int .u64 0, .int .u64 0, .int .u64 0, .int .u64 0, .int .u64 0, .int .u64 0, .int .u64 0, .int .u64 0, .string ⟨#[]⟩] 55)) (w.heap.size + 1) (g.mins.map (Value.int .u64)) 32 ∧
    (((w.alloc (.cells (g.months.map (Value.int .u64)).toArray 31)).alloc (.cells (g.mins.map (Value.int .u64)).toArray 32)).alloc (.cells #[.int .u64 0, .int .u64 0, .int .u64 0, .int .u64 0, .int .u64 0, .int .u64 0, .int .u64 0, .int .u64 0, .int .u64 0, .int .u64 0, .int .u64 0, .int .u64 0, .string ⟨#[]⟩] 55)).heap.size = w.heap.size + 3 ∧
    Below w.heap.size w (((w.alloc (.cells (g.months.map (Value.int .u64)).toArray 31)).alloc (.cells (g.mins.map (Value.int .u64)).toArray 32)).alloc (.cells #[.int .u64 0, .int .u64 0, .int .u64 0, .int .u64 0, .int .u64 0, .int .u64 0, .int .u64 0, .int .u64 0, .int .u64 0, .int .u64 0, .int .u64 0, .int .u64 0, .string ⟨#[]⟩] 55)) := by
  refine ⟨?_, ?_, ?_, by simp, (((Below.refl _ _).alloc (Nat.le_refl _) _).alloc (by simp) _).alloc (by simp; omega) _⟩
  · have := Blk.new ((w.alloc (.cells (g.months.map (Value.int .u64)).toArray 31)).alloc (.cells (g.mins.map (Value.int .u64)).toArray 32)) (filled g.months 0) 55
    simp only [World.size_alloc] at this
    exact this
  · exact ((Blk.new w _ 31).alloc _).alloc _
  · have := (Blk.new (w.alloc (.cells (g.months.map (Value.int .u64)).toArray 31)) (g.mins.map (Value.int .u64)) 32).alloc (.cells #[.int .u64 0, .int .u64 0, .int .u64 0, .int .u64 0, .int .u64 0, .int .u64 0, .int .u64 0, .int .u64 0, .int .u64 0, .int .u64 0, .int .u64 0, .int .u64 0, .string ⟨#[]⟩] 55)
    simp only [World.size_alloc] at this
    exact this

/-- The world in which the group is laid: dates and minutes are there. -/
structure AddPre (w w4 : World) (g : Gp) : Prop where
  dates : Blk w4 (w.heap.size + 1 + 1) (g.months.map (Value.int .u64) ++ [.string ByteArray.empty]) 55
  mins : Blk w4 (w.heap.size + 3) (g.mins.map (Value.int .u64)) 56
  size : w4.heap.size = w.heap.size + 4
  below : Below w.heap.size w w4

/-- A list of the calendar, its value written out. -/
theorem row_shape {F : Nat → Prop} {w : World} {v : Value} {gs : List Gp} {ps : List Value} (h : RowAt F w v gs ps) :
    ∃ ao cap, v = .slice ao gs.length cap ∧ cap ≤ maxLen ∧ (ao = none → gs.length = 0 ∧ cap = 0) ∧ ∀ r, ao = some r → ∃ b cs, r = ⟨b, 0, none⟩ ∧ Blk w b cs 58 ∧ cs.length = cap ∧ cs.take gs.length = ps ∧ gs.length ≤ cap ∧ F b := by
  rcases h.own.2 with ⟨hv, h0⟩ | ⟨b, cap, cur, hv, _, hh, hn, hcm, hs, ht⟩
  · exact ⟨none, 0, by rw [hv, h0], Nat.zero_le _, fun _ => ⟨h0, rfl⟩, fun r hr => by cases hr⟩
  · refine ⟨some ⟨b, 0, none⟩, cap, hv, hcm, (by intro h; cases h), fun r hr => ?_⟩
    cases hr
    exact ⟨b, cur.toList, rfl, by unfold Blk; rw [hh], by simpa using hs, by simpa using ht, hn, h.foot b (by rw [hv]; rfl)⟩

theorem below_one (w : World) (o : Obj) : Below w.heap.size w (w.alloc o).drew := ((Below.refl _ _).alloc (Nat.le_refl _) o).drew
theorem below_two (w : World) (o o' : Obj) : Below w.heap.size w ((w.alloc o).alloc o').drew := (((Below.refl _ _).alloc (Nat.le_refl _) o).alloc (by simp) o').drew

theorem below_grown {w w1 w' : World} (h : Below w.heap.size w w1) (hg : w1.grownBy w' none) : Below w.heap.size w w' := h.grown hg h.size (by simp)

theorem own_shape {w : World} {base e n : Nat} {v : Value} {xs : List Value} (h : w.ownsRow base e 1 v n xs) (hn : 0 < n) : ∃ g cap, v = .slice (some ⟨g, 0, none⟩) n cap ∧ base ≤ g ∧ g < w.heap.size := by
  rcases h.2 with ⟨_, h0⟩ | ⟨g, cap, cur, rfl, hg, hh, _⟩
  · omega
  · exact ⟨g, cap, rfl, hg, (Array.getElem?_eq_some_iff.1 hh).1⟩

/-- The object of the new group, and of the one-element slice that is appended. -/
def objG (B : Nat) (wd : Int) : Obj := .cells #[.pointer (some ⟨B + 1 + 1, 0, none⟩), .int .u64 wd, .pointer (some ⟨B + 3, 0, none⟩)] 63
def objP (B : Nat) : Obj := .cells #[.pointer (some ⟨B + 4, 0, none⟩)] 58

theorem own_mono {w : World} {base e n : Nat} {v : Value} {xs : List Value} (h : w.ownsRow base e 1 v n xs) : w.ownsRow 0 e 1 v n xs := by
  obtain ⟨h1, h2⟩ := h
  refine ⟨h1, ?_⟩
  rcases h2 with h2 | ⟨g, cap, cur, hv, _, r⟩
  · exact Or.inl h2
  · exact Or.inr ⟨g, cap, cur, hv, Nat.zero_le _, r⟩

/-- What append leaves of a list. -/
structure Appended (W : World) (ao : Option Addr) (m : Nat) (ps : List Value) (p : Addr) (r cap' : Nat) (w5 : World) : Prop where
  own : w5.ownsRow 0 58 1 (.slice (some ⟨r, 0, none⟩) (m + 1) cap') (m + 1) (ps ++ [.pointer (some p)])
  blk : ao = some ⟨r, 0, none⟩ ∨ (W.heap.size ≤ r ∧ r < w5.heap.size)
  chg : Chg (fun b => ao = some ⟨b, 0, none⟩) W w5

theorem appended_new {W w' : World} {ao : Option Addr} {m : Nat} {ps : List Value} {p : Addr} {v' : Value} (hown : w'.ownsRow W.heap.size 58 1 v' (m + 1) (ps ++ [.pointer (some p)])) (hg : W.grownBy w' none) :
    ∃ r cap', v' = .slice (some ⟨r, 0, none⟩) (m + 1) cap' ∧ Appended W ao m ps p r cap' w' := by
  obtain ⟨r, cap', rfl, h1, h2⟩ := own_shape hown (by omega)
  exact ⟨r, cap', rfl, own_mono hown, .inr ⟨h1, h2⟩, hg.os, hg.tape, hg.output, hg.size, fun b hb _ => hg.block b hb (by simp)⟩

theorem one_new {W : World} {x : Nat} {p : Addr} (hx : W.cell? ⟨x, 0, none⟩ = some (.pointer (some p))) : ∀ (j : Nat) u, [Value.pointer (some p)][j]? = some u → W.cell? ((⟨x, 0, none⟩ : Addr).add j) = some u := by
  intro j u hj
  match j, hj with
  | 0, hj => exact hx.trans hj

theorem one_cell (p : Addr) : ∀ u ∈ [Value.pointer (some p)], u.oneCell' = true := fun u hu => by simp at hu; subst hu; rfl

theorem append_nil (W : World) (x : Nat) (p : Addr) (hx : W.cell? ⟨x, 0, none⟩ = some (.pointer (some p))) :
    ∃ r cap' w5, (Builtin.append_ #[57, 57] 57 #[.slice none 0 0, .slice (some ⟨x, 0, none⟩) 1 1]).run Try.prog W = .ok (.slice (some ⟨r, 0, none⟩) (0 + 1) cap') w5 ∧ Appended W none 0 [] p r cap' w5 := by
  obtain ⟨i8, h8, z8, s8, b8⟩ := info_parts Try.info58
  obtain ⟨v', w', hrun, hown, hg, _⟩ := run_append_own (P := Try.prog) W W.heap.size 57 57 58 i8 (.pointer none) 1 8 Try.underlying57 h8 z8 s8 b8 rfl (by decide) (.slice none 0 0) 0 [] (World.ownsRow_nil _ _ _ _) ⟨x, 0, none⟩ 1 1 [.pointer (some p)] rfl (one_new hx) (one_cell p) (by unfold maxLen; omega) (by omega) (Nat.le_refl _)
  obtain ⟨r, cap', hv, hA⟩ := appended_new (ao := none) hown hg
  rw [hv] at hrun
  exact ⟨r, cap', w', hrun, hA⟩

theorem append_grow (W : World) (b m cap x : Nat) (cs ps : List Value) (p : Addr) (hps : ps.length = m) (hm : m ≤ 10000) (hB : Blk W b cs 58) (htk : cs.take m = ps) (hroom : ¬ m + 1 ≤ cap) (hx : W.cell? ⟨x, 0, none⟩ = some (.pointer (some p))) :
    ∃ r cap' w5, (Builtin.append_ #[57, 57] 57 #[.slice (some ⟨b, 0, none⟩) m cap, .slice (some ⟨x, 0, none⟩) 1 1]).run Try.prog W = .ok (.slice (some ⟨r, 0, none⟩) (m + 1) cap') w5 ∧ Appended W (some ⟨b, 0, none⟩) m ps p r cap' w5 := by
  obtain ⟨i8, h8, z8, s8, b8⟩ := info_parts Try.info58
  have holds : ∀ (j : Nat) u, ps[j]? = some u → W.cell? ((⟨b, 0, none⟩ : Addr).add j) = some u := by
    intro j u hj
    rw [Addr.add_mid, Nat.zero_add, hB.cell j, ← List.getElem?_take_of_lt (show j < m from by have := (List.getElem?_eq_some_iff.1 hj).1; omega), htk]
    exact hj
  obtain ⟨v', w', hrun, hown, hg⟩ := run_append_arg_grows (P := Try.prog) W 57 57 58 i8 (.pointer none) 1 8 Try.underlying57 h8 z8 s8 b8 rfl (by decide) ⟨b, 0, none⟩ m cap ps (by omega) holds
    ⟨x, 0, none⟩ 1 1 [.pointer (some p)] rfl (one_new hx) (by omega) (by unfold maxLen; omega) (by omega)
  obtain ⟨r, cap', hv, hA⟩ := appended_new (ao := some ⟨b, 0, none⟩) hown hg
  rw [hv] at hrun
  exact ⟨r, cap', w', hrun, hA⟩

theorem append_fits (W : World) (b m cap x : Nat) (cs ps : List Value) (p : Addr) (hps : ps.length = m) (hB : Blk W b cs 58) (hcl : cs.length = cap) (htk : cs.take m = ps) (hroom : m + 1 ≤ cap) (hcap : cap ≤ maxLen) (hx : W.cell? ⟨x, 0, none⟩ = some (.pointer (some p))) :
    ∃ r cap' w5, (Builtin.append_ #[57, 57] 57 #[.slice (some ⟨b, 0, none⟩) m cap, .slice (some ⟨x, 0, none⟩) 1 1]).run Try.prog W = .ok (.slice (some ⟨r, 0, none⟩) (m + 1) cap') w5 ∧ Appended W (some ⟨b, 0, none⟩) m ps p r cap' w5 := by
  obtain ⟨i8, h8, z8, s8, b8⟩ := info_parts Try.info58
  have hcell : W.cell? ⟨b, m, none⟩ = cs[m]? := hB.cell m
  rw [List.getElem?_eq_getElem (by omega)] at hcell
  have hrun := run_append_room_cells (P := Try.prog) W 57 57 58 i8 Try.underlying57 h8 b 0 m cap ⟨x, 0, none⟩ 1 1 [.pointer (some p)] (by rw [s8]; rfl) (one_new hx) (one_cell p) hroom
    (by intro j hj; obtain rfl : j = 0 := by simpa using hj
        rw [s8, show 0 + m * 1 + 0 = m by omega, hcell]; rfl)
    (by intro j hj; exact hB.frozen _)
  rw [s8, show 0 + m * 1 = m by omega, show W.setCells b m [Value.pointer (some p)] = W.setCell ⟨b, m, none⟩ (.pointer (some p)) from rfl] at hrun
  have hset := hB.set m (.pointer (some p))
  have htake : (cs.set m (.pointer (some p))).take (m + 1) = ps ++ [.pointer (some p)] := by
    rw [← htk, List.take_set, List.take_succ_eq_append_getElem (by omega), List.set_append_right _ _ (by rw [List.length_take]; omega), List.length_take, Nat.min_eq_left (by omega), Nat.sub_self, List.set_cons_zero]
  refine ⟨b, cap, W.setCell ⟨b, m, none⟩ (.pointer (some p)), hrun, ?_⟩
  refine ⟨⟨by simp [hps], .inr ⟨b, cap, (cs.set m (.pointer (some p))).toArray, rfl, Nat.zero_le _, hset, hroom, hcap, by simp [hcl], ?_⟩⟩, .inl rfl, rfl, rfl, rfl, by simp [World.setCell], ?_⟩
  · rw [Nat.mul_one]
    exact htake
  · intro y hy hny
    exact Below.heap_setCell _ _ _ _ (fun e => hny (by rw [e]))

/-- ONE POINTER MORE ON A LIST OF THE CALENDAR: in its own array where there is room, else in a new one. -/
theorem append_row (W : World) (ao : Option Addr) (m cap x : Nat) (ps : List Value) (p : Addr) (hps : ps.length = m) (hm : m ≤ 10000) (hnone : ao = none → m = 0 ∧ cap = 0)
    (hsome : ∀ r, ao = some r → ∃ b cs, r = ⟨b, 0, none⟩ ∧ Blk W b cs 58 ∧ cs.length = cap ∧ cs.take m = ps) (hcap : cap ≤ maxLen) (hx : W.cell? ⟨x, 0, none⟩ = some (.pointer (some p))) :
    ∃ r cap' w5, (Builtin.append_ #[57, 57] 57 #[.slice ao m cap, .slice (some ⟨x, 0, none⟩) 1 1]).run Try.prog W = .ok (.slice (some ⟨r, 0, none⟩) (m + 1) cap') w5 ∧ Appended W ao m ps p r cap' w5 := by
  cases ao with
  | none =>
    obtain ⟨hm0, hc0⟩ := hnone rfl
    subst hm0; subst hc0
    obtain rfl : ps = [] := List.eq_nil_of_length_eq_zero hps
    exact append_nil W x p hx
  | some a =>
    obtain ⟨b, cs, rfl, hB, hcl, htk⟩ := hsome a rfl
    by_cases hroom : m + 1 ≤ cap
    · exact append_fits W b m cap x cs ps p hps hB hcl htk hroom hcap hx
    · exact append_grow W b m cap x cs ps p hps hm hB htk hroom hx

/-- What is known behind the append: the cells that the store and the loads still want, and what the store makes of it. -/
structure AddFinal (F : Nat → Prop) (w : World) (c h n : Nat) (L : List (Nat × Gp)) (k : Nat) (g : Gp) (r cap' m : Nat) (v : Value) (w5 : World) : Prop where
  cal : w5.cell? ⟨c, 4, none⟩ = some (.slice (some ⟨h, 0, none⟩) (2 * n) (2 * n))
  held : w5.cell? ⟨h, k, none⟩ = some v
  frz : w5.frozen? ⟨h, k, none⟩ = false
  fin : (∃ F' : Nat → Prop, CalAt F' (w5.setCell ⟨h, k, none⟩ (.slice (some ⟨r, 0, none⟩) (m + 1) cap')) c n (L ++ [(k, g)]) ∧ (∀ b, F' b → F b ∨ w.heap.size ≤ b) ∧ ∀ b, F b → F' b) ∧ Chg F w (w5.setCell ⟨h, k, none⟩ (.slice (some ⟨r, 0, none⟩) (m + 1) cap'))

theorem add_final {F : Nat → Prop} {w w4 w5 : World} {c h n : Nat} {ea : Option Addr} {vs : List Value} {L : List (Nat × Gp)} {k : Nat} {g : Gp} {v : Value} {ps : List Value} {ao : Option Addr} {m cap r cap' : Nat}
    (q : CalIn F w c h n ea vs L) (hQ : AddPre w w4 g) (hv : vs[k]? = some v) (hr : RowAt F w v (atNode L k) ps) (hva : v = .slice ao m cap) (hm : (atNode L k).length = m)
    (hA : Appended ((w4.alloc (.cells #[.pointer (some ⟨w.heap.size + 1 + 1, 0, none⟩), .int .u64 g.wd, .pointer (some ⟨w.heap.size + 3, 0, none⟩)] 63)).alloc (.cells #[.pointer (some ⟨w.heap.size + 4, 0, none⟩)] 58)).drew ao m ps ⟨w.heap.size + 4, 0, none⟩ r cap' w5) (hgok : g.ok) :
    AddFinal F w c h n L k g r cap' m (.slice ao m cap) w5 := by
  have hsz4 := hQ.size
  have hbt := below_two w4 (.cells #[.pointer (some ⟨w.heap.size + 1 + 1, 0, none⟩), .int .u64 g.wd, .pointer (some ⟨w.heap.size + 3, 0, none⟩)] 63) (.cells #[.pointer (some ⟨w.heap.size + 4, 0, none⟩)] 58)
  have hgrp : Blk ((w4.alloc (.cells #[.pointer (some ⟨w.heap.size + 1 + 1, 0, none⟩), .int .u64 g.wd, .pointer (some ⟨w.heap.size + 3, 0, none⟩)] 63)).alloc (.cells #[.pointer (some ⟨w.heap.size + 4, 0, none⟩)] 58)).drew (w.heap.size + 4) [.pointer (some ⟨w.heap.size + 1 + 1, 0, none⟩), .int .u64 g.wd, .pointer (some ⟨w.heap.size + 3, 0, none⟩)] 63 := by
    have := ((Blk.new w4 [.pointer (some ⟨w.heap.size + 1 + 1, 0, none⟩), .int .u64 g.wd, .pointer (some ⟨w.heap.size + 3, 0, none⟩)] 63).alloc (.cells #[.pointer (some ⟨w.heap.size + 4, 0, none⟩)] 58)).drew
    rw [hsz4] at this
    exact this
  have hszW : (((w4.alloc (.cells #[.pointer (some ⟨w.heap.size + 1 + 1, 0, none⟩), .int .u64 g.wd, .pointer (some ⟨w.heap.size + 3, 0, none⟩)] 63)).alloc (.cells #[.pointer (some ⟨w.heap.size + 4, 0, none⟩)] 58)).drew).heap.size = w.heap.size + 6 := by simp; omega
  generalize ((w4.alloc (.cells #[.pointer (some ⟨w.heap.size + 1 + 1, 0, none⟩), .int .u64 g.wd, .pointer (some ⟨w.heap.size + 3, 0, none⟩)] 63)).alloc (.cells #[.pointer (some ⟨w.heap.size + 4, 0, none⟩)] 58)).drew = W at *
  have hBW : Below w.heap.size w W := hQ.below.trans (hbt.mono (by omega))
  have hrow : ∀ b, ao = some ⟨b, 0, none⟩ → b < w.heap.size ∧ ∃ cs, Blk w b cs 58 := by
    intro b hb
    have hob : v.ownBlock = some b := by rw [hva, hb]; rfl
    exact ⟨q.old b (hr.foot b hob), own_blk hr.own hob⟩
  have hnrow : ∀ b cs t, Blk w b cs t → t ≠ 58 → ao ≠ some ⟨b, 0, none⟩ := by
    intro b cs t hb ht e
    obtain ⟨_, cs', hb'⟩ := hrow b e
    exact hb.ne hb' ht rfl
  have hW5 : ∀ b, b < W.heap.size → ao ≠ some ⟨b, 0, none⟩ → w5.heap[b]? = W.heap[b]? := fun b hb hn => hA.chg.block b hb hn
  have hc5 : Blk w5 c _ 49 := (hW5 c (by have := q.old c q.fc; omega) (hnrow c _ _ q.cal (by decide))).trans (q.cal.below hBW (q.old c q.fc))
  have hh5 : Blk w5 h vs 57 := (hW5 h (by have := q.old h q.fh; omega) (hnrow h _ _ q.held (by decide))).trans (q.held.below hBW (q.old h q.fh))
  have hnew : ∀ b, w.heap.size ≤ b → ao ≠ some ⟨b, 0, none⟩ := fun b hb e => by have := (hrow b e).1; omega
  have hd5 := (hW5 _ (by omega) (hnew (w.heap.size + 1 + 1) (by omega))).trans (hQ.dates.below hbt (by omega))
  have hm5 := (hW5 _ (by omega) (hnew (w.heap.size + 3) (by omega))).trans (hQ.mins.below hbt (by omega))
  have hg5 := (hW5 _ (by omega) (hnew (w.heap.size + 4) (by omega))).trans hgrp
  have hsz5 := hA.chg.size
  have hkl : k < vs.length := (List.getElem?_eq_some_iff.1 hv).1
  have hrh : r ≠ h := by
    intro e
    rcases hA.blk with hb | hb
    · rw [e] at hb; exact hnrow h _ _ q.held (by decide) hb
    · have := q.old h q.fh; omega
  refine ⟨hc5.cell 4, by rw [hh5.cell k, hv, hva], hh5.frozen k, ?_⟩
  have hsame : ∀ b, b < w.heap.size → b ≠ h → v.ownBlock ≠ some b → (w5.setCell ⟨h, k, none⟩ (.slice (some ⟨r, 0, none⟩) (m + 1) cap')).heap[b]? = w.heap[b]? := by
    intro b hb hbh hvb
    rw [Below.heap_setCell _ _ _ _ hbh, hW5 b (by omega) (fun e => hvb (by rw [hva, e]; rfl)), hBW.block b hb]
  have hszf : (w5.setCell ⟨h, k, none⟩ (.slice (some ⟨r, 0, none⟩) (m + 1) cap')).heap.size = w5.heap.size := by simp [World.setCell]
  refine ⟨⟨fun b => F b ∨ (w.heap.size ≤ b ∧ b < (w5.setCell ⟨h, k, none⟩ (.slice (some ⟨r, 0, none⟩) (m + 1) cap')).heap.size), ⟨h, ea, _, q.added k v (.slice (some ⟨r, 0, none⟩) (m + 1) cap') ps (.pointer (some ⟨w.heap.size + 4, 0, none⟩)) g hv hr (hh5.set k _) ?_ ?_ ?_ hsame (by omega)⟩, ?_, fun b hb => .inl hb⟩, ?_⟩
  · rw [hm]
    refine own_keep hA.own (fun b hb => ?_)
    simp only [Value.ownBlock, Option.some.injEq] at hb
    subst hb
    exact Below.heap_setCell _ _ _ _ hrh
  · intro b hb
    simp only [Value.ownBlock, Option.some.injEq] at hb
    subst hb
    rcases hA.blk with hb | hb
    · left; rw [hva, hb]; rfl
    · right; exact ⟨by omega, by omega⟩
  · have ne : ∀ x cs t, Blk w5 x cs t → t ≠ 57 → Blk (w5.setCell ⟨h, k, none⟩ (.slice (some ⟨r, 0, none⟩) (m + 1) cap')) x cs t := fun x cs t hx ht => hx.other _ _ (hx.ne hh5 ht)
    exact ⟨w.heap.size + 4, w.heap.size + 1 + 1, w.heap.size + 3, rfl, by omega, by omega, by omega, ne _ _ _ hg5 (by decide), ne _ _ _ hd5 (by decide), ne _ _ _ hm5 (by decide), hgok⟩
  · rintro b (hb | hb)
    · exact .inl hb
    · exact .inr hb.1
  · refine ⟨hA.chg.os.trans hBW.os, hA.chg.tape.trans hBW.tape, hA.chg.output.trans hBW.output, by have := hBW.size; omega, fun b hb hn => hsame b hb (fun e => hn (by rw [e]; exact q.fh)) (fun e => hn (hr.foot b e))⟩

set_option maxHeartbeats 1000000 in
set_option maxRecDepth 100000 in
theorem add_any (F : Nat → Prop) (c n : Nat) (L : List (Nat × Gp)) (k : Nat) (g : Gp) (w : World) (hC : CalAt F w c n L) (hk : k < 2 * n) (hg : g.ok) (_hn : n ≤ 65536) (hL : L.length ≤ 10000) :
    Calls Try.prog 14 #[.pointer (some ⟨c, 0, none⟩), .int .i64 k, .agg (g.months.map (Value.int .u64)).toArray, .int .u64 g.wd, .agg (g.mins.map (Value.int .u64)).toArray] w fun e w' =>
      e = .returned (.tuple #[]) ∧ (∃ F' : Nat → Prop, CalAt F' w' c n (L ++ [(k, g)]) ∧ (∀ b, F' b → F b ∨ w.heap.size ≤ b) ∧ ∀ b, F b → F' b) ∧ Chg F w w' := by
  have hml := hg.hm
  have hsl := hg.hs
  go_enter Try.func14, Try.ntmps14
  go_wp2_with fail
  go_loopw [15] (fun i wr => ∃ j : Nat, j ≤ 12 ∧ i = .int .i64 j ∧ Blk wr (w.heap.size + 1 + 1) (filled g.months j) 55 ∧ Blk wr w.heap.size (g.months.map (Value.int .u64)) 31 ∧ Blk wr (w.heap.size + 1) (g.mins.map (Value.int .u64)) 32 ∧ wr.heap.size = w.heap.size + 3 ∧ Below w.heap.size w wr)
    (fun i _ => 12 - (intOf i).toNat)
  case atStart => exact ⟨0, Nat.zero_le _, rfl, start_blk g w⟩
  case round =>
    obtain ⟨j, hj, rfl, hb55, hb31, hb32, hsz, hbel⟩ := hrel
    by_cases hlt : j < 12
    · have hcm := hb31.cell j
      rw [List.getElem?_map, List.getElem?_eq_getElem (show j < g.months.length by omega), Option.map_some] at hcm
      have hcd := hb55.cell j
      obtain ⟨u, hu⟩ : ∃ u, (filled g.months j)[j]? = some u := ⟨_, List.getElem?_eq_getElem (by rw [filled_len _ _ hml hj]; omega)⟩
      rw [hu] at hcd
      have hfd := hb55.frozen j
      have hx : g.months[j]'(by omega) = g.months.getD j 0 := by simp [List.getElem?_eq_getElem (show j < g.months.length by omega)]
      rw [hx] at hcm
      have HS := hb55.set j (.int .u64 (g.months.getD j 0))
      rw [filled_step g.months j hml hlt] at HS
      have HS' : Hid (Blk (wr.setCell ⟨w.heap.size + 1 + 1, j, none⟩ (.int .u64 (g.months.getD j 0))) (w.heap.size + 1 + 1) (filled g.months (j + 1)) 55) := HS
      have HR : Hid (Blk wr w.heap.size (g.months.map (Value.int .u64)) 31 ∧ Blk wr (w.heap.size + 1) (g.mins.map (Value.int .u64)) 32 ∧ wr.heap.size = w.heap.size + 3 ∧ Below w.heap.size w wr) := ⟨hb31, hb32, hsz, hbel⟩
      clear hu hx HS hb55 hb31 hb32 hsz hbel
      generalize g.months.getD j 0 = x at *
      go_wp2_with fail
      go_region
      all_goals
        go_wp2
        go_roundw
        case rel =>
          obtain ⟨h1, h2, h3, h4⟩ := HR.out
          exact ⟨j + 1, by omega, by go_num, HS'.out.drew, (h1.other _ _ (by simp; omega)).drew, (h2.other _ _ (by simp)).drew, by simp [World.setCell]; exact h3, (h4.setCell (by simp; omega) _).drew⟩
        case measure => simp [intOf]; omega
    · obtain rfl : j = 12 := by omega
      rw [filled_end _ hml] at hb55
      have hr32 := hb32.range
      have hi32 : (Try.prog.info? 32).map (·.size) = some (g.mins.map (Value.int .u64)).length := by rw [List.length_map, hsl]; kernel_rfl
      have hi56 : (Try.prog.info? 56).map (·.size) = some (g.mins.map (Value.int .u64)).length := by rw [List.length_map, hsl]; kernel_rfl
      have H32 : Hid (wr.rangeAt (w.heap.size + 1) 0 (g.mins.map (Value.int .u64)) ∧ (Try.prog.info? 32).map (·.size) = some (g.mins.map (Value.int .u64)).length) := ⟨hr32, hi32⟩
      have H56 : Hid ((Try.prog.info? 56).map (·.size) = some (g.mins.map (Value.int .u64)).length) := hi56
      have HR : Hid (Blk wr (w.heap.size + 1 + 1) (g.months.map (Value.int .u64) ++ [.string ByteArray.empty]) 55 ∧ Blk wr (w.heap.size + 1) (g.mins.map (Value.int .u64)) 32 ∧ wr.heap.size = w.heap.size + 3 ∧ Below w.heap.size w wr) := ⟨hb55, hb32, hsz, hbel⟩
      clear hb55 hb31 hb32 hbel hr32 hi32 hi56
      have HZ : Hid (Blk (wr.alloc (.cells #[.int .u64 0, .int .u64 0, .int .u64 0, .int .u64 0, .int .u64 0, .int .u64 0, .int .u64 0, .int .u64 0, .int .u64 0, .int .u64 0, .int .u64 0, .int .u64 0, .int .u64 0, .int .u64 0, .int .u64 0, .int .u64 0, .int .u64 0, .int .u64 0, .int .u64 0, .int .u64 0, .int .u64 0, .int .u64 0, .int .u64 0] 56)) (w.heap.size + 3) [.int .u64 0, .int .u64 0, .int .u64 0, .int .u64 0, .int .u64 0, .int .u64 0, .int .u64 0, .int .u64 0, .int .u64 0, .int .u64 0, .int .u64 0, .int .u64 0, .int .u64 0, .int .u64 0, .int .u64 0, .int .u64 0, .int .u64 0, .int .u64 0, .int .u64 0, .int .u64 0, .int .u64 0, .int .u64 0, .int .u64 0] 56) := by
        have := Blk.new wr [.int .u64 0, .int .u64 0, .int .u64 0, .int .u64 0, .int .u64 0, .int .u64 0, .int .u64 0, .int .u64 0, .int .u64 0, .int .u64 0, .int .u64 0, .int .u64 0, .int .u64 0, .int .u64 0, .int .u64 0, .int .u64 0, .int .u64 0, .int .u64 0, .int .u64 0, .int .u64 0, .int .u64 0, .int .u64 0, .int .u64 0] 56
        rw [hsz] at this
        exact this
      have HL : Hid (([.int .u64 0, .int .u64 0, .int .u64 0, .int .u64 0, .int .u64 0, .int .u64 0, .int .u64 0, .int .u64 0, .int .u64 0, .int .u64 0, .int .u64 0, .int .u64 0, .int .u64 0, .int .u64 0, .int .u64 0, .int .u64 0, .int .u64 0, .int .u64 0, .int .u64 0, .int .u64 0, .int .u64 0, .int .u64 0, .int .u64 0] : List Value).length = (g.mins.map (Value.int .u64)).length ∧ ∀ v ∈ g.mins.map (Value.int .u64), v.oneCell' = true) := by
        refine ⟨by rw [List.length_map, hsl]; rfl, fun v hv => ?_⟩
        obtain ⟨x, _, rfl⟩ := List.mem_map.1 hv
        rfl
      go_wp2_with (first | (refine wpList_load_mid rfl 32 (.tmp 9) rfl _ _ rfl _ _ H32.out.1 Try.underlying32 rfl H32.out.2 ?_) | (refine wpList_store_put rfl 56 (.tmp 12) (.tmp 27) rfl (w.heap.size + 3) 56 [.int .u64 0, .int .u64 0, .int .u64 0, .int .u64 0, .int .u64 0, .int .u64 0, .int .u64 0, .int .u64 0, .int .u64 0, .int .u64 0, .int .u64 0, .int .u64 0, .int .u64 0, .int .u64 0, .int .u64 0, .int .u64 0, .int .u64 0, .int .u64 0, .int .u64 0, .int .u64 0, .int .u64 0, .int .u64 0, .int .u64 0] (g.mins.map (Value.int .u64)) rfl rfl HZ.out H56.out HL.out.1 HL.out.2 ?_))
      intro w4 HP
      have HQ : Hid (AddPre w w4 g) := by
        obtain ⟨h1, h2, h3, h4⟩ := HR.out
        have hp := HP.out
        refine ⟨?_, hp.blk, by rw [hp.size]; simp; omega, ?_⟩
        · exact (hp.other _ (by omega)).trans (h1.alloc _)
        · have hb : Below w.heap.size wr w4 := ⟨hp.os, hp.tape, hp.output, by rw [hp.size]; simp, fun b hb => (hp.other b (by omega)).trans (Below.heap_alloc _ _ _ (by omega))⟩
          exact h4.trans hb
      clear HP HZ HL H32 H56 HR
      obtain ⟨h, ea, vs, q⟩ := hC
      obtain ⟨v, hv⟩ : ∃ v, vs[k]? = some v := ⟨_, List.getElem?_eq_getElem (by rw [q.len]; exact hk)⟩
      obtain ⟨ps, hr⟩ := q.rows k v hv
      obtain ⟨ao, cap, hva, hcapm, hnone, hsome⟩ := row_shape hr
      have hcal4 := q.cal.below HQ.out.below (q.old c q.fc)
      have hheld4 := q.held.below HQ.out.below (q.old h q.fh)
      have s1 := hcal4.cell 4
      have s2 := hheld4.cell k
      have s3 := hheld4.frozen k
      rw [hv, hva] at s2
      have hml2 : (atNode L k).length ≤ 10000 := Nat.le_trans (by unfold atNode; rw [List.length_map]; exact List.length_filter_le _ _) hL
      have s1' : w4.cell? ⟨c, 4, none⟩ = some (.slice (some ⟨h, 0, none⟩) (2 * n) (2 * n)) := s1
      have hsz4 := HQ.out.size
      clear s1 hcal4 hheld4 hsz
      obtain ⟨m, hm⟩ : ∃ m, (atNode L k).length = m := ⟨_, rfl⟩
      rw [hm] at s2 hva hnone hsome hml2
      have hps : ps.length = m := by have := hr.own.1; omega
      have hx5 : ((w4.alloc (.cells #[.pointer (some ⟨w.heap.size + 1 + 1, 0, none⟩), .int .u64 g.wd, .pointer (some ⟨w.heap.size + 3, 0, none⟩)] 63)).alloc (.cells #[.pointer (some ⟨w.heap.size + 4, 0, none⟩)] 58)).drew.cell? ⟨w.heap.size + 4 + 1, 0, none⟩ = some (.pointer (some ⟨w.heap.size + 4, 0, none⟩)) := by
        have := (Blk.new (w4.alloc (.cells #[.pointer (some ⟨w.heap.size + 1 + 1, 0, none⟩), .int .u64 g.wd, .pointer (some ⟨w.heap.size + 3, 0, none⟩)] 63)) [Value.pointer (some ⟨w.heap.size + 4, 0, none⟩)] 58).drew.cell 0
        rw [World.size_alloc, hsz4] at this
        exact this
      have hbt := below_two w4 (.cells #[.pointer (some ⟨w.heap.size + 1 + 1, 0, none⟩), .int .u64 g.wd, .pointer (some ⟨w.heap.size + 3, 0, none⟩)] 63) (.cells #[.pointer (some ⟨w.heap.size + 4, 0, none⟩)] 58)
      obtain ⟨r, cap', w5, hrun, hA⟩ := append_row ((w4.alloc (.cells #[.pointer (some ⟨w.heap.size + 1 + 1, 0, none⟩), .int .u64 g.wd, .pointer (some ⟨w.heap.size + 3, 0, none⟩)] 63)).alloc (.cells #[.pointer (some ⟨w.heap.size + 4, 0, none⟩)] 58)).drew ao m cap (w.heap.size + 4 + 1) ps ⟨w.heap.size + 4, 0, none⟩ hps hml2 hnone
        (by
          intro a ha
          obtain ⟨b, cs, h1, h2, h3, h4, _, h6⟩ := hsome a ha
          exact ⟨b, cs, h1, (h2.below HQ.out.below (q.old b h6)).below hbt (by have := q.old b h6; omega), h3, h4⟩) hcapm hx5
      have hA1 : ∀ o, (w4.alloc o).cell? ⟨h, k, none⟩ = some (.slice ao m cap) := fun o => ((below_one w4 o).cell (World.block_lt_of_cell? w4 _ s2)).trans s2
      have hA2 : ∀ o o', ((w4.alloc o).alloc o').cell? ⟨h, k, none⟩ = some (.slice ao m cap) := fun o o' => ((below_two w4 o o').cell (World.block_lt_of_cell? w4 _ s2)).trans s2
      have hB1 : ∀ o, (w4.alloc o).cell? ⟨c, 4, none⟩ = some (.slice (some ⟨h, 0, none⟩) (2 * n) (2 * n)) := fun o => ((below_one w4 o).cell (World.block_lt_of_cell? w4 _ s1')).trans s1'
      have hB2 : ∀ o o', ((w4.alloc o).alloc o').cell? ⟨c, 4, none⟩ = some (.slice (some ⟨h, 0, none⟩) (2 * n) (2 * n)) := fun o o' => ((below_two w4 o o').cell (World.block_lt_of_cell? w4 _ s1')).trans s1'
      have HF := add_final q HQ.out hv hr hva hm hA hg
      have s5c := HF.cal
      have s5h := HF.held
      have s5f := HF.frz
      have HF' : Hid (AddFinal F w c h n L k g r cap' m (.slice ao m cap) w5) := HF
      clear hbt hx5 hA hv hr hva hm hnone hsome q hcapm hps HF HQ
      have hki : (k : Int) < 2 * (n : Int) := by omega
      have hki2 : (k : Int) < ((2 * n : Nat) : Int) := by omega
      go_wp2_with fail
      refine region_T (S := fun w' => w'.cell? ⟨c, 4, none⟩ = some (.slice (some ⟨h, 0, none⟩) (2 * n) (2 * n)) ∧ w'.cell? ⟨h, k, none⟩ = some (.slice ao m cap)) (last := 20) (by kernel_rfl) ?_
      have hS : w4.drew.cell? ⟨c, 4, none⟩ = some (.slice (some ⟨h, 0, none⟩) (2 * n) (2 * n)) ∧ w4.drew.cell? ⟨h, k, none⟩ = some (.slice ao m cap) := ⟨s1', s2⟩
      refine anyT_take (i := 0) (v := ?_) rfl (by kernel_rfl) (by kernel_rfl) (by kernel_rfl) (by kernel_rfl) (by decide) (fun _ _ _ h => h) (Or.inl ⟨by rfl, ?_⟩) hS ?_
      rotate_left
      · intro wx hSx
        obtain ⟨q1, q2⟩ := hSx
        go_simp
        all_goals with_reducible rfl
      simp only [Act.put]
      refine anyT_take (i := 1) (v := ?_) rfl (by kernel_rfl) (by kernel_rfl) (by kernel_rfl) (by kernel_rfl) (by decide) (fun _ _ _ h => h) (Or.inl ⟨by rfl, ?_⟩) hS ?_
      rotate_left
      · intro wx hSx
        obtain ⟨q1, q2⟩ := hSx
        go_simp
        all_goals with_reducible rfl
      simp only [Act.put]
      refine anyT_take (i := 2) (v := ?_) rfl (by kernel_rfl) (by kernel_rfl) (by kernel_rfl) (by kernel_rfl) (by decide) (fun _ _ _ h => h) (Or.inl ⟨by rfl, ?_⟩) hS ?_
      rotate_left
      · intro wx hSx
        obtain ⟨q1, q2⟩ := hSx
        go_simp
        all_goals with_reducible rfl
      simp only [Act.put]
      refine anyT_take (i := 3) (v := ?_) rfl (by kernel_rfl) (by kernel_rfl) (by kernel_rfl) (by kernel_rfl) (by decide) (fun _ _ _ h => h) (Or.inl ⟨by rfl, ?_⟩) hS ?_
      rotate_left
      · intro wx hSx
        obtain ⟨q1, q2⟩ := hSx
        go_simp
        all_goals with_reducible rfl
      simp only [Act.put]
      refine anyT_take (i := 4) (v := ?_) rfl (by kernel_rfl) (by kernel_rfl) (by kernel_rfl) (by kernel_rfl) (by decide) (fun _ _ _ h => h) (Or.inl ⟨by rfl, ?_⟩) hS ?_
      rotate_left
      · intro wx hSx
        obtain ⟨q1, q2⟩ := hSx
        go_simp
        all_goals with_reducible rfl
      simp only [Act.put]
      refine anyT_take (i := 5) (v := ?_) rfl (by kernel_rfl) (by kernel_rfl) (by kernel_rfl) (by kernel_rfl) (by decide) (fun _ _ _ h => h) (Or.inl ⟨by rfl, ?_⟩) hS ?_
      rotate_left
      · intro wx hSx
        obtain ⟨q1, q2⟩ := hSx
        go_simp
        all_goals with_reducible rfl
      simp only [Act.put]
      refine anyT_take (i := 6) (v := ?_) rfl (by kernel_rfl) (by kernel_rfl) (by kernel_rfl) (by kernel_rfl) (by decide) (fun _ _ _ h => h) (Or.inl ⟨by rfl, ?_⟩) hS ?_
      rotate_left
      · intro wx hSx
        obtain ⟨q1, q2⟩ := hSx
        go_simp
        all_goals with_reducible rfl
      simp only [Act.put]
      refine anyT_take (i := 7) (v := ?_) rfl (by kernel_rfl) (by kernel_rfl) (by kernel_rfl) (by kernel_rfl) (by decide) (fun _ _ _ h => h) (Or.inl ⟨by rfl, ?_⟩) hS ?_
      rotate_left
      · intro wx hSx
        obtain ⟨q1, q2⟩ := hSx
        go_simp
        all_goals with_reducible rfl
      simp only [Act.put]
      refine anyT_take (i := 8) (v := ?_) rfl (by kernel_rfl) (by kernel_rfl) (by kernel_rfl) (by kernel_rfl) (by decide) (fun _ _ _ h => h) (Or.inl ⟨by rfl, ?_⟩) hS ?_
      rotate_left
      · intro wx hSx
        obtain ⟨q1, q2⟩ := hSx
        go_simp
        all_goals with_reducible rfl
      simp only [Act.put]
      refine anyT_take (i := 9) (v := ?_) rfl (by kernel_rfl) (by kernel_rfl) (by kernel_rfl) (by kernel_rfl) (by decide) (fun _ _ _ h => h) (Or.inl ⟨by rfl, ?_⟩) hS ?_
      rotate_left
      · intro wx hSx
        obtain ⟨q1, q2⟩ := hSx
        go_simp
        all_goals with_reducible rfl
      simp only [Act.put]
      refine anyT_take (i := 10) (v := ?_) rfl (by kernel_rfl) (by kernel_rfl) (by kernel_rfl) (by kernel_rfl) (by decide) (fun _ _ _ h => h) (Or.inl ⟨by rfl, ?_⟩) hS ?_
      rotate_left
      · intro wx hSx
        obtain ⟨q1, q2⟩ := hSx
        go_simp
        all_goals with_reducible rfl
      simp only [Act.put]
      refine anyT_take (i := 11) (v := ?_) rfl (by kernel_rfl) (by kernel_rfl) (by kernel_rfl) (by kernel_rfl) (by decide) (fun _ _ _ h => h) (Or.inl ⟨by rfl, ?_⟩) hS ?_
      rotate_left
      · intro wx hSx
        obtain ⟨q1, q2⟩ := hSx
        go_simp
        all_goals with_reducible rfl
      simp only [Act.put]
      refine anyT_take (i := 12) (v := ?_) rfl (by kernel_rfl) (by kernel_rfl) (by kernel_rfl) (by kernel_rfl) (by decide) (fun _ _ _ h => h) (Or.inl ⟨by rfl, ?_⟩) hS ?_
      rotate_left
      · intro wx hSx
        obtain ⟨q1, q2⟩ := hSx
        go_simp
        all_goals with_reducible rfl
      simp only [Act.put]
      refine anyT_take (i := 13) (v := ?_) rfl (by kernel_rfl) (by kernel_rfl) (by kernel_rfl) (by kernel_rfl) (by decide) (fun _ _ _ h => h) (Or.inl ⟨by rfl, ?_⟩) hS ?_
      rotate_left
      · intro wx hSx
        obtain ⟨q1, q2⟩ := hSx
        go_simp
        all_goals with_reducible rfl
      simp only [Act.put]
      refine anyT_take (i := 14) (v := ?_) rfl (by kernel_rfl) (by kernel_rfl) (by kernel_rfl) (by kernel_rfl) (by decide) (fun _ _ _ h => h) (Or.inl ⟨by rfl, ?_⟩) hS ?_
      rotate_left
      · intro wx hSx
        obtain ⟨q1, q2⟩ := hSx
        go_simp
        all_goals with_reducible rfl
      simp only [Act.put]
      refine anyT_take (i := 15) (v := ?_) rfl (by kernel_rfl) (by kernel_rfl) (by kernel_rfl) (by kernel_rfl) (by decide) (fun _ _ _ h => h) (Or.inl ⟨by rfl, ?_⟩) hS ?_
      rotate_left
      · intro wx hSx
        obtain ⟨q1, q2⟩ := hSx
        go_simp
        all_goals with_reducible rfl
      simp only [Act.put]
      refine anyT_one (i := 16) (by kernel_rfl) rfl (by rfl) (fun K hK => ?_)
      go_simp
      refine hK _ _ (fun _ => ⟨hB1 _, hA1 _⟩) ?_
      clear hK K
      refine anyT_one (i := 17) (by kernel_rfl) rfl (by rfl) (fun K hK => ?_)
      go_simp
      refine hK _ _ (fun _ => ⟨hB2 _ _, hA2 _ _⟩) ?_
      clear hK K
      refine anyT_one (i := 18) (by kernel_rfl) rfl (by rfl) (fun K hK => ?_)
      refine wp_append_run (.tmp 39) (.tmp 45) 57 rfl _ _ _ _ rfl rfl hrun ?_
      refine hK _ _ (fun _ => ⟨s5c, s5h⟩) ?_
      clear hK K
      simp only [Act.put]
      refine anyT_one (i := 19) (by kernel_rfl) rfl (by rfl) (fun K hK => ?_)
      go_simp
      refine hK _ _ (fun _ => ⟨s5c, s5h⟩) ?_
      clear hK K
      refine anyT_one (i := 20) (by kernel_rfl) rfl (by rfl) (fun K hK => ?_)
      go_simp
      refine hK _ _ (fun h => absurd rfl h) ?_
      clear hK K
      refine anyT_done (by kernel_rfl) ?_ _
      go_wp2
      go_end0
      exact ⟨rfl, HF'.out.fin⟩

end Go.Proofs.Qxb6615962a
