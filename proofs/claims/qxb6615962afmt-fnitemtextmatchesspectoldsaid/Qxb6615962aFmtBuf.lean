import Derived.Test.Qxb6615962aFmtRows
import Derived.WalkKit
import Derived.Below
import Derived.Laws.AppendOwn
import Derived.Lib.AppendStr
import Derived.Lib.OthersKept
import Derived.Deep.Draws
import Derived.ArgAppend
namespace Go.Proofs.Qxb6615962aFmt
open Go.RowKit

/-- The cells of a row of bytes. -/
def bc (bs : List UInt8) : List Value := bs.map fun b => Value.int .u8 b.toNat

theorem bc_len (bs : List UInt8) : (bc bs).length = bs.length := by simp [bc]
theorem bc_append (a b : List UInt8) : bc (a ++ b) = bc a ++ bc b := by simp [bc]

/-- The slice v, with no room behind its elements, holds the bytes bs, in a block from B on (a constant's bytes: the place behind them bears the run-time's mark). -/
def FullRow (B : Nat) (v : Value) (bs : List UInt8) (w : World) : Prop :=
  ∃ g cur fz, v = .slice (some ⟨g, 0, none⟩) bs.length bs.length ∧ B ≤ g ∧ w.heap[g]? = some (.cells cur 5 fz) ∧ cur.toList.take bs.length = bc bs

/-- The slice v owns a row of the bytes bs, in a block from B on, or is full. -/
def Buf (B : Nat) (v : Value) (bs : List UInt8) (w : World) : Prop := (w.ownsRow B 5 1 v bs.length (bc bs) ∨ FullRow B v bs w) ∧ B ≤ w.heap.size

/-- What an append to such a row leaves: whatever lay below B, and every block that is no row of bytes. -/
def Kp (B : Nat) (w w' : World) : Prop := Below B w w' ∧ Lib.OthersKept 5 none w w'

theorem Kp.refl (B : Nat) (w : World) : Kp B w w := ⟨Below.refl _ _, Lib.OthersKept.refl _ _ _⟩
theorem Kp.trans {B : Nat} {a b c : World} (h : Kp B a b) (k : Kp B b c) : Kp B a c := ⟨h.1.trans k.1, h.2.trans k.2⟩
theorem Kp.drew {B : Nat} {a b : World} (h : Kp B a b) : Kp B a b.drew := ⟨h.1.drew, h.2⟩
theorem Kp.drewN {B : Nat} {a b : World} (h : Kp B a b) (n : Nat) : Kp B a (b.drewN n) := ⟨⟨h.1.os, h.1.tape, h.1.output, h.1.size, h.1.block⟩, h.2⟩
theorem Kp.alloc {B : Nat} {a b : World} (h : Kp B a b) (hB : B ≤ b.heap.size) (o : Obj) : Kp B a (b.alloc o) := ⟨h.1.alloc hB o, h.2.alloc o⟩
/-- What leaves everything that lay leaves this. -/
theorem Kp.of_below {B : Nat} {w w' : World} (h : Below w.heap.size w w') (hB : B ≤ w.heap.size) : Kp B w w' :=
  ⟨h.mono hB, fun k o hk _ _ => by rw [h.block k (Array.getElem?_eq_some_iff.1 hk).1]; exact hk⟩

theorem Buf.below {B : Nat} {v : Value} {bs : List UInt8} {w w' : World} (h : Buf B v bs w) (hb : Below w.heap.size w w') : Buf B v bs w' := by
  refine ⟨?_, Nat.le_trans h.2 hb.size⟩
  rcases h.1 with h1 | ⟨g, cur, fz, hv, hg, hh, ht⟩
  · refine .inl (h1.kept (row := none) ⟨hb.os, hb.tape, hb.output, hb.size, fun k hk _ => hb.block k hk⟩ ?_)
    cases v.ownBlock with
    | none => exact .inl rfl
    | some k => exact .inr (by simp)
  · exact .inr ⟨g, cur, fz, hv, hg, (hb.block g (Array.getElem?_eq_some_iff.1 hh).1).trans hh, ht⟩
theorem Buf.alloc {B : Nat} {v : Value} {bs : List UInt8} {w : World} (h : Buf B v bs w) (o : Obj) : Buf B v bs (w.alloc o) := h.below ((Below.refl _ w).alloc (Nat.le_refl _) o)
theorem Buf.drew {B : Nat} {v : Value} {bs : List UInt8} {w : World} (h : Buf B v bs w) : Buf B v bs w.drew := h
theorem Buf.drewN {B : Nat} {v : Value} {bs : List UInt8} {w : World} (h : Buf B v bs w) (n : Nat) : Buf B v bs (w.drewN n) := h

/-- An append's growth, of a row of bytes. -/
theorem Kp.grown {B : Nat} {v : Value} {bs : List UInt8} {w w' : World} (h : w.ownsRow B 5 1 v bs.length (bc bs)) (hB : B ≤ w.heap.size) (hg : w.grownBy w' v.ownBlock) : Kp B w w' := by
  refine ⟨(Below.refl _ _).grown hg hB (fun k hk => (h.lt k hk).1), (Lib.OthersKept.refl _ _ _).grown hg ?_⟩
  intro g hg'
  rcases h.2 with ⟨hv, _⟩ | ⟨g', cap, cur, hv, _, hh, _⟩
  · subst hv; simp [Value.ownBlock] at hg'
  · subst hv
    simp only [Value.ownBlock, Option.some.injEq] at hg'
    subst hg'
    exact ⟨_, _, hh⟩

theorem Kp.fresh {B : Nat} {w w' : World} (hB : B ≤ w.heap.size) (hg : w.grownBy w' none) : Kp B w w' :=
  Kp.of_below ⟨hg.os, hg.tape, hg.output, hg.size, fun k hk => hg.block k hk (by simp)⟩ hB

theorem ownsRow_base {w : World} {b b' : Nat} {e : TypeId} {size : Nat} {v : Value} {n : Nat} {xs : List Value} (h : w.ownsRow b e size v n xs) (hb : b' ≤ b) : w.ownsRow b' e size v n xs := by
  obtain ⟨h1, h2 | ⟨g, cap, cur, hv, hg, r⟩⟩ := h
  · exact ⟨h1, .inl h2⟩
  · exact ⟨h1, .inr ⟨g, cap, cur, hv, Nat.le_trans hb hg, r⟩⟩

theorem FullRow.cells {B : Nat} {bs : List UInt8} {w : World} {g : Nat} {cur : Array Value} {fz : Nat × Nat} (hh : w.heap[g]? = some (.cells cur 5 fz)) (ht : cur.toList.take bs.length = bc bs) : B = B ∧ ∀ j u, (bc bs)[j]? = some u → w.cell? ((⟨g, 0, none⟩ : Addr).add j) = some u := by
  refine ⟨rfl, fun j u hj => ?_⟩
  rw [show (⟨g, 0, none⟩ : Addr).add j = ⟨g, j, none⟩ by simp [Addr.add]; omega]
  simp only [World.cell?, hh]
  have hjl : j < bs.length := by have := (List.getElem?_eq_some_iff.1 hj).1; rwa [bc_len] at this
  rw [← Array.getElem?_toList, ← List.getElem?_take_of_lt hjl, ht]
  exact hj

theorem info5 : (Tryf.prog.info? 5).map (fun i => (i.zero, i.size, i.bytes)) = some (some (.int .u8 0), 1, 1) := by kernel_rfl

section
variable {ops : Array Oper} {rest : List Oper} {o : Oper} {a : Act} {Q : Exit → Act → World → Prop}

/-- append(out, c, ..): the new bytes lie in the block that the statement has just laid. -/
theorem wpList_app_bytes (hgd : o.guard = none) (s x : Operand) (ho : o.op = .call { callee := .builtin .append, args := #[s, x], argTypes := #[36, 36] })
    (B : Nat) (v : Value) (bs news : List UInt8) (w0 : World) (hs : a.eval s = v) (hb : Buf B v bs w0) (cs : Array Value) (hcs : cs.toList = bc news)
    (hx : a.eval x = .slice (some ⟨w0.heap.size, 0, none⟩) news.length news.length) (hlen : bs.length + news.length ≤ 140737488355328)
    (h : ∀ v' w', Buf B v' (bs ++ news) w' → Kp B w0 w' → wpList Tryf.prog ops Q rest (a.put o.dst v') w') (h0 : 0 < news.length := by first | decide | exact Nat.zero_lt_succ _) : wpList Tryf.prog ops Q (o :: rest) a (w0.alloc (.cells cs 5)) := by
  obtain ⟨i0, hi, hz0, hz1, hz2⟩ := info_parts info5
  have hb' := hb.alloc (.cells cs 5)
  have hnews : ∀ j u, (bc news)[j]? = some u → (w0.alloc (.cells cs 5)).cell? ((⟨w0.heap.size, 0, none⟩ : Addr).add j) = some u := by
    intro j u hj
    have hj' : cs[j]? = some u := by rw [← Array.getElem?_toList, hcs]; exact hj
    have hnew : (w0.alloc (.cells cs 5)).heap[w0.heap.size]? = some (.cells cs 5) := heap_alloc_new w0 _
    rw [show (⟨w0.heap.size, 0, none⟩ : Addr).add j = ⟨w0.heap.size, j, none⟩ by simp [Addr.add]; omega]
    simp only [World.cell?, hnew]
    exact hj'
  rcases hb'.1 with hb1 | ⟨g, cur, fz, hv, hg, hh, ht⟩
  · refine wpList_append_own _ hgd s x 36 ho B 5 i0 (.int .u8 0) 1 1 Tryf.underlying36 hi hz0 hz1 hz2 rfl (by decide) v bs.length (bc bs) hs hb1 ⟨w0.heap.size, 0, none⟩ news.length news.length (bc news) hx (by rw [bc_len, Nat.mul_one]) hnews ?_ (by unfold maxLen; omega) (by omega) hb'.2 ?_
    · intro u hu
      simp only [bc, List.mem_map] at hu
      obtain ⟨b, _, rfl⟩ := hu
      rfl
    · intro v' w' ho' hg _
      refine h v' w' ⟨.inl (by rw [bc_append, List.length_append]; exact ho'), Nat.le_trans hb'.2 hg.size⟩ ?_
      exact ((Kp.refl B w0).alloc hb.2 _).trans (Kp.grown hb1 hb'.2 hg)
  · refine wpList_plain hgd fun K hK => ?_
    obtain ⟨v', w', hr, h2, h3⟩ := run_append_arg_grows (P := Tryf.prog) (w0.alloc (.cells cs 5)) 36 o.type 5 i0 (.int .u8 0) 1 1 Tryf.underlying36 hi hz0 hz1 hz2 rfl (by decide) ⟨g, 0, none⟩ bs.length bs.length (bc bs) (by rw [bc_len, Nat.mul_one]) (FullRow.cells (B := B) hh ht).2 ⟨w0.heap.size, 0, none⟩ news.length news.length (bc news) (by rw [bc_len, Nat.mul_one]) hnews (by omega) (by unfold maxLen; omega) (by omega)
    have hs' : a.eval s = .slice (some ⟨g, 0, none⟩) bs.length bs.length := by rw [hs, hv]
    unfold Oper.wp execOp
    simp only [ho, resolve, invoke, builtin, Sem.run_bind, Sem.run_pure, Result.andThen_ok, List.map_toArray, List.map_cons, List.map_nil, hs', hx, hr]
    refine hK _ _ (h v' w' ⟨.inl ?_, Nat.le_trans hb'.2 h3.size⟩ (((Kp.refl B w0).alloc hb.2 _).trans (Kp.fresh hb'.2 h3)))
    rw [bc_append, List.length_append]
    exact ownsRow_base h2 hb'.2

/-- append(out, "..."...). -/
theorem wpList_app_str {w : World} (hgd : o.guard = none) (s x : Operand) (ho : o.op = .call { callee := .builtin .append, args := #[s, x], argTypes := #[36, 9] })
    (B : Nat) (v : Value) (bs : List UInt8) (hs : a.eval s = v) (hb : Buf B v bs w) (t : ByteArray) (hx : a.eval x = .string t) (hlen : bs.length + t.data.toList.length ≤ 140737488355328)
    (h : ∀ v' w', Buf B v' (bs ++ t.data.toList) w' → Kp B w w' → wpList Tryf.prog ops Q rest (a.put o.dst v') w') (h0 : 0 < t.data.toList.length := by first | decide | exact Nat.zero_lt_succ _) : wpList Tryf.prog ops Q (o :: rest) a w := by
  obtain ⟨i0, hi, hz0, hz1, hz2⟩ := info_parts info5
  have ht : t.size = t.data.toList.length := by rw [Array.length_toList]; rfl
  rcases hb.1 with hb1 | ⟨g, cur, fz, hv, hg, hh, htk⟩
  · refine Lib.wpList_append_own_string w hgd s x 36 9 ho B 5 i0 Tryf.underlying36 Tryf.underlying9 hi hz0 hz1 hz2 v bs.length (bc bs) hs hb1 t hx (by unfold maxLen; omega) (by omega) hb.2 ?_
    intro v' w' ho' hg _
    refine h v' w' ⟨.inl ?_, Nat.le_trans hb.2 hg.size⟩ (Kp.grown hb1 hb.2 hg)
    rw [bc_append, List.length_append, ← ht]
    exact ho'
  · refine wpList_plain hgd fun K hK => ?_
    have hr := Lib.run_append_grow_string (P := Tryf.prog) w 36 9 o.type 5 i0 (.int .u8 0) Tryf.underlying36 Tryf.underlying9 hi hz0 ⟨g, 0, none⟩ bs.length bs.length (bc bs) (by rw [bc_len, hz1, Nat.mul_one]) (FullRow.cells (B := B) hh htk).2 t (by omega) (by omega) (by rw [hz2]; exact growslice_fits (by omega) (by omega))
    have hge := grownCap_ge w (bs.length + t.size) bs.length 5
    have hcm : grownCap w (bs.length + t.size) bs.length 5 ≤ maxLen := grownCap_le_maxLen w _ _ 5 (by unfold maxLen; omega)
    have hs' : a.eval s = .slice (some ⟨g, 0, none⟩) bs.length bs.length := by rw [hs, hv]
    unfold Oper.wp execOp
    simp only [ho, resolve, invoke, builtin, Sem.run_bind, Sem.run_pure, Result.andThen_ok, List.map_toArray, List.map_cons, List.map_nil, hs', hx, hr]
    have hstr : (Lib.strCells t).length = t.size := by rw [ht]; exact List.length_map _
    refine hK _ _ (h _ _ ⟨.inl ⟨by rw [bc_len, Nat.mul_one], .inr ⟨w.heap.size, _, _, ?_, hb.2, heap_alloc_new w.drew _, ?_, hcm, ?_, ?_⟩⟩, ?_⟩ ?_)
    · rw [List.length_append, ← ht]
    · rw [List.length_append, ← ht]; exact hge
    · simp only [Array.size_append, List.size_toArray, bc_len, hstr, size_zeroCells]
      show bs.length + t.size + (grownCap w (bs.length + t.size) bs.length 5 - (bs.length + t.size)) * 1 = _
      omega
    · rw [List.length_append, Nat.mul_one, bc_append]
      have e : Lib.strCells t = bc t.data.toList := rfl
      rw [e]
      simp only [Array.toList_append, List.append_assoc]
      rw [← List.append_assoc, List.take_left' (by rw [List.length_append, bc_len, bc_len])]
    · show B ≤ (w.drew.alloc _).heap.size
      rw [World.size_alloc]
      exact Nat.le_succ_of_le hb.2
    · exact (((Kp.refl B w).drew).alloc hb.2 _)
end

/-- What a function that appends to its first argument hands back. -/
def Apps (B : Nat) (bs txt : List UInt8) (w : World) (e : Ending) (w' : World) : Prop := ∃ v', e = .returned v' ∧ Buf B v' (bs ++ txt) w' ∧ Kp B w w'

def two (n : Nat) : List UInt8 := [UInt8.ofNat (48 + n / 10), UInt8.ofNat (48 + n % 10)]

theorem bc_two (n : Nat) (hn : n < 100) : [Value.int IntKind.u8 (48 + (n : Int) / 10), Value.int IntKind.u8 (48 + (n : Int) % 10)] = bc (two n) := by
  have h1 : (UInt8.ofNat (48 + n / 10)).toNat = 48 + n / 10 := by
    rw [UInt8.toNat_ofNat']; omega
  have h2 : (UInt8.ofNat (48 + n % 10)).toNat = 48 + n % 10 := by
    rw [UInt8.toNat_ofNat']; omega
  simp only [bc, two, List.map_cons, List.map_nil, h1, h2]
  norm_cast

theorem two_any (n : Nat) (hn : n < 100) (B : Nat) (v : Value) (bs : List UInt8) (w : World) (hb : Buf B v bs w) (hlen : bs.length + 2 ≤ 140737488355328) :
    Calls Tryf.prog 18 #[v, .int .i64 n] w (Apps B bs (two n) w) := by
  go_enter Tryf.func18, Tryf.ntmps18
  go_wp2_with (at_builtin; refine wpList_app_bytes rfl _ _ rfl B v bs (two n) w rfl hb _ ?c1 rfl hlen ?_; rotate_left; intro v' w' hb' hk')
  case c1 => exact bc_two n hn
  go_ret
  exact ⟨_, rfl, hb', hk'⟩

def four (n : Nat) : List UInt8 := two (n / 100) ++ two (n % 100)
def clock (n : Nat) : List UInt8 := two (n / 60) ++ two (n % 60)

theorem four_any (n : Nat) (hn : n < 10000) (B : Nat) (v : Value) (bs : List UInt8) (w : World) (hb : Buf B v bs w) (hlen : bs.length + 4 ≤ 140737488355328) :
    Calls Tryf.prog 17 #[v, .int .i64 n] w (Apps B bs (four n) w) := by
  go_enter Tryf.func17, Tryf.ntmps17
  go_wp2_with fail
  rw [show (n : Int) / 100 = ((n / 100 : Nat) : Int) by omega]
  refine (two_any _ (by omega) B v bs w hb (by omega)).mono ?_
  rintro r w1 ⟨v1, rfl, hb1, hk1⟩
  go_wp2_with fail
  rw [show (n : Int) % 100 = ((n % 100 : Nat) : Int) by omega]
  refine (two_any _ (by omega) B v1 _ w1 hb1 (by simp [two]; omega)).mono ?_
  rintro r w2 ⟨v2, rfl, hb2, hk2⟩
  go_wp2
  go_ret
  exact ⟨_, rfl, by rw [List.append_assoc] at hb2; exact hb2, hk1.trans hk2⟩

theorem clock_any (n : Nat) (hn : n ≤ 1440) (B : Nat) (v : Value) (bs : List UInt8) (w : World) (hb : Buf B v bs w) (hlen : bs.length + 4 ≤ 140737488355328) :
    Calls Tryf.prog 13 #[v, .int .i64 n] w (Apps B bs (clock n) w) := by
  go_enter Tryf.func13, Tryf.ntmps13
  go_wp2_with fail
  rw [show (n : Int) / 60 = ((n / 60 : Nat) : Int) by omega]
  refine (two_any _ (by omega) B v bs w hb (by omega)).mono ?_
  rintro r w1 ⟨v1, rfl, hb1, hk1⟩
  go_wp2_with fail
  rw [show (n : Int) % 60 = ((n % 60 : Nat) : Int) by omega]
  refine (two_any _ (by omega) B v1 _ w1 hb1 (by simp [two]; omega)).mono ?_
  rintro r w2 ⟨v2, rfl, hb2, hk2⟩
  go_wp2
  go_ret
  exact ⟨_, rfl, by rw [List.append_assoc] at hb2; exact hb2, hk1.trans hk2⟩
end Go.Proofs.Qxb6615962aFmt
