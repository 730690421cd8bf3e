import Derived.Test.Qxb6615962aFmtRows
import Derived.WalkKit
import Derived.Below
import Derived.Laws.Rows
import Derived.Deep.MidRow
namespace Go.Proofs.Qxb6615962aFmt
open Go.RowKit

/-- Block b holds these cells, of that type, none of them frozen. -/
def Blk (w : World) (b : Nat) (cs : List Value) (t : TypeId) : Prop := w.heap[b]? = some (.cells cs.toArray t (0, 0))

theorem Blk.lt {w : World} {b : Nat} {cs : List Value} {t : TypeId} (h : Blk w b cs t) : b < w.heap.size := (Array.getElem?_eq_some_iff.1 h).1

theorem Blk.cell {w : World} {b : Nat} {cs : List Value} {t : TypeId} (h : Blk w b cs t) (k : Nat) : w.cell? ⟨b, k, none⟩ = cs[k]? := by
  rw [cell_of_row w b k _ t (0, 0) h]; simp

theorem Blk.frozen {w : World} {b : Nat} {cs : List Value} {t : TypeId} (h : Blk w b cs t) (k : Nat) : w.frozen? ⟨b, k, none⟩ = false := frozen_of_row w b k _ t h

theorem Blk.range {w : World} {b : Nat} {cs : List Value} {t : TypeId} (h : Blk w b cs t) : w.rangeAt b 0 cs := by
  intro j v hj
  rw [Nat.zero_add, h.cell, hj]

theorem Blk.set {w : World} {b : Nat} {cs : List Value} {t : TypeId} (h : Blk w b cs t) (k : Nat) (v : Value) : Blk (w.setCell ⟨b, k, none⟩ v) b (cs.set k v) t := by
  unfold Blk
  rw [heap_setCell_same w b k _ t v h]
  simp

theorem Blk.ne {w : World} {b b' : Nat} {cs cs' : List Value} {t t' : TypeId} (h : Blk w b cs t) (h' : Blk w b' cs' t') (ht : t ≠ t') : b ≠ b' := by
  intro e
  subst e
  unfold Blk at h h'
  rw [h] at h'
  simp only [Option.some.injEq, Obj.cells.injEq] at h'
  exact ht h'.2.1

/-- Of the blocks that were there none has turned but those of M. -/
structure Chg (M : Nat → Prop) (w w' : World) : Prop where
  os : w'.os = w.os
  tape : w'.tape = w.tape
  output : w'.output = w.output
  size : w.heap.size ≤ w'.heap.size
  block : ∀ b, b < w.heap.size → ¬ M b → w'.heap[b]? = w.heap[b]?

theorem Chg.refl (M : Nat → Prop) (w : World) : Chg M w w := ⟨rfl, rfl, rfl, Nat.le_refl _, fun _ _ _ => rfl⟩

theorem Chg.trans {M M' : Nat → Prop} {a b c : World} (h : Chg M a b) (k : Chg M' b c) (hM : ∀ x, x < a.heap.size → M' x → M x) : Chg M a c :=
  ⟨k.os.trans h.os, k.tape.trans h.tape, k.output.trans h.output, Nat.le_trans h.size k.size, fun x hx hn => (k.block x (Nat.lt_of_lt_of_le hx h.size) (fun e => hn (hM x hx e))).trans (h.block x hx hn)⟩

theorem Chg.of_below {M : Nat → Prop} {B : Nat} {w w' : World} (h : Below B w w') (hM : ∀ b, b < w.heap.size → B ≤ b → M b) : Chg M w w' :=
  ⟨h.os, h.tape, h.output, h.size, fun b hb hn => h.block b (by by_cases hbb : b < B; exact hbb; exact absurd (hM b hb (by omega)) hn)⟩

theorem Chg.below {M : Nat → Prop} {B : Nat} {w w' : World} (h : Chg M w w') (hB : B ≤ w.heap.size) (hM : ∀ b, M b → B ≤ b) : Below B w w' :=
  ⟨h.os, h.tape, h.output, h.size, fun b hb => h.block b (by omega) (fun e => by have := hM b e; omega)⟩

theorem Blk.chg {M : Nat → Prop} {w w' : World} {b : Nat} {cs : List Value} {t : TypeId} (h : Blk w b cs t) (hc : Chg M w w') (hn : ¬ M b) : Blk w' b cs t := (hc.block b h.lt hn).trans h

theorem Blk.below {B : Nat} {w w' : World} {b : Nat} {cs : List Value} {t : TypeId} (h : Blk w b cs t) (hc : Below B w w') (hn : b < B) : Blk w' b cs t := (hc.block b hn).trans h

theorem Blk.alloc {w : World} {b : Nat} {cs : List Value} {t : TypeId} (h : Blk w b cs t) (o : Obj) : Blk (w.alloc o) b cs t := (Below.heap_alloc w o b h.lt).trans h

theorem Blk.other {w : World} {b : Nat} {cs : List Value} {t : TypeId} (h : Blk w b cs t) (a : Addr) (u : Value) (hn : b ≠ a.block) : Blk (w.setCell a u) b cs t := (Below.heap_setCell w a u b hn).trans h

theorem Blk.drew {w : World} {b : Nat} {cs : List Value} {t : TypeId} (h : Blk w b cs t) : Blk w.drew b cs t := h

theorem Blk.new (w : World) (cs : List Value) (t : TypeId) : Blk (w.alloc (.cells cs.toArray t)) w.heap.size cs t := by
  show (w.heap.push _)[w.heap.size]? = _
  simp

theorem below_drop {B : Nat} {w w' : World} (h : Below w.heap.size w w') (hB : B ≤ w.heap.size) : Below B w w' := h.mono hB

/-- Cells that are there are as they were where only new memory was written. -/
theorem keep_cell {w w' : World} (h : Below w.heap.size w w') {p : Addr} {v : Value} (hv : w.cell? p = some v) : w'.cell? p = some v :=
  (h.cell (World.block_lt_of_cell? w p hv)).trans hv

def Tells (p : Prop) (e : Ending) : Prop := ∃ r : Bool, e = .returned (.bool r) ∧ (r = true → p)
theorem tells_no {p : Prop} : Tells p (.returned (.bool false)) := ⟨false, rfl, by simp⟩
theorem tells_yes {p : Prop} (h : p) : Tells p (.returned (.bool true)) := ⟨true, rfl, fun _ => h⟩

/-- What lies behind the store of a whole array into block g. -/
structure Put (w : World) (g : Nat) (cs : List Value) (t : TypeId) (w' : World) : Prop where
  blk : Blk w' g cs t
  size : w'.heap.size = w.heap.size
  os : w'.os = w.os
  tape : w'.tape = w.tape
  output : w'.output = w.output
  other : ∀ b, b ≠ g → w'.heap[b]? = w.heap[b]?

theorem wpList_store_put {P : Program} {ops : Array Oper} {rest : List Oper} {op : Oper} {a : Act} {w : World} {Q : Exit → Act → World → Prop} (hgd : op.guard = none) (ty : TypeId) (x y : Operand) (ho : op.op = .store ty x y)
    (g : Nat) (t : TypeId) (old cells : List Value) (hx : a.eval x = .pointer (some ⟨g, 0, none⟩)) (hy : a.eval y = .agg cells.toArray)
    (hg : Blk w g old t) (hi : (P.info? ty).map (·.size) = some cells.length) (hl : old.length = cells.length) (h1 : ∀ v ∈ cells, v.oneCell' = true)
    (h : ∀ w', Hid (Put w g cells t w') → wpList P ops Q rest (a.put op.dst undef) w') : wpList P ops Q (op :: rest) a w :=
  wpList_plain hgd fun _ hK => by
    unfold Oper.wp execOp
    simp only [ho, hx, hy, Instr.storeAt, Instr.sureAddr, Sem.run_bind, Sem.run_pure, Result.andThen_ok, run_storeVar_row (P := P) w g t ty old.toArray cells.toArray hg (by simpa using hi) (by simpa using hl) (all_oneCell_toArray h1)]
    refine hK _ _ (h _ ⟨setRow_heap w g _ _ t _ hg, by simp [World.setRow], rfl, rfl, rfl, fun b hb => setRow_other w g b _ (by omega)⟩)

end Go.Proofs.Qxb6615962aFmt
