import Derived.Test.Qxb6615962aFmtIter
import Derived.BigQuiet
namespace Go.Proofs.Qxb6615962aFmt
open Go.RowKit Go.Shelf

/-- Byte j of a string. -/
def byt (p : ByteArray) (j : Nat) : Nat := (p.data.toList.getD j 0).toNat
/-- The year in bytes j, j+1. -/
def yr (p : ByteArray) (j : Nat) : Nat := byt p j * 256 + byt p (j + 1)

theorem byt_lt (p : ByteArray) (j : Nat) : byt p j < 256 := UInt8.toNat_lt _

theorem index_str (p : ByteArray) (i : Int) (j : Nat) (hi : i = j) (h : j < p.size) (w : World) : (Instr.index 9 (.string p) (.int .i64 i)).run Tryf.prog w = .ok (.int .u8 (byt p j)) w := by
  subst hi
  rw [run_index_string w 9 p .i64 j Tryf.underlying9, dif_pos ⟨by omega, by omega⟩]
  have h2 : j < p.data.size := h
  simp only [byt, Int.toNat_natCast, List.getD, Array.getElem?_toList, Array.getElem?_eq_getElem h2, Option.getD_some]
  rfl

theorem byt_extract (p : ByteArray) (a b j : Nat) (hj : a + j < b) (hb : b ≤ p.size) : byt (p.extract a b) j = byt p (a + j) := by
  have h2 : b ≤ p.data.size := hb
  unfold byt
  congr 1
  simp only [List.getD, Array.getElem?_toList, ByteArray.data_extract]
  rw [Array.getElem?_extract, if_pos (by omega)]

theorem w64 (n : Int) (h : -9223372036854775808 ≤ n ∧ n ≤ 9223372036854775807) : wrap64 n = n := (IntWalk.i64_left n).symm.trans (IntWalk.i64_in n h)

theorem i64_or_nat (a b : Nat) (ha : a < 2 ^ 62) (hb : b < 2 ^ 62) : bits BinOp.or IntKind.i64 (a : Int) (b : Int) = ((a ||| b : Nat) : Int) := by
  have hx : a ||| b < 2 ^ 62 := Nat.or_lt_two_pow ha hb
  have h1 : (BitVec.ofInt 64 (a : Int)).toNat = a := by
    rw [BitVec.ofInt_natCast, BitVec.toNat_ofNat]; exact Nat.mod_eq_of_lt (by omega)
  have h2 : (BitVec.ofInt 64 (b : Int)).toNat = b := by
    rw [BitVec.ofInt_natCast, BitVec.toNat_ofNat]; exact Nat.mod_eq_of_lt (by omega)
  show IntKind.i64.wrap ((BitVec.ofInt 64 (a : Int) ||| BitVec.ofInt 64 (b : Int)).toNat : Int) = _
  rw [BitVec.toNat_or, h1, h2, IntKind.wrap_i64]
  omega

theorem or_form (x y : Nat) (hx : x < 256) (hy : y < 256) : bits BinOp.or IntKind.i64 (wrap64 (wrap64 (x : Int) * 256)) (wrap64 (y : Int)) = ((x * 256 + y : Nat) : Int) := by
  rw [w64 x ⟨by omega, by omega⟩, w64 y ⟨by omega, by omega⟩, w64 _ ⟨by omega, by omega⟩]
  have h := Nat.two_pow_add_eq_or_of_lt (i := 8) (b := y) (by omega) x
  rw [show (x : Int) * 256 = ((x * 256 : Nat) : Int) by omega, i64_or_nat _ _ (by omega) (by omega)]
  rw [show x * 256 = 2 ^ 8 * x by omega, h]

set_option maxRecDepth 100000 in
theorem run_year (p : ByteArray) (i : Nat) (hp : 4 * i + 4 ≤ p.size) (hs : p.size ≤ 524288) (w : World) :
    Calls Tryf.prog 40 #[.agg #[.string p], .int .i64 i] w fun e w' => e = .returned (.tuple #[.int .i64 (yr p (4 * i)), .int .i64 (yr p (4 * i + 2))]) ∧ Below w.heap.size w w' := by
  have h1 : (4 * (i : Int) + 4) ≤ (p.size : Int) := by omega
  have h2 : 4 * (i : Int) ≤ 4 * (i : Int) + 4 := by omega
  have h3 : 0 ≤ 4 * (i : Int) := by omega
  go_enter Tryf.func40, Tryf.ntmps40
  go_wp2_with fail
  have hq : ∀ j, j < 4 → byt (p.extract (4 * i) (4 * i + 4)) j = byt p (4 * i + j) := fun j hj => byt_extract p _ _ j (by omega) hp
  have hqs : (p.extract (4 * i) (4 * i + 4)).size = 4 := by
    rw [ByteArray.size_extract]; omega
  generalize p.extract (4 * i) (4 * i + 4) = q at *
  have HQ : Hid (∀ j, j < 4 → byt q j = byt p (4 * i + j)) := hq
  clear hq
  have x0 : ∀ w, (Instr.index 9 (.string q) (.int .i64 0)).run Tryf.prog w = .ok (.int .u8 (byt q 0)) w := index_str q 0 0 rfl (by omega)
  have x1 : ∀ w, (Instr.index 9 (.string q) (.int .i64 1)).run Tryf.prog w = .ok (.int .u8 (byt q 1)) w := index_str q 1 1 rfl (by omega)
  have x2 : ∀ w, (Instr.index 9 (.string q) (.int .i64 2)).run Tryf.prog w = .ok (.int .u8 (byt q 2)) w := index_str q 2 2 rfl (by omega)
  have x3 : ∀ w, (Instr.index 9 (.string q) (.int .i64 3)).run Tryf.prog w = .ok (.int .u8 (byt q 3)) w := index_str q 3 3 rfl (by omega)
  go_quiet (fail)
  go_wp2
  rw [or_form _ _ (byt_lt _ _) (byt_lt _ _), or_form _ _ (byt_lt _ _) (byt_lt _ _), HQ.out 0 (by omega), HQ.out 1 (by omega), HQ.out 2 (by omega), HQ.out 3 (by omega)]
  go_ret2
  exact ⟨rfl, by have h := (Below.refl w.heap.size w).alloc (Nat.le_refl _) (.cells #[.string p] 40); exact ⟨h.os, h.tape, h.output, h.size, h.block⟩⟩
end Go.Proofs.Qxb6615962aFmt
