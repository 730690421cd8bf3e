/- The contracts of strings.Builder's methods, strings.Join and strconv.Itoa, of the guide's shelf, laid at this program by the guide's own tool, in plain words. -/
import Derived.Shelf.Strings.OnBuilder
import Derived.Shelf.Strings.BuilderK
import Derived.Shelf.LaysM
import Derived.Shelf.Strconv.Itoa3
import Derived.Test.Qxb6615962aFmtNames
namespace Go.Proofs
open Go.Shelf
def Tryf.lays156_ren : Go.Shelf.Ren := ⟨fun | 156 => 36 | 165 => 46 | 166 => 20 | 167 => 30 | 169 => 31 | 240 => 34 | 241 => 51 | 276 => 45 | 277 => 56 | n => n, fun | 31 => 65 | 9 => 9 | 3 => 3 | 4 => 4 | 0 => 0 | 20 => 20 | 72 => 58 | 76 => 61 | 70 => 56 | 37 => 36 | 75 => 60 | 127 => 83 | 164 => 84 | 5 => 5 | 80 => 70 | n => n, fun | n => n⟩
theorem Tryf.lays156 : Go.Proofs.Lays.n156 Tryf.prog Tryf.lays156_ren := {
  mixed := by kernel_rfl
  f156 := Tryf.func36.trans (congrArg some (by kernel_rfl))
  f165 := Tryf.func46.trans (congrArg some (by kernel_rfl))
  f166 := Tryf.func20.trans (congrArg some (by kernel_rfl))
  f169 := Tryf.func31.trans (congrArg some (by kernel_rfl))
  f240 := Tryf.func34.trans (congrArg some (by kernel_rfl))
  f241 := Tryf.func51.trans (congrArg some (by kernel_rfl))
  f276 := Tryf.func45.trans (congrArg some (by kernel_rfl))
  f277 := Tryf.func56.trans (congrArg some (by kernel_rfl))
  t0 := Tryf.underlying0
  a0 := Tryf.isAgg0
  z0 := Tryf.sizeOf0
  v0 := Tryf.zeroValue0
  t3 := Tryf.underlying3
  a3 := Tryf.isAgg3
  z3 := Tryf.sizeOf3
  v3 := Tryf.zeroValue3
  t4 := Tryf.underlying4
  a4 := Tryf.isAgg4
  z4 := Tryf.sizeOf4
  v4 := Tryf.zeroValue4
  t9 := Tryf.underlying9
  a9 := Tryf.isAgg9
  z9 := Tryf.sizeOf9
  v9 := Tryf.zeroValue9
  t20 := Tryf.underlying20
  a20 := Tryf.isAgg20
  z20 := Tryf.sizeOf20
  v20 := Tryf.zeroValue20
  t31 := Tryf.underlying65
  a31 := Tryf.isAgg65
  z31 := Tryf.sizeOf65
  v31 := Tryf.zeroValue65
  t37 := Tryf.underlying36
  a37 := Tryf.isAgg36
  z37 := Tryf.sizeOf36
  v37 := Tryf.zeroValue36
  t70 := Tryf.underlying56
  a70 := Tryf.isAgg56
  z70 := Tryf.sizeOf56
  v70 := Tryf.zeroValue56
  t72 := Tryf.underlying58
  a72 := Tryf.isAgg58
  z72 := Tryf.sizeOf58
  v72 := Tryf.zeroValue58
  t75 := Tryf.underlying60
  a75 := Tryf.isAgg60
  z75 := Tryf.sizeOf60
  v75 := Tryf.zeroValue60
  t76 := Tryf.underlying61
  a76 := Tryf.isAgg61
  z76 := Tryf.sizeOf61
  v76 := Tryf.zeroValue61
  t127 := Tryf.underlying83
  a127 := Tryf.isAgg83
  z127 := Tryf.sizeOf83
  v127 := Tryf.zeroValue83
  t164 := Tryf.underlying84
  a164 := Tryf.isAgg84
  z164 := Tryf.sizeOf84
  v164 := Tryf.zeroValue84 }
theorem Tryf.Builder_Extra_156 : Builder.Extra Tryf.prog Tryf.lays156_ren := {
  sizeBuilder := by kernel_rfl
  liesBuilder := by kernel_rfl
  t5 := Tryf.underlying5
  a5 := Tryf.isAgg5
  z5 := Tryf.sizeOf5
  v5 := Tryf.zeroValue5
  infoByte := by kernel_rfl
  cellsByte := by kernel_rfl
  sizeByte := by kernel_rfl
  neB5 := by decide }
def Tryf.laysM171_ren : Go.Shelf.Ren := ⟨fun | 171 => 25 | 243 => 39 | 246 => 47 | 283 => 52 | 284 => 53 | 285 => 54 | 286 => 55 | 129 => 58 | 317 => 57 | 318 => 59 | 319 => 60 | 320 => 61 | 337 => 62 | 338 => 37 | n => n, fun | 3 => 3 | 9 => 9 | 2 => 2 | 4 => 4 | 171 => 90 | 0 => 0 | 53 => 22 | 37 => 36 | 5 => 5 | 173 => 92 | 212 => 96 | 51 => 97 | 20 => 20 | 213 => 98 | 46 => 28 | 232 => 101 | 233 => 87 | n => n, fun | 17 => 2 | 18 => 4 | 19 => 0 | n => n⟩
theorem Tryf.laysM171 : Go.Proofs.LaysM.n171 Tryf.prog Tryf.laysM171_ren := {
  mixed := by kernel_rfl
  f129 := Tryf.func58.trans (congrArg some (by kernel_rfl))
  f171 := Tryf.func25.trans (congrArg some (by kernel_rfl))
  f243 := Tryf.func39.trans (congrArg some (by kernel_rfl))
  f246 := Tryf.func47.trans (congrArg some (by kernel_rfl))
  f283 := Tryf.func52.trans (congrArg some (by kernel_rfl))
  f284 := Tryf.func53.trans (congrArg some (by kernel_rfl))
  f285 := Tryf.func54.trans (congrArg some (by kernel_rfl))
  f286 := Tryf.func55.trans (congrArg some (by kernel_rfl))
  f317 := Tryf.func57.trans (congrArg some (by kernel_rfl))
  f318 := Tryf.func59.trans (congrArg some (by kernel_rfl))
  f319 := Tryf.func60.trans (congrArg some (by kernel_rfl))
  f320 := Tryf.func61.trans (congrArg some (by kernel_rfl))
  f337 := Tryf.func62.trans (congrArg some (by kernel_rfl))
  f338 := Tryf.func37.trans (congrArg some (by kernel_rfl))
  t0 := Tryf.underlying0
  a0 := Tryf.isAgg0
  z0 := Tryf.sizeOf0
  v0 := Tryf.zeroValue0
  t2 := Tryf.underlying2
  a2 := Tryf.isAgg2
  z2 := Tryf.sizeOf2
  v2 := Tryf.zeroValue2
  t3 := Tryf.underlying3
  a3 := Tryf.isAgg3
  z3 := Tryf.sizeOf3
  v3 := Tryf.zeroValue3
  t4 := Tryf.underlying4
  a4 := Tryf.isAgg4
  z4 := Tryf.sizeOf4
  v4 := Tryf.zeroValue4
  t5 := Tryf.underlying5
  a5 := Tryf.isAgg5
  z5 := Tryf.sizeOf5
  v5 := Tryf.zeroValue5
  t9 := Tryf.underlying9
  a9 := Tryf.isAgg9
  z9 := Tryf.sizeOf9
  v9 := Tryf.zeroValue9
  t20 := Tryf.underlying20
  a20 := Tryf.isAgg20
  z20 := Tryf.sizeOf20
  v20 := Tryf.zeroValue20
  t37 := Tryf.underlying36
  a37 := Tryf.isAgg36
  z37 := Tryf.sizeOf36
  v37 := Tryf.zeroValue36
  t46 := Tryf.underlying28
  a46 := Tryf.isAgg28
  z46 := Tryf.sizeOf28
  v46 := Tryf.zeroValue28
  t51 := Tryf.underlying97
  a51 := Tryf.isAgg97
  z51 := Tryf.sizeOf97
  v51 := Tryf.zeroValue97
  t53 := Tryf.underlying22
  a53 := Tryf.isAgg22
  z53 := Tryf.sizeOf22
  v53 := Tryf.zeroValue22
  t171 := Tryf.underlying90
  a171 := Tryf.isAgg90
  z171 := Tryf.sizeOf90
  v171 := Tryf.zeroValue90
  t173 := Tryf.underlying92
  a173 := Tryf.isAgg92
  z173 := Tryf.sizeOf92
  v173 := Tryf.zeroValue92
  t212 := Tryf.underlying96
  a212 := Tryf.isAgg96
  z212 := Tryf.sizeOf96
  v212 := Tryf.zeroValue96
  t213 := Tryf.underlying98
  a213 := Tryf.isAgg98
  z213 := Tryf.sizeOf98
  t232 := Tryf.underlying101
  a232 := Tryf.isAgg101
  z232 := Tryf.sizeOf101
  v232 := Tryf.zeroValue101
  t233 := Tryf.underlying87
  a233 := Tryf.isAgg87
  z233 := Tryf.sizeOf87
  v233 := Tryf.zeroValue87
  g17 := by kernel_rfl
  g18 := by kernel_rfl
  g19 := by kernel_rfl
  i0 := by kernel_rfl
  i2 := by kernel_rfl
  i3 := by kernel_rfl
  i4 := by kernel_rfl
  i5 := by kernel_rfl
  i9 := by kernel_rfl
  i20 := by kernel_rfl
  i37 := by kernel_rfl
  i46 := by kernel_rfl
  i51 := by kernel_rfl
  i53 := by kernel_rfl
  i171 := by kernel_rfl
  i173 := by kernel_rfl
  i212 := by kernel_rfl
  i232 := by kernel_rfl
  i233 := by kernel_rfl
  m17 := by kernel_rfl
  m18 := by kernel_rfl
  m19 := by kernel_rfl }
theorem Tryf.lays167 : Go.Proofs.Lays.n167 Tryf.prog Tryf.lays156_ren :=
  { Tryf.lays156, Tryf.Builder_Extra_156 with
    f167 := Tryf.func30.trans (congrArg some (by kernel_rfl)) }
theorem Tryf.lays166 : Go.Proofs.Lays.n166 Tryf.prog Tryf.lays156_ren := { Tryf.lays156, Tryf.Builder_Extra_156 with }
theorem Tryf.lays169 : Go.Proofs.Lays.n169 Tryf.prog Tryf.lays156_ren := { Tryf.lays156, Tryf.Builder_Extra_156 with }
namespace Qxb6615962aFmt
open Go.RowKit

/-- A builder in block b that holds the bytes bs, its row in a block from B on. -/
def Bld (B b : Nat) (bs : List UInt8) (w : World) : Prop := Lib.IsBuilderF 58 5 B b (bc bs) w ∧ B ≤ w.heap.size

/-- What a write to a builder leaves. -/
def Kb (B b : Nat) (w w' : World) : Prop := Below B w w' ∧ Lib.OthersKept 5 (some b) w w'

theorem Kb.refl (B b : Nat) (w : World) : Kb B b w w := ⟨Below.refl _ _, Lib.OthersKept.refl _ _ _⟩
theorem Kb.trans {B b : Nat} {u v w : World} (h : Kb B b u v) (k : Kb B b v w) : Kb B b u w := ⟨h.1.trans k.1, h.2.trans k.2⟩
theorem Kb.of_below {B b : Nat} {w w' : World} (h : Below w.heap.size w w') (hB : B ≤ w.heap.size) : Kb B b w w' :=
  ⟨h.mono hB, fun k o hk _ _ => by rw [h.block k (Array.getElem?_eq_some_iff.1 hk).1]; exact hk⟩

theorem wb_any (B b : Nat) (bs : List UInt8) (c : UInt8) (w : World) (h : Bld B b bs w) (hlen : bs.length + 1 ≤ 140737488355328) :
    Calls Tryf.prog 30 #[.pointer (some ⟨b, 0, none⟩), .int .u8 c.toNat] w fun e w' => e = .returned .nilIface ∧ Bld B b (bs ++ [c]) w' ∧ Kb B b w w' := by
  refine (Any.Builder_WriteByte_k (ρ := Tryf.lays156_ren) Tryf.lays167 Tryf.Builder_Extra_156 B b (bc bs) c.toNat w h.1 (by rw [bc_len]; exact hlen) h.2).mono ?_
  rintro e w' ⟨rfl, hb, h1, h2⟩
  exact ⟨rfl, ⟨.inr (by rw [bc_append]; exact hb), Nat.le_trans h.2 h1.size⟩, h1, h2⟩

theorem ws_any (B b : Nat) (bs : List UInt8) (s : ByteArray) (w : World) (h : Bld B b bs w) (hlen : bs.length + s.data.toList.length ≤ 140737488355328) :
    Calls Tryf.prog 20 #[.pointer (some ⟨b, 0, none⟩), .string s] w fun e w' => e = .returned (.tuple #[.int .i64 s.size, .nilIface]) ∧ Bld B b (bs ++ s.data.toList) w' ∧ Kb B b w w' := by
  have hs : s.size = s.data.toList.length := by rw [Array.length_toList]; rfl
  refine (Any.Builder_WriteString_k (ρ := Tryf.lays156_ren) Tryf.lays166 Tryf.Builder_Extra_156 B b (bc bs) s w h.1 (by rw [bc_len]; omega) h.2).mono ?_
  rintro e w' ⟨rfl, hb, h1, h2⟩
  exact ⟨rfl, ⟨.inr (by rw [bc_append]; exact hb), Nat.le_trans h.2 h1.size⟩, h1, h2⟩

theorem str_any (B b : Nat) (bs : List UInt8) (w : World) (h : Bld B b bs w) :
    Calls Tryf.prog 31 #[.pointer (some ⟨b, 0, none⟩)] w fun e w' => e = .returned (.string ⟨bs.toArray⟩) ∧ Below B w w' := by
  refine (Any.Builder_String_any_k (ρ := Tryf.lays156_ren) Tryf.lays169 Tryf.Builder_Extra_156 B b bs w h.1 h.2).mono ?_
  rintro e w' ⟨rfl, _, h1, _⟩
  exact ⟨rfl, h1⟩

theorem join_any (bk c : Nat) (xs : List ByteArray) (w : World) (hcells : ∀ (j : Nat) x, xs[j]? = some x → w.cell? ⟨bk, j, none⟩ = some (.string x)) (hbk : bk < w.heap.size) (hN : xs.length ≤ 140737488355328) (hcap : xs.length ≤ c)
    (hlen : (Lib.join (xs.map (·.data.toList)) [44, 32]).length ≤ 140737488355328) :
    Calls Tryf.prog 36 #[.slice (some ⟨bk, 0, none⟩) xs.length c, .string ⟨#[44, 32]⟩] w fun e w' => e = .returned (.string ⟨(Lib.join (xs.map (·.data.toList)) [44, 32]).toArray⟩) ∧ Below w.heap.size w w' :=
  Any.strings_Join (ρ := Tryf.lays156_ren) Tryf.lays156 Tryf.Builder_Extra_156 bk 0 c xs ⟨#[44, 32]⟩ w (fun j x h => by rw [Nat.zero_add]; exact hcells j x h) hbk hN hcap hlen

theorem join_none (a : Option Addr) (c : Nat) (w : World) :
    Calls Tryf.prog 36 #[.slice a 0 c, .string ⟨#[44, 32]⟩] w fun e w' => e = .returned (.string ⟨#[]⟩) ∧ w = w' :=
  (Any.strings_Join_none (ρ := Tryf.lays156_ren) Tryf.lays156 Tryf.Builder_Extra_156 a c ⟨#[44, 32]⟩ w).mono fun _ _ ⟨h1, h2⟩ => ⟨h1, h2.symm⟩

theorem below_grow (w : World) (k : Nat) (os : Array Obj) : Below w.heap.size w (Sort.grow (w.drewN k) os) :=
  ⟨rfl, rfl, rfl, by simp [Sort.grow, World.drewN], fun b hb => by simp only [Sort.grow]; rw [Array.getElem?_append_left (by simpa [World.drewN] using hb)]; rfl⟩

theorem itoa_small : ∀ u : Fin 199, Lib.itoa ((u.val : Int) - 99) = intT ((u.val : Int) - 99) := by decide +kernel

theorem itoa_any (x : Int) (h1 : -100 < x) (h2 : x < 100) (w : World) (htab : Lib.TabIs Tryf.prog w "internal/strconv.uint64pow10" .u64 Lib.pow10Tab) :
    Calls Tryf.prog 25 #[.int .i64 x] w fun e w' => e = .returned (.string ⟨(intT x).toArray⟩) ∧ Below w.heap.size w w' := by
  refine (Any.strconv_Itoa (ρ := Tryf.laysM171_ren) Tryf.laysM171 x (by omega) (by omega) w htab).mono ?_
  rintro e w' ⟨rfl, k, os, rfl⟩
  refine ⟨?_, below_grow _ _ _⟩
  have h := itoa_small ⟨(x + 99).toNat, by omega⟩
  rw [show (((x + 99).toNat : Nat) : Int) - 99 = x by omega] at h
  rw [h]
end Qxb6615962aFmt
end Go.Proofs
