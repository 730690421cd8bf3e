import Derived.Test.Qxb6615962aFmtEnv
import Derived.Test.Qxb6615962aFmtTop
import Derived.Test.Qxb6615962aFmtRows
import Derived.ProofKit
import Derived.OpenShut
import Derived.Deep.Slices
import Derived.Deep.Strs
import Derived.Lib.LaidTab
import Derived.Stop.LaidErr
namespace Go.Proofs.Qxb6615962aFmt
open Go.ChangeShapes Go.WideShapes Go.ChangeAt Go.RowKit Go.Deep Go.Extern.Stop Go.Stop Go.Extern

theorem cells9 : Tryf.prog.cellsOf 9 = 1 := by kernel_rfl
theorem cells3 : Tryf.prog.cellsOf 3 = 1 := by kernel_rfl
theorem cells22 : Tryf.prog.cellsOf 22 = 1 := by kernel_rfl
theorem cells23 : Tryf.prog.cellsOf 23 = 12 := by kernel_rfl
theorem cells30 : Tryf.prog.cellsOf 30 = 2 := by kernel_rfl

theorem block_add (a : Addr) (n : Nat) : (a.add n).block = a.block := by unfold Addr.add; split <;> rfl

/-! ### the listed variables -/
theorem nat_eq_of_bytes {s : ByteArray} {l : List UInt8} (h : s.data.toList = l) : Value.string s = sv l := by
  unfold sv
  congr 1
  apply ByteArray.ext
  apply Array.toList_inj.1
  rw [h]

theorem env_of_laid (F : Interp) {W : World} (hF : F.told.answers W.tape) (hL : laidMet Tryf.prog Rows.fnItemTextMatchesSpecRow.laid W) : ∃ gN, Env F gN W.heap.size W := by
  have h32 : Lib.TabIs Tryf.prog W "math/bits.deBruijn32tab" .u8 _ :=
    Lib.tabIs_of_head (zs := [0, 1, 28, 2, 29, 14, 24, 3, 30, 22, 20, 15, 25, 17, 4, 8, 31, 27, 13, 23, 21, 19, 16, 7, 26, 12, 18, 6, 11, 5, 10, 9]) (g := 4) (by kernel_rfl) (by kernel_rfl) Tryf.underlying101 Tryf.underlying5 (by kernel_rfl) (by kernel_rfl) hL
  have h64 : Lib.TabIs Tryf.prog W "math/bits.deBruijn64tab" .u8 (Lib.deBruijn64tab.map fun n : Nat => (n : Int)) :=
    Lib.tabIs_of_head (g := 0) (by kernel_rfl) (by kernel_rfl) Tryf.underlying87 Tryf.underlying5 (by kernel_rfl) (by kernel_rfl) hL.tail
  have h10 : Lib.TabIs Tryf.prog W "internal/strconv.uint64pow10" .u64 Lib.pow10Tab :=
    Lib.tabIs_of_head (g := 2) (by kernel_rfl) (by kernel_rfl) Tryf.underlying96 Tryf.underlying22 (by kernel_rfl) (by kernel_rfl) hL.tail.tail
  have h4 := h32.cell (g := 4) (by kernel_rfl) 0 (by decide)
  have hsz : 4 < W.heap.size := block_lt_of_cell h4
  obtain ⟨ps, ⟨g, t, cs, fuel, p, q, hg, ht, hvar, hd, _, _⟩, _⟩ := hL.tail.tail.tail
  obtain rfl := Option.some.inj ((show Tryf.prog.globalNamed "time.longDayNames" = some 1 by kernel_rfl).symm.trans hg)
  obtain rfl := Option.some.inj ((show (Tryf.prog.globals[1]?).map (·.type) = some 65 by kernel_rfl).symm.trans ht)
  rcases open_strs Tryf.underlying65 Tryf.underlying9 cells9 hd with ⟨_, hx⟩ | ⟨a, len, cap, m, Sx, hcs, _, hl, _, hmm, hx, hcell⟩
  · cases hx
  · simp only [if_true] at hmm
    subst hmm
    have e1 : (List.range len).map (fun i => (DataW.lit (.string (Sx i).data.toList) : DataW Unit)) = (List.range 7).map fun i => DataW.lit (.string (dayName i)) := by
      have := congrArg (fun x : DataW Unit × List MemPlace => match x.1 with | .slice l _ => l | _ => []) hx
      exact this.symm
    have hlen : len = 7 := by simpa using congrArg List.length e1
    subst hlen
    have hday : ∀ d, d < 7 → W.cell? (a.add d) = some (sv (dayName d)) := by
      intro d hd
      have h1 := congrArg (fun l => l[d]?) e1
      simp [hd] at h1
      rw [(hcell d (by omega)).1, nat_eq_of_bytes h1]
    have hlt : a.block < W.heap.size := by
      have := block_lt_of_cell (hday 0 (by omega))
      rwa [block_add] at this
    have hc1 : W.cell? ⟨1, 0, none⟩ = some (.slice (some a) 7 m) := by
      have := World.var?_cell (show Tryf.prog.globalNamed "time.longDayNames" = some 1 by kernel_rfl) hvar 0
      rw [this, ← Array.getElem?_toList, hcs]
      rfl
    refine ⟨a.block, ⟨fun j hj => ?_, h10, ⟨a, m, rfl, hc1, hday⟩, hF, hsz, hlt, Nat.le_refl _⟩⟩
    have := h64.cell (g := 0) (by kernel_rfl) j (by rw [List.length_map]; exact hj)
    rw [this]
    simp [List.getD, hj]

/-! ### the arguments -/
section
variable {H : Type} {enc : TypeId × Value → H} {w : World} {base : Nat} {spare : Nat → Bool} {held : Bool}

theorem nats_of_ones : ∀ l : List Value, (∀ i, i < l.length → ∃ z : Nat, (l.drop i).take 1 = [Value.int .u64 z] ∧ z < 18446744073709551616) → ∃ zs : List Nat, l = mcells zs ∧ ∀ z ∈ zs, z < 18446744073709551616 := by
  intro l
  induction l with
  | nil => intro _; exact ⟨[], rfl, by simp⟩
  | cons v l ih =>
    intro h
    obtain ⟨z, hz, hu⟩ := h 0 (by simp)
    obtain ⟨zs, rfl, hzs⟩ := ih fun i hi => h (i + 1) (by simp; omega)
    simp only [List.drop_zero, List.take_succ_cons, List.take_zero, List.cons.injEq, and_true] at hz
    subst hz
    refine ⟨z :: zs, rfl, fun x hx => ?_⟩
    rcases List.mem_cons.1 hx with rfl | hx
    · exact hu
    · exact hzs x hx

theorem months_of {fuel : Nat} {cs : List Value} {x : DataW H × List MemPlace} (h : DataW.trod enc Tryf.prog w base spare held fuel 23 cs = some x) :
    ∃ ms : List Nat, cs = mcells ms ∧ ms.length = 12 ∧ ∀ m ∈ ms, m < 18446744073709551616 := by
  obtain ⟨xs, m, _, _, hl, hxl, he⟩ := DataW.trod_array Tryf.underlying23 h
  rw [cells23] at hl
  obtain ⟨zs, hz, hu64⟩ := nats_of_ones cs fun i hi => by
    have h1 := he i (by omega)
    rw [cells22, Nat.mul_one, List.getElem?_eq_getElem (by omega)] at h1
    obtain ⟨z, hz, _, hw⟩ := DataW.trod_int Tryf.underlying22 h1
    have hb := bounds_u64 hw
    refine ⟨z.toNat, ?_, by omega⟩
    rw [hz, show ((z.toNat : Nat) : Int) = z by omega]
  exact ⟨zs, hz, by rw [hz, mcells, List.length_map] at hl; exact hl, hu64⟩

theorem two_of {l : List Value} (h : l.length = 2) : ∃ a b, l = [a, b] := by
  match l, h with
  | [a, b], _ => exact ⟨a, b, rfl⟩

theorem pair_of {fuel : Nat} {cs : List Value} {x : DataW H × List MemPlace} (h : DataW.trod enc Tryf.prog w base spare held fuel 30 cs = some x) :
    ∃ g : Int × Int, cs = [Value.int .i64 g.1, Value.int .i64 g.2] := by
  obtain ⟨xs, m, _, _, hl, hxl, he⟩ := DataW.trod_array Tryf.underlying30 h
  rw [cells30] at hl
  obtain ⟨c0, c1, rfl⟩ := two_of hl
  have hg : ∀ i, i < 2 → DataW.trod enc Tryf.prog w base spare held m 3 (([c0, c1].drop i).take 1) = xs[i]? := by
    intro i hi
    have h1 := he i hi
    rw [cells3, Nat.mul_one] at h1
    exact h1
  have h0 := hg 0 (by decide)
  have h1 := hg 1 (by decide)
  rw [List.getElem?_eq_getElem (by rw [hxl]; decide)] at h0 h1
  obtain ⟨a, ha, _, _⟩ := DataW.trod_int Tryf.underlying3 h0
  obtain ⟨b, hb, _, _⟩ := DataW.trod_int Tryf.underlying3 h1
  simp only [List.drop_zero, List.drop_succ_cons, List.take_succ_cons, List.take_zero, List.cons.injEq, and_true] at ha hb
  exact ⟨(a, b), by rw [ha, hb]⟩

theorem icells_at2 : ∀ (l : List (Int × Int)) (j i : Nat) (g : Int × Int), i < 2 → l[j]? = some g → (icells l)[2 * j + i]? = [Value.int .i64 g.1, Value.int .i64 g.2][i]? := by
  intro l
  induction l with
  | nil => intro j i g _ h; simp at h
  | cons x l ih =>
    intro j i g hi h
    have e : icells (x :: l) = Value.int .i64 x.1 :: Value.int .i64 x.2 :: icells l := rfl
    rw [e]
    cases j with
    | zero =>
      simp only [List.getElem?_cons_zero, Option.some.injEq] at h
      subst h
      rcases (show i = 0 ∨ i = 1 by omega) with rfl | rfl <;> rfl
    | succ j =>
      rw [show 2 * (j + 1) + i = (2 * j + i) + 1 + 1 by omega, List.getElem?_cons_succ, List.getElem?_cons_succ]
      exact ih j i g hi (by simpa using h)

theorem icells_len2 (l : List (Int × Int)) : (icells l).length = 2 * l.length := by
  induction l with
  | nil => rfl
  | cons x l ih => rw [show icells (x :: l) = Value.int .i64 x.1 :: Value.int .i64 x.2 :: icells l from rfl]; simp only [List.length_cons, ih]; omega

theorem times_of {fuel : Nat} {ao : Option Addr} {len cap : Nat} {x : DataW H × List MemPlace} (h : DataW.trod enc Tryf.prog w base spare held fuel 24 (Value.slice ao len cap).cells.toList = some x) :
    ∃ tms : List (Int × Int), tms.length = len ∧ (ao = none → tms.length = 0 ∧ cap = 0) ∧ ∀ a, ao = some a → ∀ j v, (icells tms)[j]? = some v → w.cell? (a.add j) = some v := by
  rcases open_slice Tryf.underlying24 h with ⟨hcs, _⟩ | ⟨a', len', cap', m, n, D, Pl, hcs, hb, hl, _, hm, _, hel⟩
  · simp [Value.cells] at hcs
    obtain ⟨rfl, rfl, rfl⟩ := hcs
    exact ⟨[], rfl, fun _ => ⟨rfl, rfl⟩, fun a ha => by cases ha⟩
  · simp [Value.cells] at hcs
    obtain ⟨rfl, rfl, rfl⟩ := hcs
    have hle : len ≤ m := by rw [hm]; split <;> omega
    have key : ∀ j, j < len → ∃ g : Int × Int, w.cells? base (a'.add (j * 2)) 2 = some [Value.int .i64 g.1, Value.int .i64 g.2] := by
      intro j hj
      obtain ⟨cs', h1, h2⟩ := hel j (by omega)
      rw [cells30] at h1
      obtain ⟨g, rfl⟩ := pair_of h2
      exact ⟨g, h1⟩
    obtain ⟨f, hf⟩ := choose_lt key
    refine ⟨(List.range len).map f, by simp, fun h => (by cases h), fun a ha j v hv => ?_⟩
    cases ha
    have hj : j < 2 * len := by
      have h1 := (List.getElem?_eq_some_iff.1 hv).1
      rw [icells_len2, List.length_map, List.length_range] at h1
      exact h1
    have hj2 : j / 2 < len := by omega
    have e := icells_at2 ((List.range len).map f) (j / 2) (j % 2) (f (j / 2)) (by omega) (by simp [hj2])
    rw [show 2 * (j / 2) + j % 2 = j by omega, hv] at e
    have := (World.cells?_some (hf (j / 2) hj2)).2.2 (j % 2) (by omega)
    rw [add_add, show j / 2 * 2 + j % 2 = j by omega] at this
    rw [this, ← e]
end
end Go.Proofs.Qxb6615962aFmt
