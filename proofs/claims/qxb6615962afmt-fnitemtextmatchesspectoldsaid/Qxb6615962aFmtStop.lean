import Derived.Test.Qxb6615962aFmtTexts
import Derived.Test.Qxb6615962aFmtZeros
import Derived.Stop.CallBack
import Derived.Stop.IfaceNil
import Derived.Stop.FmtTextLaws
import Derived.Stop.FmtTextKit
import Derived.Stop.FmtTextWidths
import Derived.Stop.Texts
import Derived.Stop.JoinedTold
import Derived.WalkSpells
import Derived.Laws.IdiomStrings
import GoSem.ClaimData
namespace Go.Proofs
open Go.Extern.Stop Go.Stop Go.Extern

/-! ### fmt.Sprintf("%04d", year): what the stop is asked, and what it is told -/

@[go_sem] theorem Tryf.call41 (args : Array Value) (w : World) : (callFunc 41 args).run Tryf.prog w = ((FmtStop.sprintf #[9, 116] #[9] args).run Tryf.prog w).andThen fun v w' => .ok (.value v) w' :=
  run_callFunc_extern Tryf.func41 (by kernel_rfl) (by kernel_rfl) (by kernel_rfl) (by kernel_rfl) args w
@[go_sem] theorem Tryf.guard (name : String) (w : World) : (FmtStop.guard name).run Tryf.prog w = .ok () w := by kernel_rfl
@[go_sem] theorem Tryf.fmt0 : FmtStop.printed? ⟨#[37, 48, 52, 100]⟩ 1 = some [(0, 100, false)] := by kernel_rfl
@[go_sem] theorem Tryf.fmt0r (w : World) : (FmtDoors.printed ⟨#[37, 48, 52, 100]⟩ 1).run Tryf.prog w = .ok [(0, 100, false)] w := by kernel_rfl
theorem Tryf.fmt0t : (FmtText.parse [37, 48, 52, 100]).map FmtText.glue = some [.verb { widPresent := true, wid := 4, zero := true } 100] := by rfl
def Tryf.shape3 : List UInt8 := [5, 3, 0, 0, 0, 0, 0, 0, 0, 105, 110, 116]
@[go_sem] theorem Tryf.op3_100 (name : String) (x : Int) (w : World) : (FmtStop.operand name false 100 false (.iface 3 (.int .i64 x))).run Tryf.prog w = .ok (Tryf.shape3, Go.Extern.Stop.digits 8 (x % 2 ^ 64).toNat) w := by kernel_rfl
@[go_sem] theorem Tryf.strict3 (name : String) (x : Int) (w : World) : (FmtStop.strict name (.iface 3 (.int .i64 x))).run Tryf.prog w = .ok (Tryf.shape3, Go.Extern.Stop.digits 8 (x % 2 ^ 64).toNat) w := by kernel_rfl

namespace Qxb6615962aFmt
open Go.RowKit Go.Shelf

/-- What fmt is asked. -/
def rdg (y : Nat) : List (List UInt8) := [[37, 48, 52, 100], Tryf.shape3, digits 8 (y % 18446744073709551616)]

theorem y_text (y : Nat) (hy : y < 10000) : FmtText.text "fmt.Sprintf" (rdg y) = some (four y) := by
  have hw : (Lit.int .i64 (y : Int)).wf = true := Go.WalkArith.wf_i64 ⟨by omega, by omega⟩
  have hi := FmtText.operand_int_at (sh := Tryf.shape3) (k := .i64) rfl rfl (y : Int) hw
  have e : y % 18446744073709551616 = ((y : Int) % 18446744073709551616).toNat := by omega
  rw [rdg, e, FmtText.text_sprintf_glued Tryf.fmt0t (FmtText.operands_cons hi FmtText.operands_nil)]
  have := zeros_four y hy
  simp [FmtText.render, FmtText.printArg_d_zero _ 4 _ hw, this]

theorem y_told (F : Interp) (y : Nat) (hy : y < 10000) : FmtStop.textOf (F.told "fmt.Sprintf" (rdg y) 0) = ⟨(four y).toArray⟩ := by
  have h := told_string F (y_text y hy) (by simp [four, two])
  have h2 := Go.Kit.textOf_list F.told "fmt.Sprintf" (rdg y)
  rw [h] at h2
  apply ByteArray.ext
  apply Array.toList_inj.1
  rw [h2]

theorem yearText_any (F : Interp) (y : Nat) (hy : y < 10000) (w : World) (hF : F.told.answers w.tape) :
    Calls Tryf.prog 27 #[.int .i64 y] w fun e w' => e = .returned (sv (four y)) ∧ Below w.heap.size w w' := by
  have hF' := answers_open hF
  have ht := y_told F y hy
  unfold rdg at ht
  go_enter Tryf.func27, Tryf.ntmps27
  go_wp2
  rw [ht]
  go_ret
  exact ⟨rfl, ((Below.refl _ w).alloc (Nat.le_refl _) _).drew⟩

def dayName : Nat → List UInt8
  | 0 => [83, 117, 110, 100, 97, 121]
  | 1 => [77, 111, 110, 100, 97, 121]
  | 2 => [84, 117, 101, 115, 100, 97, 121]
  | 3 => [87, 101, 100, 110, 101, 115, 100, 97, 121]
  | 4 => [84, 104, 117, 114, 115, 100, 97, 121]
  | 5 => [70, 114, 105, 100, 97, 121]
  | _ => [83, 97, 116, 117, 114, 100, 97, 121]

/-- The weekdays' names as the program's text lays them. -/
def Days (gN : Nat) (w : World) : Prop := ∃ (a : Addr) (cap : Nat), a.block = gN ∧ w.cell? ⟨1, 0, none⟩ = some (.slice (some a) 7 cap) ∧ ∀ d, d < 7 → w.cell? (a.add d) = some (sv (dayName d))

theorem day_any (gN d : Nat) (hd : d < 7) (w : World) (hD : Days gN w) :
    Calls Tryf.prog 42 #[.int .i64 d] w fun e w' => e = .returned (sv (dayName d)) ∧ w = w' := by
  obtain ⟨a, cap, _, h1, h2⟩ := hD
  have h2 := h2 d hd
  unfold sv at h2
  go_enter Tryf.func42, Tryf.ntmps42
  go_wp2
  go_ret
  exact ⟨rfl, rfl⟩

theorem weekday_any (gN d : Nat) (hd : d < 7) (w : World) (hD : Days gN w) :
    Calls Tryf.prog 28 #[.int .i64 d] w fun e w' => e = .returned (sv (wdT d)) ∧ w = w' := by
  go_enter Tryf.func28, Tryf.ntmps28
  go_wp2_with fail
  refine (day_any gN d hd w hD).mono ?_
  rintro e w' ⟨rfl, rfl⟩
  rcases (show d = 0 ∨ d = 1 ∨ d = 2 ∨ d = 3 ∨ d = 4 ∨ d = 5 ∨ d = 6 from by omega) with rfl | rfl | rfl | rfl | rfl | rfl | rfl
  all_goals
    unfold sv dayName
    go_wp2
    go_ret
    exact ⟨rfl, rfl⟩

/-- string(b), of a row of bytes. -/
theorem conv_row (w : World) (g cap : Nat) (cs : Array Value) (fz : Nat × Nat) (l : List UInt8) (hh : w.heap[g]? = some (.cells cs 5 fz)) (hcs : cs.toList.take l.length = bc l) :
    (convert 36 9 (.slice (some ⟨g, 0, none⟩) l.length cap)).run Tryf.prog w = .ok (sv l) w := by
  refine run_convert_bytes_back w 36 9 5 ⟨g, 0, none⟩ cap l Tryf.underlying36 Tryf.underlying5 Tryf.underlying9 ?_
  intro j hj
  rw [show (⟨g, 0, none⟩ : Addr).add j = ⟨g, j, none⟩ by simp [Addr.add]; omega]
  simp only [World.cell?, hh]
  rw [← Array.getElem?_toList, ← List.getElem?_take_of_lt hj, hcs, bc, List.getElem?_map, List.getElem?_eq_getElem hj]
  rfl

theorem conv_buf {B : Nat} {v : Value} {bs : List UInt8} {w : World} (h : Buf B v bs w) (h0 : bs ≠ []) : (convert 36 9 v).run Tryf.prog w = .ok (sv bs) w := by
  rcases h.1 with ⟨_, ⟨_, hn⟩ | ⟨g, cap, cur, rfl, _, hh, _, _, _, ht⟩⟩ | ⟨g, cur, fz, rfl, _, hh, ht⟩
  · exact absurd (List.length_eq_zero_iff.1 hn) h0
  · rw [Nat.mul_one] at ht
    exact conv_row w g cap cur _ bs hh ht
  · exact conv_row w g _ cur _ bs hh ht

set_option maxRecDepth 100000 in
theorem clockText_any (n : Nat) (hn : n ≤ 1440) (w : World) :
    Calls Tryf.prog 29 #[.int .i64 n] w fun e w' => e = .returned (sv (clock n)) ∧ Below w.heap.size w w' := by
  have hcv : (convert 36 9 (.slice (some ⟨w.heap.size, 0, none⟩) 4 4)).run Tryf.prog (w.alloc (.cells #[.int .u8 (48 + (n : Int) / 60 / 10), .int .u8 (48 + (n : Int) / 60 % 10), .int .u8 (48 + (n : Int) % 60 / 10), .int .u8 (48 + (n : Int) % 60 % 10)] 5)) = .ok (sv (clock n)) (w.alloc (.cells #[.int .u8 (48 + (n : Int) / 60 / 10), .int .u8 (48 + (n : Int) / 60 % 10), .int .u8 (48 + (n : Int) % 60 / 10), .int .u8 (48 + (n : Int) % 60 % 10)] 5)) := by
    refine conv_row _ w.heap.size 4 _ _ (clock n) (heap_alloc_new w _) ?_
    have h1 := bc_two (n / 60) (by omega)
    have h2 := bc_two (n % 60) (by omega)
    rw [clock, bc_append, ← h1, ← h2]
    simp [two]
  rw [show (n : Int) % 60 % 10 = (n : Int) % 10 by omega] at hcv
  unfold sv at hcv
  go_enter Tryf.func29, Tryf.ntmps29
  go_wp2
  go_ret
  exact ⟨rfl, (Below.refl _ w).alloc (Nat.le_refl _) _⟩
end Qxb6615962aFmt
end Go.Proofs
