import Derived.Test.Qxb6615588aFits
import Derived.Test.Qxb6615588aShelf
namespace Go.Proofs.Qxb6615588a
open Go.RowKit

theorem Try.info9 : (Try.prog.info? 9).map (fun i => (i.zero, i.size, i.bytes)) = some (some (.string ByteArray.empty), 1, 16) := by kernel_rfl
theorem Try.info40 : (Try.prog.info? 40).map (fun i => (i.zero, i.size, i.bytes)) = some (some (.nilIface), 1, 16) := by kernel_rfl

set_option maxHeartbeats 400000 in
theorem errorString_any (q : Addr) (s : ByteArray) (w : World) (hq : w.cell? q = some (.string s)) :
    Calls Try.prog 47 #[.pointer (some q)] w fun e w' => e = .returned (.string s) ∧ w' = w := by
  go_enter Try.func47, Try.ntmps47
  go_wp2
  go_ret
  exact ⟨rfl, rfl⟩

set_option maxHeartbeats 400000 in
theorem new_any (s : ByteArray) (w : World) :
    Calls Try.prog 17 #[.string s] w fun e w' => e = .returned (.iface 60 (.pointer (some ⟨w.heap.size, 0, none⟩))) ∧ w' = w.alloc (.cells #[.string s] 62) := by
  go_enter Try.func17, Try.ntmps17
  go_wp2
  go_ret
  exact ⟨rfl, rfl⟩

/-- A row of errors made by errors.New: what each says. -/
def Probs (w : World) (b off : Nat) (ss : List ByteArray) : Prop :=
  ∀ j, j < ss.length → ∃ q : Addr, w.cell? ⟨b, off + j, none⟩ = some (.iface 60 (.pointer (some q))) ∧ w.cell? q = some (.string (ss.getD j ByteArray.empty)) ∧ q.block < w.heap.size

theorem method_err (q : Addr) (w : World) : Sem.run Try.prog (method 252 60 (.pointer (some q)) "Error") w = .ok (47, .pointer (some q)) w := by kernel_rfl

set_option maxHeartbeats 400000 in
set_option maxRecDepth 100000 in
theorem error_any (be b off cap : Nat) (ss : List ByteArray) (w : World) (hn : ss.length ≤ 4096) (hb : b < w.heap.size) (hbe : be < w.heap.size)
    (hs : w.cell? ⟨be, 0, none⟩ = some (.slice (some ⟨b, off, none⟩) ss.length cap)) (hP : Probs w b off ss)
    (hlen : (Lib.join (ss.map (·.data.toList)) [10]).length ≤ 140737488355328) :
    Calls Try.prog 18 #[.pointer (some ⟨be, 0, none⟩)] w fun e w' => e = .returned (.string ⟨(Lib.join (ss.map (·.data.toList)) [10]).toArray⟩) ∧ Below w.heap.size w w' := by
  obtain ⟨i0, hi, hz0, hz1, hz2⟩ := info_parts Try.info9
  have HP : Hid (Probs w b off ss) := hP
  clear hP
  generalize hN : ss.length = n at *
  go_enter Try.func18, Try.ntmps18
  go_wp2_with (first | (at_make; refine wpList_make_full _ rfl (.tmp 10) (.tmp 10) 22 rfl w.heap.size 9 i0 (.string ByteArray.empty) 1 Try.underlying22 hi hz0 hz1 .i64 .i64 n n n rfl rfl rfl rfl ?c1 ?c2 (Nat.le_refl _) ?_))
  case c1 => rw [hz2]; omega
  case c2 => unfold maxLen; omega
  intro w1 hown hgrow
  have hb1 : Below w.heap.size w w1 := (Below.refl _ _).grown hgrow (Nat.le_refl _) (by simp)
  have hs1 : w1.cell? ⟨be, 0, none⟩ = some (.slice (some ⟨b, off, none⟩) n cap) := (hb1.cell hbe).trans hs
  clear hgrow hs
  go_wp2
  go_loopw [17] (fun i wr => ∃ (k : Nat) (xs : List Value), k ≤ n ∧ i = .int .i64 k ∧ wr.ownsRow w.heap.size 9 1 (.slice (some ⟨w.heap.size, 0, none⟩) n n) n xs ∧ (∀ j, j < k → xs[j]? = some (.string (ss.getD j ByteArray.empty))) ∧ Below w.heap.size w wr)
    (fun i _ => n - (intOf i).toNat)
  case atStart => exact ⟨0, _, Nat.zero_le _, rfl, hown, by simp, hb1⟩
  case round =>
    obtain ⟨k, xs, hk, rfl, hownr, hxs, hbr⟩ := hrel
    clear hown hb1 hs1
    by_cases hlt : k < n
    · obtain ⟨q, hq1, hq2, hq3⟩ := HP.out k (by omega)
      have hr1 : wr.cell? ⟨b, off + k, none⟩ = some (.iface 60 (.pointer (some q))) := (hbr.cell hb).trans hq1
      have hr2 : wr.cell? q = some (.string (ss.getD k ByteArray.empty)) := (hbr.cell hq3).trans hq2
      obtain ⟨s, hs⟩ : ∃ s, s = ss.getD k ByteArray.empty := ⟨_, rfl⟩
      rw [← hs] at hr2
      have HS : Hid (s = ss.getD k ByteArray.empty) := hs
      have HX : Hid (∀ j, j < k → xs[j]? = some (.string (ss.getD j ByteArray.empty))) := hxs
      clear hq1 hq2 hxs hs
      have hm := fun w : World => method_err q w
      have hf := hownr.frozenAt k
      have hold := hownr.cellAt k (by omega)
      have hlx : xs.length = n := by have := hownr.1; omega
      obtain ⟨u, hu⟩ : ∃ u, xs[k]? = some u := ⟨_, List.getElem?_eq_getElem (by omega)⟩
      rw [hu] at hold
      clear hu
      go_wp2_with (first | (go_at_call 47; refine (errorString_any _ _ _ (by assumption)).mono ?_; rintro e w' ⟨rfl, rfl⟩))
      go_roundw
      case rel =>
        refine ⟨k + 1, xs.set k (.string s), by omega, by go_num, (hownr.stored k _).1, ?_, hbr.setCell (Nat.le_refl _) _⟩
        intro j hj
        by_cases hjk : j = k
        · subst hjk
          rw [List.getElem?_set_self (by omega), HS.out]
        · rw [List.getElem?_set_ne (by omega)]
          exact HX.out j (by omega)
      case measure => simp [intOf]; omega
    · have hcells : ∀ (j : Nat) x, ss[j]? = some x → wr.cell? ⟨w.heap.size, 0 + j, none⟩ = some (.string x) := by
        intro j x hj
        obtain ⟨hjl, hjx⟩ := List.getElem?_eq_some_iff.1 hj
        rw [Nat.zero_add, hownr.cellAt j (by omega), hxs j (by omega), List.getD, hj]
        rfl
      have hsz : w.heap.size < wr.heap.size := by
        rcases hownr.2 with ⟨h', _⟩ | ⟨g', cap', cur, h', _, hg, _⟩
        · simp at h'
        · simp only [Value.slice.injEq, Option.some.injEq, Addr.mk.injEq, and_true, true_and] at h'
          obtain ⟨rfl, rfl⟩ := h'
          exact (Array.getElem?_eq_some_iff.1 hg).1
      have hJ := Try.strings_Join w.heap.size 0 n ss ⟨#[10]⟩ wr hcells hsz (by omega) (by omega) hlen
      rw [hN] at hJ
      have HJ := hJ
      clear hJ hcells hxs
      go_wp2_with (first | (go_at_call 19; refine HJ.mono ?_; rintro e w2 ⟨rfl, hb2⟩))
      go_ret
      exact ⟨rfl, hbr.trans (hb2.mono hbr.size)⟩

end Go.Proofs.Qxb6615588a
