import Derived.Test.Qxb6615588aErr
namespace Go.Proofs.Qxb6615588a
open Go.RowKit

/-- The text: the strings, a line end between two. -/
def joined (ss : List ByteArray) : ByteArray := ⟨(Lib.join (ss.map (·.data.toList)) [10]).toArray⟩

theorem owned_lt {w : World} {base e n cap g : Nat} {xs : List Value} (h : w.ownsRow base e 1 (.slice (some ⟨g, 0, none⟩) n cap) n xs) : g < w.heap.size := by
  rcases h.2 with ⟨h', _⟩ | ⟨g', cap', cur, h', _, hg, _⟩
  · simp at h'
  · simp only [Value.slice.injEq, Option.some.injEq, Addr.mk.injEq, and_true, true_and] at h'
    obtain ⟨rfl, rfl⟩ := h'
    exact (Array.getElem?_eq_some_iff.1 hg).1

/-- The errors made so far: each in a block of its own behind the row that holds them. -/
def Made (g : Nat) (ss : List ByteArray) (w : World) (xs : List Value) (k : Nat) : Prop :=
  ∀ j, j < k → ∃ q : Addr, xs[j]? = some (.iface 60 (.pointer (some q))) ∧ w.cell? q = some (.string (ss.getD j ByteArray.empty)) ∧ q.block < w.heap.size ∧ g < q.block

theorem made_step {g : Nat} {ss : List ByteArray} {w : World} {xs : List Value} {k : Nat} {s : ByteArray} (h : Made g ss w xs k) (hk : k < xs.length) (hg : g < w.heap.size) (hs : s = ss.getD k ByteArray.empty) :
    Made g ss ((w.setCell ⟨g, k, none⟩ (.iface 60 (.pointer (some ⟨w.heap.size, 0, none⟩)))).alloc (.cells #[.string s] 62)) (xs.set k (.iface 60 (.pointer (some ⟨w.heap.size, 0, none⟩)))) (k + 1) := by
  intro j hj
  by_cases hjk : j = k
  · subst hjk
    refine ⟨⟨w.heap.size, 0, none⟩, List.getElem?_set_self hk, ?_, by simp [World.setCell], hg⟩
    rw [World.cell?_alloc_at _ _ _ _ (by simp [World.setCell])]
    simp [hs]
  · obtain ⟨q, h1, h2, h3, h4⟩ := h j (by omega)
    refine ⟨q, by rw [List.getElem?_set_ne (by omega)]; exact h1, ?_, by simp [World.setCell]; omega, h4⟩
    rw [World.cell?_of_block (w := w) ?_]
    · exact h2
    · rw [Below.heap_alloc _ _ _ (by simpa [World.setCell] using h3), Below.heap_setCell _ _ _ _ (by simp; omega)]

set_option maxHeartbeats 800000 in
set_option maxRecDepth 100000 in
theorem text_any (b off cap : Nat) (ss : List ByteArray) (w : World) (hn : ss.length ≤ 4096) (hb : b < w.heap.size)
    (hc : ∀ j, j < ss.length → w.cell? ⟨b, off + j, none⟩ = some (.string (ss.getD j ByteArray.empty)))
    (hlen : (Lib.join (ss.map (·.data.toList)) [10]).length ≤ 140737488355328) :
    Calls Try.prog 8 #[.slice (some ⟨b, off, none⟩) ss.length cap] w fun e w' => e = .returned (.string (joined ss)) ∧ Below w.heap.size w w' := by
  obtain ⟨i0, hi, hz0, hz1, hz2⟩ := info_parts Try.info40
  have HC : Hid (∀ j, j < ss.length → w.cell? ⟨b, off + j, none⟩ = some (.string (ss.getD j ByteArray.empty))) := hc
  have HE := fun (be b off cap : Nat) (w : World) (hb : b < w.heap.size) (hbe : be < w.heap.size) hs hP => error_any be b off cap ss w hn hb hbe hs hP hlen
  have HE' : Hid (∀ (be b off cap : Nat) (w : World), b < w.heap.size → be < w.heap.size → w.cell? ⟨be, 0, none⟩ = some (.slice (some ⟨b, off, none⟩) ss.length cap) → Probs w b off ss → Calls Try.prog 18 #[.pointer (some ⟨be, 0, none⟩)] w fun e w' => e = .returned (.string (joined ss)) ∧ Below w.heap.size w w') := HE
  clear hc HE
  obtain ⟨n, hN⟩ : ∃ n, ss.length = n := ⟨_, rfl⟩
  rw [hN] at hn HC HE' ⊢
  have HN : Hid (ss.length = n) := hN
  clear hN hlen
  go_enter Try.func8, Try.ntmps8
  go_wp2_with (first | (at_make; refine wpList_make_full _ rfl (.tmp 6) (.tmp 6) 38 rfl w.heap.size 40 i0 .nilIface 1 Try.underlying38 hi hz0 hz1 .i64 .i64 n n n rfl rfl rfl rfl ?c1 ?c2 (Nat.le_refl _) ?_))
  case c1 => rw [hz2]; omega
  case c2 => unfold maxLen; omega
  intro w1 hown hgrow
  have hb1 : Below w.heap.size w w1 := (Below.refl _ _).grown hgrow (Nat.le_refl _) (by simp)
  clear hgrow
  go_wp2
  go_loopw [10] (fun i wr => ∃ (k : Nat) (xs : List Value), k ≤ n ∧ i = .int .i64 k ∧ wr.ownsRow w.heap.size 40 1 (.slice (some ⟨w.heap.size, 0, none⟩) n n) n xs ∧ Made w.heap.size ss wr xs k ∧ Below w.heap.size w wr)
    (fun i _ => n - (intOf i).toNat)
  case atStart => exact ⟨0, _, Nat.zero_le _, rfl, hown, by intro j hj; omega, hb1⟩
  case round =>
    obtain ⟨k, xs, hk, rfl, hownr, hxs, hbr⟩ := hrel
    clear hown hb1
    have hgl := owned_lt hownr
    by_cases hlt : k < n
    · have hr1 : wr.cell? ⟨b, off + k, none⟩ = some (.string (ss.getD k ByteArray.empty)) := (hbr.cell hb).trans (HC.out k hlt)
      obtain ⟨s, hs⟩ : ∃ s, s = ss.getD k ByteArray.empty := ⟨_, rfl⟩
      rw [← hs] at hr1
      have HS : Hid (s = ss.getD k ByteArray.empty) := hs
      clear hs
      have hf := hownr.frozenAt k
      have hold := hownr.cellAt k (by omega)
      have hlx : xs.length = n := by have := hownr.1; omega
      obtain ⟨u, hu⟩ : ∃ u, xs[k]? = some u := ⟨_, List.getElem?_eq_getElem (by omega)⟩
      rw [hu] at hold
      clear hu
      go_wp2_with (first | (go_at_call 17; refine (new_any _ _).mono ?_; rintro e w' ⟨rfl, rfl⟩))
      go_roundw
      case rel => exact ⟨k + 1, _, by omega, by go_num, (hownr.stored k _).1.alloc _, made_step hxs (by omega) hgl HS.out, (hbr.setCell (Nat.le_refl _) _).alloc (by simp [World.setCell]; omega) _⟩
      case measure => simp [intOf]; omega
    · obtain ⟨o, ho⟩ : ∃ o, o = Obj.cells #[.slice (some ⟨w.heap.size, 0, none⟩) n n, .slice none 0 0] 44 := ⟨_, rfl⟩
      have hbo : Below wr.heap.size wr (wr.alloc o) := (Below.refl _ _).alloc (Nat.le_refl _) _
      have hP : Probs (wr.alloc o) w.heap.size 0 ss := by
        intro j hj
        have hjn : j < n := by have := HN.out; omega
        obtain ⟨q, h1, h2, h3, h4⟩ := hxs j (by omega)
        refine ⟨q, ?_, (hbo.cell h3).trans h2, by simp; omega⟩
        rw [hbo.cell hgl, Nat.zero_add, hownr.cellAt j (by omega)]
        exact h1
      have hs : (wr.alloc o).cell? ⟨wr.heap.size, 0, none⟩ = some (.slice (some ⟨w.heap.size, 0, none⟩) n n) := by
        rw [ho, World.cell?_alloc_at _ _ _ _ rfl]; rfl
      have HJ := HE'.out wr.heap.size w.heap.size 0 n (wr.alloc o) (by simp; omega) (by simp) hs hP
      rw [ho] at HJ
      have HB : Hid (Below w.heap.size w (wr.alloc o)) := hbr.alloc (by omega) _
      rw [ho] at HB
      clear hs hP hxs hbo ho HE' HC
      have HJ' := HJ
      go_wp2_with (first | (go_at_call 18; refine HJ'.mono ?_; rintro e w2 ⟨rfl, hb2⟩))
      go_ret
      exact ⟨rfl, HB.out.trans (hb2.mono (by simp; omega))⟩

set_option maxHeartbeats 400000 in
set_option maxRecDepth 100000 in
/-- No text at all, wherever the slice points. -/
theorem text_none (a : Option Addr) (cap : Nat) (w : World) :
    Calls Try.prog 8 #[.slice a 0 cap] w fun e w' => e = .returned (.string (joined [])) ∧ Below w.heap.size w w' := by
  obtain ⟨i0, hi, hz0, hz1, hz2⟩ := info_parts Try.info40
  go_enter Try.func8, Try.ntmps8
  go_wp2_with (first | (at_make; refine wpList_make_full _ rfl (.tmp 6) (.tmp 6) 38 rfl w.heap.size 40 i0 .nilIface 1 Try.underlying38 hi hz0 hz1 .i64 .i64 0 0 0 rfl rfl rfl rfl ?c1 ?c2 (Nat.le_refl _) ?_))
  case c1 => rw [hz2]; omega
  case c2 => unfold maxLen; omega
  intro w1 hown hgrow
  have hb1 : Below w.heap.size w w1 := (Below.refl _ _).grown hgrow (Nat.le_refl _) (by simp)
  have hgl := owned_lt hown
  obtain ⟨o, ho⟩ : ∃ o, o = Obj.cells #[.slice (some ⟨w.heap.size, 0, none⟩) 0 0, .slice none 0 0] 44 := ⟨_, rfl⟩
  have hs : (w1.alloc o).cell? ⟨w1.heap.size, 0, none⟩ = some (.slice (some ⟨w.heap.size, 0, none⟩) 0 0) := by
    rw [ho, World.cell?_alloc_at _ _ _ _ rfl]; rfl
  have HJ := error_any w1.heap.size w.heap.size 0 0 [] (w1.alloc o) (by simp) (by simp; omega) (by simp) hs (by intro j hj; simp at hj) (by decide)
  rw [ho] at HJ
  have HB : Hid (Below w.heap.size w (w1.alloc o)) := hb1.alloc (by omega) _
  rw [ho] at HB
  clear hs ho hgrow hown hb1
  go_wp2
  refine wp_loop_rounds 1 ?_
  rw [rounds_succ]
  go_wp2_with (first | (go_at_call 18; refine HJ.mono ?_; rintro e w2 ⟨rfl, hb2⟩))
  go_ret
  exact ⟨rfl, HB.out.trans (hb2.mono (by simp; omega))⟩

end Go.Proofs.Qxb6615588a
