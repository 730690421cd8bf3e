import Derived.Test.Qxb6615962aRound
import Derived.Test.Qxb6615962aAdd
import Derived.BigRegionIn
namespace Go.Proofs.Qxb6615962a
open Go.RowKit Go.Shelf

attribute [local go_sem] Oper.semAt_some

/-- The nodes from x up to the root. -/
def path : Nat → Nat → List Nat
  | 0, _ => []
  | f + 1, x => if x = 0 then [] else x :: path f (x / 2)

theorem path_more : ∀ (f g x : Nat), x ≤ f → x ≤ g → path f x = path g x := by
  intro f
  induction f with
  | zero =>
    intro g x hx _
    obtain rfl : x = 0 := by omega
    cases g <;> rfl
  | succ f ih =>
    intro g x hx hg
    by_cases h0 : x = 0
    · subst h0; cases g <;> rfl
    · obtain ⟨g', rfl⟩ : ∃ g', g = g' + 1 := ⟨g - 1, by omega⟩
      simp only [path, if_neg h0]
      rw [ih g' (x / 2) (by omega) (by omega)]

def up (x : Nat) : List Nat := path x x

theorem up_zero : up 0 = [] := rfl
theorem up_pos (x : Nat) (h : 0 < x) : up x = x :: up (x / 2) := by
  unfold up
  obtain ⟨y, rfl⟩ : ∃ y, x = y + 1 := ⟨x - 1, by omega⟩
  rw [path, if_neg (by omega), path_more y ((y + 1) / 2) ((y + 1) / 2) (by omega) (Nat.le_refl _)]

/-- What the iterator goes through from node x on. -/
def along (L : List (Nat × Gp)) (x : Nat) : List Gp := (up x).flatMap (atNode L)

theorem along_zero (L : List (Nat × Gp)) : along L 0 = [] := rfl
theorem along_pos (L : List (Nat × Gp)) (x : Nat) (h : 0 < x) : along L x = atNode L x ++ along L (x / 2) := by
  unfold along; rw [up_pos x h]; rfl

/-- A group of the calendar, by the block of its day group. -/
abbrev Elt (Fp : Nat → Prop) (w0 : World) : Type := { x : Nat × Gp // GrpAt Fp w0 (.pointer (some ⟨x.1, 0, none⟩)) x.2 }

/-- What a round of the loop over the calendar's groups keeps. -/
def Kept (n₀ Bc : Nat) (W W' : World) : Prop := Below n₀ W W' ∧ W'.heap[Bc]? = W.heap[Bc]?

theorem Kept.refl (n₀ Bc : Nat) (W : World) : Kept n₀ Bc W W := ⟨Below.refl _ _, rfl⟩
theorem Kept.trans {n₀ Bc : Nat} {A B C : World} (h : Kept n₀ Bc A B) (k : Kept n₀ Bc B C) : Kept n₀ Bc A C := ⟨h.1.trans k.1, k.2.trans h.2⟩
theorem Kept.drew {n₀ Bc : Nat} {A B : World} (h : Kept n₀ Bc A B) : Kept n₀ Bc A B.drew := ⟨h.1.drew, h.2⟩

/-- A list of the calendar that holds a group: where it lies, and what each of its pointers is, while nothing below n₀ turns. -/
theorem row_read2 {Fp : Nat → Prop} {w0 : World} {ao : Option Addr} {m cap : Nat} {gs : List Gp} {ps : List Value} {n₀ : Nat} (hr : RowAt Fp w0 (.slice ao m cap) gs ps) (hF : ∀ b, Fp b → b < n₀) (hm : gs.length = m) (h0 : 0 < m) :
    ∃ r, ao = some ⟨r, 0, none⟩ ∧ ∀ (y : Nat), y < m → ∃ b g, gs[y]? = some g ∧ GrpAt Fp w0 (.pointer (some ⟨b, 0, none⟩)) g ∧ ∀ wq, Below n₀ w0 wq → wq.cell? ⟨r, y, none⟩ = some (.pointer (some ⟨b, 0, none⟩)) := by
  rcases hr.own.2 with ⟨_, h1⟩ | ⟨r, cap', cur, hv, _, hh, _, _, _, ht⟩
  · omega
  · simp only [Value.slice.injEq] at hv
    obtain ⟨rfl, _, rfl⟩ := hv
    refine ⟨r, rfl, fun y hy => ?_⟩
    obtain ⟨g, hg⟩ : ∃ g, gs[y]? = some g := ⟨_, List.getElem?_eq_getElem (by omega)⟩
    obtain ⟨p, hp, hG⟩ := hr.grps y g hg
    have hG' := hG
    obtain ⟨b, _, _, hpb, _⟩ := hG'
    subst hpb
    refine ⟨b, g, hg, hG, fun wq hq => ?_⟩
    have hrb : r < n₀ := hF r (hr.foot r rfl)
    rw [hq.cell hrb, cell_of_row w0 r y cur 58 (0, 0) hh, ← Array.getElem?_toList, ← List.getElem?_take_of_lt (show y < gs.length * 1 by omega), ht, hp]

set_option maxRecDepth 100000 in
set_option maxHeartbeats 2000000 in
theorem era_in (Fp : Nat → Prop) (w0 : World) (c h n : Nat) (ea : Option Addr) (vs : List Value) (L : List (Nat × Gp)) (q : CalIn Fp w0 c h n ea vs L) (n₀ : Nat) (hF : ∀ b, Fp b → b < n₀) (Bc Bi i : Nat) (hin : i < n) (hn : n ≤ 65536) (hL : L.length ≤ 10000)
    (l : Nat) (J Jx : List (Elt Fp w0) → World → Prop) (W : World) (hw : Below n₀ w0 W) (hc : W.cell? ⟨Bc, 0, none⟩ = some (.pointer (some ⟨c, 0, none⟩))) (hi : W.cell? ⟨Bi, 0, none⟩ = some (.int .i64 i))
    (hJd : ∀ s W, J s W → J s W.drew)
    (hY : ∀ pre x W1, J pre W1 → pre.length < (along L (n + i)).length → YieldAt Fence.wide 3 Try.prog l #[.pointer (some ⟨x.1.1, 0, none⟩)] W1 fun e W' =>
      (e = .returned (.bool true) ∧ J (pre ++ [x]) W' ∧ Kept n₀ Bc W1 W') ∨ (e = .returned (.bool false) ∧ Jx (pre ++ [x]) W')) (h0 : J [] W) :
    CallsIn Fence.wide 4 Try.prog 28 #[.func (.yield l) #[] #[], .pointer (some ⟨Bc, 0, none⟩), .pointer (some ⟨Bi, 0, none⟩)] W fun e W' => (∃ v, e = .returned v) ∧
      ((∃ xs : List (Elt Fp w0), xs.map (·.1.2) = along L (n + i) ∧ J xs W') ∨ (∃ pre, True ∧ Jx pre W')) := by
  have hmx : Try.prog.follows .mixedOrders = true := by kernel_rfl
  have hcal : W.cell? ⟨c, 2, none⟩ = some (.slice ea n n) := (hw.cell (hF c q.fc)).trans (q.cal.cell 2)
  have HY : Hid (∀ pre x W1, J pre W1 → pre.length < (along L (n + i)).length → YieldAt Fence.wide 3 Try.prog l #[.pointer (some ⟨x.1.1, 0, none⟩)] W1 fun e W' =>
      (e = .returned (.bool true) ∧ J (pre ++ [x]) W' ∧ Kept n₀ Bc W1 W') ∨ (e = .returned (.bool false) ∧ Jx (pre ++ [x]) W')) := hY
  have HJ : Hid (∀ s W, J s W → J s W.drew) := hJd
  have HF : Hid (∀ b, Fp b → b < n₀) := hF
  clear hY hJd hF
  refine callsIn_of_wp Try.func28 rfl trivial ?_ rfl
  simp only [Try.ntmps28, List.size_toArray, List.length_cons, List.length_nil, Nat.reduceAdd, Nat.reduceSub, Array.replicate_succ, Array.replicate_zero, List.push_toArray, List.append_toArray, List.nil_append, List.cons_append]
  gi_wp2
  gi_region
  gi_wp2
  gi_loopw [4] (fun k wr => ∃ (x : Nat) (pre : List (Elt Fp w0)), k = .int .i64 x ∧ x ≤ n + i ∧ pre.map (·.1.2) ++ along L x = along L (n + i) ∧ J pre wr ∧ Kept n₀ Bc W wr)
    (fun k _ => (intOf k).toNat)
  case atStart => exact ⟨n + i, [], by go_num, Nat.le_refl _, rfl, HJ.out _ _ h0, (Kept.refl _ _ _).drew⟩
  case round =>
    obtain ⟨x, pre, rfl, hx, hal, hJs, hK⟩ := hrel
    have HA : Hid (pre.map (·.1.2) ++ along L x = along L (n + i)) := hal
    clear hal hcal
    by_cases hx0 : 0 < x
    · have hbr : Below n₀ w0 wr := hw.trans hK.1
      have hcr : wr.cell? ⟨Bc, 0, none⟩ = some (.pointer (some ⟨c, 0, none⟩)) := (World.cell?_of_block (w := W) hK.2).trans hc
      have hcal4 : wr.cell? ⟨c, 4, none⟩ = some (.slice (some ⟨h, 0, none⟩) (2 * n) (2 * n)) := (hbr.cell (HF.out c q.fc)).trans (q.cal.cell 4)
      obtain ⟨v, hv⟩ : ∃ v, vs[x]? = some v := ⟨_, List.getElem?_eq_getElem (by rw [q.len]; omega)⟩
      obtain ⟨ps, hr⟩ := q.rows x v hv
      obtain ⟨ao, cap, hva, hcapm, hnone, hsome⟩ := row_shape hr
      have hheld : wr.cell? ⟨h, x, none⟩ = some (.slice ao (atNode L x).length cap) := by
        rw [hbr.cell (HF.out h q.fh), q.held.cell x, hv, hva]
      have hml2 : (atNode L x).length ≤ 10000 := Nat.le_trans (by unfold atNode; rw [List.length_map]; exact List.length_filter_le _ _) hL
      have HR : Hid (RowAt Fp w0 v (atNode L x) ps ∧ v = .slice ao (atNode L x).length cap) := ⟨hr, hva⟩
      clear hv hr hva hcapm hnone hsome
      obtain ⟨m, hm⟩ : ∃ m, (atNode L x).length = m := ⟨_, rfl⟩
      rw [hm] at hheld hml2 HR
      have HM : Hid ((atNode L x).length = m) := hm
      clear hm
      have hxi : (x : Int) < ((2 * n : Nat) : Int) := by omega
      have hxi2 : (x : Int) < 2 * (n : Int) := by omega
      have HN : Hid (∀ pre2 : List (Elt Fp w0), pre2.map (·.1.2) = pre.map (·.1.2) ++ (atNode L x).take m → pre2.map (·.1.2) ++ along L (x / 2) = along L (n + i)) := by
        intro pre2 hp
        rw [hp, ← HA.out, along_pos L x hx0, List.take_of_length_le (by have := HM.out; omega), List.append_assoc]
      have HB : Hid (∀ (y : Nat) (pre2 : List (Elt Fp w0)), y < m → pre2.map (·.1.2) = pre.map (·.1.2) ++ (atNode L x).take y → pre2.length < (along L (n + i)).length) := by
        intro y pre2 hy hp
        have h1 := congrArg List.length hp
        rw [List.length_map, List.length_append, List.length_map, List.length_take] at h1
        have h2 := congrArg List.length HA.out
        rw [along_pos L x hx0, List.length_append, List.length_append, List.length_map] at h2
        have := HM.out
        omega
      by_cases hm0 : 0 < m
      · obtain ⟨r, har, hrd⟩ := row_read2 (HR.out.2 ▸ HR.out.1) HF.out HM.out hm0
        subst har
        have HD : Hid (∀ (y : Nat), y < m → ∃ b g, (atNode L x)[y]? = some g ∧ GrpAt Fp w0 (.pointer (some ⟨b, 0, none⟩)) g ∧ ∀ wq, Below n₀ w0 wq → wq.cell? ⟨r, y, none⟩ = some (.pointer (some ⟨b, 0, none⟩))) := hrd
        clear hrd
        gi_wp2
        gi_loopw [26] (fun j wq => ∃ (y : Nat) (pre2 : List (Elt Fp w0)), j = .int .i64 y ∧ y ≤ m ∧ pre2.map (·.1.2) = pre.map (·.1.2) ++ (atNode L x).take y ∧ J pre2 wq ∧ Kept n₀ Bc W wq)
          (fun j _ => m - (intOf j).toNat)
        case atStart => exact ⟨0, pre, rfl, Nat.zero_le _, by simp, hJs, hK⟩
        case round =>
          obtain ⟨y, pre2, rfl, hy, hp2, hJ2, hK2⟩ := hrel
          have HP : Hid (pre2.map (·.1.2) = pre.map (·.1.2) ++ (atNode L x).take y) := hp2
          clear hp2 hheld hcal4 hcr hbr hJs hK
          by_cases hlt : y < m
          · obtain ⟨b, g, hg, hG, hcl⟩ := HD.out y hlt
            have hcx := hcl wr (hw.trans hK2.1)
            obtain ⟨fn, tmps, assign, body, hyy, hR⟩ := HY.out pre2 ⟨(b, g), hG⟩ wr hJ2 (HB.out y pre2 hlt HP.out)
            dsimp only at hyy
            have HG : Hid ((pre2 ++ [(⟨(b, g), hG⟩ : Elt Fp w0)]).map (·.1.2) = pre.map (·.1.2) ++ (atNode L x).take (y + 1)) := by
              obtain ⟨hgl, hgv⟩ := List.getElem?_eq_some_iff.1 hg
              rw [List.take_succ_eq_append_getElem hgl, hgv, ← List.append_assoc, ← HP.out]
              show _ = _
              rw [List.map_append]
              rfl
            clear hcl hg HP
            gi_wp2
            refine hR.mono ?_
            rintro e W3 (⟨rfl, hJ3, hk3⟩ | ⟨rfl, hJx3⟩)
            · gi_wp2
              go_roundw
              case rel => exact ⟨y + 1, _, by go_num, by omega, HG.out, hJ3, hK2.trans hk3⟩
              case measure => simp [intOf]; omega
            · gi_wp2
              refine bodyPost_ret (results_none rfl _ _ _) rfl ?_
              exact ⟨⟨_, rfl⟩, .inr ⟨_, trivial, hJx3⟩⟩
          · obtain rfl : y = m := by omega
            gi_wp2
            go_roundw
            case rel => exact ⟨x / 2, pre2, by go_num, by omega, HN.out pre2 HP.out, hJ2, hK2⟩
            case measure => simp [intOf]; omega
      · obtain rfl : m = 0 := by omega
        gi_wp2
        gi_loopw [26] (fun j wq => j = .int .i64 0 ∧ J pre wq ∧ Kept n₀ Bc W wq) (fun _ _ => 0)
        case atStart => exact ⟨rfl, hJs, hK⟩
        case round =>
          obtain ⟨rfl, hJ2, hK2⟩ := hrel
          clear hheld hcal4 hcr hbr hJs hK
          gi_wp2
          go_roundw
          case rel => exact ⟨x / 2, pre, by go_num, by omega, HN.out pre (by simp), hJ2, hK2⟩
          case measure => simp [intOf]; omega
    · obtain rfl : x = 0 := by omega
      gi_wp2
      go_end0
      exact ⟨⟨_, rfl⟩, .inl ⟨pre, by have := HA.out; rwa [along_zero, List.append_nil] at this, hJs⟩⟩

theorem era_stops (Fp : Nat → Prop) (w0 : World) (c h n : Nat) (ea : Option Addr) (vs : List Value) (L : List (Nat × Gp)) (q : CalIn Fp w0 c h n ea vs L) (n₀ : Nat) (hF : ∀ b, Fp b → b < n₀) (Bc Bi i : Nat) (hin : i < n) (hn : n ≤ 65536) (hL : L.length ≤ 10000)
    (w : World) (hw : Below n₀ w0 w) (hn₀ : n₀ ≤ w.heap.size) (hBc : Bc < w.heap.size) (hBi : Bi < w.heap.size) (hc : w.cell? ⟨Bc, 0, none⟩ = some (.pointer (some ⟨c, 0, none⟩))) (hi : w.cell? ⟨Bi, 0, none⟩ = some (.int .i64 i)) :
    SeqStopsK Fence.wide 4 Try.prog 28 #[.pointer (some ⟨Bc, 0, none⟩), .pointer (some ⟨Bi, 0, none⟩)] (fun x : Elt Fp w0 => #[Value.pointer (some ⟨x.1.1, 0, none⟩)]) (Kept n₀ Bc) (fun xs => xs.map (·.1.2) = along L (n + i)) (fun _ => True) (along L (n + i)).length w := fun l J Jx W hW hJ _ hY h0 =>
  era_in Fp w0 c h n ea vs L q n₀ hF Bc Bi i hin hn hL l J Jx W (hw.trans (hW.mono hn₀)) ((hW.cell (p := ⟨Bc, 0, none⟩) hBc).trans hc) ((hW.cell (p := ⟨Bi, 0, none⟩) hBi).trans hi)
    (fun s A hA => hJ s A A.drew none hA ⟨rfl, rfl, rfl, Nat.le_refl _, fun _ _ _ => rfl⟩ (fun r e => by cases e)) hY h0

end Go.Proofs.Qxb6615962a
