import Derived.Test.Qxb6615962aClause
import Derived.Deep.Light
namespace Go.Proofs.Qxb6615962a
open Go.RowKit Go.Shelf

attribute [local go_sem] Oper.semAt_some

section
variable {P : Program} {ops : Array Oper} {Q : Exit → Act → World → Prop} {md : Region.Mode} {S : World → Prop} {last : Nat}

/-- The take of number i, with its slot and its value said. -/
theorem takeH (i : Nat) (d : Option Tmp) (v : Value) {oi : Oper} {fuel : Nat} {listed : Array Bool} {a : Act} {w : World} (hi : ops[i]? = some oi) (hd : oi.dst = d)
    (hs : Region.noSelect ops = true) (hf : Region.free md ops listed i = true) (hr : (Region.ready md ops listed).contains i = true)
    (hQ : ∀ c a w, ¬ Q (.panic c) a w) (hy : YieldsIf P ops S oi v a) (hS : S w)
    (h : wpAnyH P md ops Q S fuel (listed.setIfInBounds i true) (a.put d v) w) : wpAnyH P md ops Q S (fuel + 1) listed a w :=
  wpAnyH_take hi hs hf hr (fun c _ w h => absurd h (hQ c _ w)) hy hS (hd ▸ h)

theorem takeT (i : Nat) (d : Option Tmp) (v : Value) {oi : Oper} {fuel : Nat} {listed : Array Bool} {a : Act} {w : World} (hi : ops[i]? = some oi) (hd : oi.dst = d)
    (hs : Region.noSelect ops = true) (hf : Region.free md ops listed i = true) (hr : (Region.ready md ops listed).contains i = true) (hw : waits md ops last i = true) (hil : i ≠ last)
    (hQ : ∀ c a w, ¬ Q (.panic c) a w) (hy : YieldsIf P ops S oi v a) (hS : S w)
    (h : AnyT P md ops Q S last fuel (listed.setIfInBounds i true) (a.put d v) w) : AnyT P md ops Q S last (fuel + 1) listed a w :=
  anyT_take hi hs hf hr hw hil (fun c _ w h => absurd h (hQ c _ w)) hy hS (hd ▸ h)
end

set_option maxRecDepth 100000 in
set_option maxHeartbeats 1000000 in
theorem clause_in (Fp : Nat → Prop) (c h n : Nat) (ea : Option Addr) (vs : List Value) (L : List (Nat × Gp)) (i month length day weekday : Nat) (w : World) (q : CalIn Fp w c h n ea vs L) (hin : i < n) (hn : n ≤ 65536) (hL : L.length ≤ 10000)
    (hm1 : 1 ≤ month) (hm2 : month ≤ 12) (hl : length ≤ 31) (hd1 : 1 ≤ day) (hd2 : day ≤ 31) :
    CallsIn Fence.wide 5 Try.prog 22 #[.pointer (some ⟨c, 0, none⟩), .int .i64 i, .int .i64 month, .int .i64 length, .int .i64 day, .int .i64 weekday] w fun e w' =>
      e = .returned (.agg ((accum (fun g => fits g.months g.wd month length day weekday) (along L (n + i))).map (Value.int .u64)).toArray) ∧ Below w.heap.size w w' := by
  have HS := start_of w c i month length day weekday
  refine callsIn_of_wp_marks Try.func22 rfl trivial ?_ rfl
  simp only [Try.ntmps22, List.size_toArray, List.length_cons, List.length_nil, Nat.reduceAdd, Nat.reduceSub, Array.replicate_succ, Array.replicate_zero, List.push_toArray, List.append_toArray, List.nil_append, List.cons_append]
  gi_wp2_with fail
  refine ⟨trivial, ?_⟩
  refine (eraGroups_in _ _ _ _).mono ?_
  rintro e w' ⟨rfl, rfl⟩
  gi_wp2
  generalize ((((((((w.alloc (.cells #[.int .i64 month] 65)).alloc (.cells #[.int .i64 length] 3)).alloc (.cells #[.int .i64 day] 3)).alloc (.cells #[.int .i64 weekday] 66)).alloc (.cells #[.int .u64 0, .int .u64 0, .int .u64 0, .int .u64 0, .int .u64 0, .int .u64 0, .int .u64 0, .int .u64 0, .int .u64 0, .int .u64 0, .int .u64 0, .int .u64 0, .int .u64 0, .int .u64 0, .int .u64 0, .int .u64 0, .int .u64 0, .int .u64 0, .int .u64 0, .int .u64 0, .int .u64 0, .int .u64 0, .int .u64 0] 56)).alloc (.cells #[.int .u64 0, .int .u64 0, .int .u64 0, .int .u64 0, .int .u64 0, .int .u64 0, .int .u64 0, .int .u64 0, .int .u64 0, .int .u64 0, .int .u64 0, .int .u64 0, .int .u64 0, .int .u64 0, .int .u64 0, .int .u64 0, .int .u64 0, .int .u64 0, .int .u64 0, .int .u64 0, .int .u64 0, .int .u64 0, .int .u64 0] 56)).alloc (.cells #[.pointer (some ⟨c, 0, none⟩)] 37)).alloc (.cells #[.int .i64 i] 3)) = W0 at HS ⊢
  have hsz := HS.size
  refine wpIn_rangeFunc_ownF (Kp := Kept w.heap.size (w.heap.size + 1 + 1 + 1 + 1 + 1 + 1)) rfl (by omega) (gf := 28) (lb := #[.pointer (some ⟨w.heap.size + 1 + 1 + 1 + 1 + 1 + 1, 0, none⟩), .pointer (some ⟨w.heap.size + 1 + 1 + 1 + 1 + 1 + 1 + 1, 0, none⟩)]) rfl trivial (enters_of Try.func28 (by kernel_rfl) rfl)
    (era_stops Fp w c h n ea vs L q w.heap.size q.old (w.heap.size + 1 + 1 + 1 + 1 + 1 + 1) (w.heap.size + 1 + 1 + 1 + 1 + 1 + 1 + 1) i hin hn hL W0 HS.boxes.bel HS.boxes.bel.size (by omega) (by omega) (HS.cb.cell 0) (HS.ib.cell 0))
    (fun h k => h.trans k) ?hKb (Below.refl _ _) (fun _ => rfl)
    (fun pre W => Boxes w month length day weekday W ∧ Blk W (w.heap.size + 1 + 1 + 1 + 1 + 1) ((accum (fun g => fits g.months g.wd month length day weekday) (pre.map (·.1.2))).map (Value.int .u64)) 56)
    (fun _ _ _ => False) ?hI (fun _ _ _ _ _ hs _ _ => hs) ⟨HS.boxes, HS.ms⟩
    (fun x => { tmps := #[.pointer (some ⟨c, 0, none⟩), .int .i64 i, .int .i64 month, .int .i64 length, .int .i64 day, .int .i64 weekday, undef, undef, .pointer (some ⟨w.heap.size, 0, none⟩), .pointer (some ⟨w.heap.size + 1, 0, none⟩), .pointer (some ⟨w.heap.size + 1 + 1, 0, none⟩), .pointer (some ⟨w.heap.size + 1 + 1 + 1, 0, none⟩), .pointer (some ⟨w.heap.size + 1 + 1 + 1 + 1, 0, none⟩), .pointer (some ⟨w.heap.size + 1 + 1 + 1 + 1 + 1, 0, none⟩), .pointer (some ⟨x.1.1, 0, none⟩), undef, .pointer (some ⟨c, 0, none⟩), .int .i64 i, .func (.func 28) #[] #[.pointer (some ⟨w.heap.size + 1 + 1 + 1 + 1 + 1 + 1, 0, none⟩), .pointer (some ⟨w.heap.size + 1 + 1 + 1 + 1 + 1 + 1 + 1, 0, none⟩)], .pointer (some ⟨x.1.1, 0, none⟩), undef, undef, undef, undef, undef, undef, undef, undef, undef, undef, undef, undef, undef, undef, undef, undef, undef, undef, undef, undef, undef, undef, undef, undef, undef, undef, undef, undef, undef, undef, undef, undef, undef, undef, undef, undef], defers := [] }) ?assign ?body ?done ?stop
  case hKb =>
    intro W l o o' hll hl' hc hw
    exact ⟨belowK_b (w := W0) HS.boxes.bel.size W l o o' hll hl' hc hw, World.putObj_heap_other (by omega)⟩
  case hI =>
    intro s W W' row hs hg hr
    exact ⟨hs.1.own hg (fun r e => ⟨by have := (hr r e).1; omega, (hr r e).2⟩), blk_own hs.2 hg (fun r e => (hr r e).2)⟩
  case assign =>
    intro l x W K hK
    gi_wp2
    exact hK
  case stop =>
    rintro D c pre W _ _ h _
    exact h.elim
  case body =>
    rintro l pre x W ⟨hbx, hms⟩ _
    obtain ⟨⟨b, g⟩, hGA⟩ := x
    obtain ⟨b', bd, bm, hpb, hG⟩ := hGA
    simp only [Value.pointer.injEq, Option.some.injEq, Addr.mk.injEq, and_true] at hpb
    subst hpb
    dsimp only at hG
    have hgW := hG.grp.below hbx.bel (q.old _ hG.f1)
    have hdW := hG.dates.below hbx.bel (q.old _ hG.f2)
    have hmW := hG.mins.below hbx.bel (q.old _ hG.f3)
    obtain ⟨mo, hmo⟩ : ∃ mo, month = mo + 1 := ⟨month - 1, by omega⟩
    have hdc : W.drew.cell? ⟨bd, month - 1, none⟩ = some (.int .u64 (g.months.getD (month - 1) 0)) := by
      have h1 := hdW.cell (month - 1)
      have h2 := hG.ok.hm
      rw [List.getElem?_append_left (by rw [List.length_map]; omega), List.getElem?_map, List.getElem?_eq_getElem (by omega), Option.map_some] at h1
      rw [List.getD, List.getElem?_eq_getElem (by omega)]
      exact h1
    have HD := dateHas_any bd g.months month length day W.drew hm1 hm2 hl hd1 hd2 (u64_getD hG.ok.um _) hdc
    have HW := has_any g.wd weekday W.drew hG.ok.uw
    obtain ⟨r1, hr1⟩ : ∃ r1, (holds (g.months.getD (month - 1) 0) day || holds (g.months.getD (month - 1) 0) ((day : Int) - 1 - length)) = r1 := ⟨_, rfl⟩
    obtain ⟨r2, hr2⟩ : ∃ r2, holds g.wd weekday = r2 := ⟨_, rfl⟩
    have HFit : Hid (fits g.months g.wd month length day weekday = (r1 && r2)) := by
      show fits g.months g.wd month length day weekday = (r1 && r2)
      rw [← hr1, ← hr2]; rfl
    rw [hr1] at HD
    rw [hr2] at HW
    have hS : W.drew.cell? ⟨b, 0, none⟩ = some (.pointer (some ⟨bd, 0, none⟩)) ∧ W.drew.cell? ⟨b, 1, none⟩ = some (.int .u64 g.wd) ∧ W.drew.cell? ⟨w.heap.size, 0, none⟩ = some (.int .i64 month) ∧ W.drew.cell? ⟨w.heap.size + 1, 0, none⟩ = some (.int .i64 length) ∧ W.drew.cell? ⟨w.heap.size + 1 + 1, 0, none⟩ = some (.int .i64 day) ∧ W.drew.cell? ⟨w.heap.size + 1 + 1 + 1, 0, none⟩ = some (.int .i64 weekday) :=
      ⟨hgW.cell 0, hgW.cell 1, hbx.b0.cell 0, hbx.b1.cell 0, hbx.b2.cell 0, hbx.b3.cell 0⟩
    clear hr1 hr2 hdc hmo HS hsz
    gi_wp2
    cases r1
    · skip
      refine Code.wpIn_mono (Q := fun e a' w' => e = .normal ∧ a' = { tmps := #[.pointer (some ⟨c, 0, none⟩), .int .i64 i, .int .i64 month, .int .i64 length, .int .i64 day, .int .i64 weekday, undef, undef, .pointer (some ⟨w.heap.size, 0, none⟩), .pointer (some ⟨w.heap.size + 1, 0, none⟩), .pointer (some ⟨w.heap.size + 1 + 1, 0, none⟩), .pointer (some ⟨w.heap.size + 1 + 1 + 1, 0, none⟩), .pointer (some ⟨w.heap.size + 1 + 1 + 1 + 1, 0, none⟩), .pointer (some ⟨w.heap.size + 1 + 1 + 1 + 1 + 1, 0, none⟩), .pointer (some ⟨b, 0, none⟩), undef, .pointer (some ⟨c, 0, none⟩), .int .i64 i, .func (.func 28) #[] #[.pointer (some ⟨w.heap.size + 1 + 1 + 1 + 1 + 1 + 1, 0, none⟩), .pointer (some ⟨w.heap.size + 1 + 1 + 1 + 1 + 1 + 1 + 1, 0, none⟩)], .pointer (some ⟨b, 0, none⟩), .pointer (some ⟨b, 0, none⟩), .pointer (some ⟨b, 0, none⟩), .pointer (some ⟨b, 0, none⟩), .pointer (some ⟨b, 0, none⟩), .pointer (some ⟨bd, 0, none⟩), .int .i64 month, .int .i64 length, .int .i64 day, .bool false, .bool false, undef, undef, undef, undef, undef, undef, undef, .bool false, undef, undef, undef, undef, undef, undef, undef, undef, undef, undef, undef, undef, undef, undef, undef, undef, undef, undef], defers := [] } ∧ w' = W.drew) ?imp ?main
      case main =>
        clear hin hn hL hbx hms hgW hdW hmW HFit
        go_light
        refine region_round l _ (by kernel_rfl) (by kernel_rfl) (by rintro ⟨a, w, h⟩; exact absurd h.1 (by simp)) (wpAny_of_held (S := fun w' => w'.cell? ⟨b, 0, none⟩ = some (.pointer (some ⟨bd, 0, none⟩)) ∧ w'.cell? ⟨b, 1, none⟩ = some (.int .u64 g.wd) ∧ w'.cell? ⟨w.heap.size, 0, none⟩ = some (.int .i64 month) ∧ w'.cell? ⟨w.heap.size + 1, 0, none⟩ = some (.int .i64 length) ∧ w'.cell? ⟨w.heap.size + 1 + 1, 0, none⟩ = some (.int .i64 day) ∧ w'.cell? ⟨w.heap.size + 1 + 1 + 1, 0, none⟩ = some (.int .i64 weekday)) _ _ _ _ ?_)
        refine takeH 0 (some 20) (.pointer (some ⟨b, 0, none⟩)) rfl rfl (by kernel_rfl) (by kernel_rfl) (by kernel_rfl) (fun _ _ _ h => absurd h.1 (by simp)) (Or.inl ⟨by kernel_rfl, ?_⟩) hS ?_
        · intro wx hSx
          obtain ⟨q1, q2, q3, q4, q5, q6⟩ := hSx
          go_simp
        simp only [Act.put, List.setIfInBounds_toArray, List.set_cons_zero, List.set_cons_succ]
        refine takeH 1 (some 21) (.pointer (some ⟨b, 0, none⟩)) rfl rfl (by kernel_rfl) (by kernel_rfl) (by kernel_rfl) (fun _ _ _ h => absurd h.1 (by simp)) (Or.inl ⟨by kernel_rfl, ?_⟩) hS ?_
        · intro wx hSx
          obtain ⟨q1, q2, q3, q4, q5, q6⟩ := hSx
          go_simp
        simp only [Act.put, List.setIfInBounds_toArray, List.set_cons_zero, List.set_cons_succ]
        refine takeH 2 (some 22) (.pointer (some ⟨b, 0, none⟩)) rfl rfl (by kernel_rfl) (by kernel_rfl) (by kernel_rfl) (fun _ _ _ h => absurd h.1 (by simp)) (Or.inl ⟨by kernel_rfl, ?_⟩) hS ?_
        · intro wx hSx
          obtain ⟨q1, q2, q3, q4, q5, q6⟩ := hSx
          go_simp
        simp only [Act.put, List.setIfInBounds_toArray, List.set_cons_zero, List.set_cons_succ]
        refine takeH 3 (some 23) (.pointer (some ⟨b, 0, none⟩)) rfl rfl (by kernel_rfl) (by kernel_rfl) (by kernel_rfl) (fun _ _ _ h => absurd h.1 (by simp)) (Or.inl ⟨by kernel_rfl, ?_⟩) hS ?_
        · intro wx hSx
          obtain ⟨q1, q2, q3, q4, q5, q6⟩ := hSx
          go_simp
        simp only [Act.put, List.setIfInBounds_toArray, List.set_cons_zero, List.set_cons_succ]
        refine takeH 4 (some 24) (.pointer (some ⟨bd, 0, none⟩)) rfl rfl (by kernel_rfl) (by kernel_rfl) (by kernel_rfl) (fun _ _ _ h => absurd h.1 (by simp)) (Or.inl ⟨by kernel_rfl, ?_⟩) hS ?_
        · intro wx hSx
          obtain ⟨q1, q2, q3, q4, q5, q6⟩ := hSx
          go_simp
        simp only [Act.put, List.setIfInBounds_toArray, List.set_cons_zero, List.set_cons_succ]
        refine takeH 5 (some 25) (.int .i64 month) rfl rfl (by kernel_rfl) (by kernel_rfl) (by kernel_rfl) (fun _ _ _ h => absurd h.1 (by simp)) (Or.inl ⟨by kernel_rfl, ?_⟩) hS ?_
        · intro wx hSx
          obtain ⟨q1, q2, q3, q4, q5, q6⟩ := hSx
          go_simp
        simp only [Act.put, List.setIfInBounds_toArray, List.set_cons_zero, List.set_cons_succ]
        refine takeH 6 (some 26) (.int .i64 length) rfl rfl (by kernel_rfl) (by kernel_rfl) (by kernel_rfl) (fun _ _ _ h => absurd h.1 (by simp)) (Or.inl ⟨by kernel_rfl, ?_⟩) hS ?_
        · intro wx hSx
          obtain ⟨q1, q2, q3, q4, q5, q6⟩ := hSx
          go_simp
        simp only [Act.put, List.setIfInBounds_toArray, List.set_cons_zero, List.set_cons_succ]
        refine takeH 7 (some 27) (.int .i64 day) rfl rfl (by kernel_rfl) (by kernel_rfl) (by kernel_rfl) (fun _ _ _ h => absurd h.1 (by simp)) (Or.inl ⟨by kernel_rfl, ?_⟩) hS ?_
        · intro wx hSx
          obtain ⟨q1, q2, q3, q4, q5, q6⟩ := hSx
          go_simp
        simp only [Act.put, List.setIfInBounds_toArray, List.set_cons_zero, List.set_cons_succ]
        refine anyH_one (i := 8) (by kernel_rfl) rfl (by kernel_rfl) (fun K hK => ?_)
        go_simp
        refine HD.mono ?_
        rintro e w' ⟨rfl, rfl⟩
        refine hK _ _ hS ?_
        clear hK K
        refine takeH 9 (some 29) (.bool false) rfl rfl (by kernel_rfl) (by kernel_rfl) (by kernel_rfl) (fun _ _ _ h => absurd h.1 (by simp)) (Or.inl ⟨by kernel_rfl, ?_⟩) hS ?_
        · intro wx hSx
          obtain ⟨q1, q2, q3, q4, q5, q6⟩ := hSx
          go_simp
        simp only [Act.put, List.setIfInBounds_toArray, List.set_cons_zero, List.set_cons_succ]
        refine takeH 10 (some 30) undef rfl rfl (by kernel_rfl) (by kernel_rfl) (by kernel_rfl) (fun _ _ _ h => absurd h.1 (by simp)) (Or.inr ⟨by kernel_rfl, rfl⟩) hS ?_
        simp only [Act.put, List.setIfInBounds_toArray, List.set_cons_zero, List.set_cons_succ]
        refine takeH 11 (some 31) undef rfl rfl (by kernel_rfl) (by kernel_rfl) (by kernel_rfl) (fun _ _ _ h => absurd h.1 (by simp)) (Or.inr ⟨by kernel_rfl, rfl⟩) hS ?_
        simp only [Act.put, List.setIfInBounds_toArray, List.set_cons_zero, List.set_cons_succ]
        refine takeH 12 (some 32) undef rfl rfl (by kernel_rfl) (by kernel_rfl) (by kernel_rfl) (fun _ _ _ h => absurd h.1 (by simp)) (Or.inr ⟨by kernel_rfl, rfl⟩) hS ?_
        simp only [Act.put, List.setIfInBounds_toArray, List.set_cons_zero, List.set_cons_succ]
        refine takeH 13 (some 33) undef rfl rfl (by kernel_rfl) (by kernel_rfl) (by kernel_rfl) (fun _ _ _ h => absurd h.1 (by simp)) (Or.inr ⟨by kernel_rfl, rfl⟩) hS ?_
        simp only [Act.put, List.setIfInBounds_toArray, List.set_cons_zero, List.set_cons_succ]
        refine takeH 14 (some 34) undef rfl rfl (by kernel_rfl) (by kernel_rfl) (by kernel_rfl) (fun _ _ _ h => absurd h.1 (by simp)) (Or.inr ⟨by kernel_rfl, rfl⟩) hS ?_
        simp only [Act.put, List.setIfInBounds_toArray, List.set_cons_zero, List.set_cons_succ]
        refine takeH 15 (some 35) undef rfl rfl (by kernel_rfl) (by kernel_rfl) (by kernel_rfl) (fun _ _ _ h => absurd h.1 (by simp)) (Or.inr ⟨by kernel_rfl, rfl⟩) hS ?_
        simp only [Act.put, List.setIfInBounds_toArray, List.set_cons_zero, List.set_cons_succ]
        refine takeH 16 (some 36) undef rfl rfl (by kernel_rfl) (by kernel_rfl) (by kernel_rfl) (fun _ _ _ h => absurd h.1 (by simp)) (Or.inr ⟨by kernel_rfl, rfl⟩) hS ?_
        simp only [Act.put, List.setIfInBounds_toArray, List.set_cons_zero, List.set_cons_succ]
        refine takeH 17 (some 37) (.bool false) rfl rfl (by kernel_rfl) (by kernel_rfl) (by kernel_rfl) (fun _ _ _ h => absurd h.1 (by simp)) (Or.inl ⟨by kernel_rfl, ?_⟩) hS ?_
        · intro wx hSx
          obtain ⟨q1, q2, q3, q4, q5, q6⟩ := hSx
          go_simp
        simp only [Act.put, List.setIfInBounds_toArray, List.set_cons_zero, List.set_cons_succ]
        refine wpAnyH_done (by kernel_rfl) ?_ _
        exact ⟨rfl, rfl, rfl⟩
      case imp =>
        clear HD HW hS
        rintro e a' w' ⟨rfl, rfl, rfl⟩
        gi_wp2
        refine ⟨KeepsOthers.drew _, (Kept.refl _ _ _).drew, hbx.drew, ?_⟩
        rw [List.map_append]
        show Blk W.drew _ ((accum _ (pre.map (·.1.2) ++ [g])).map (Value.int .u64)) 56
        rw [accum_snoc, HFit.out]
        exact hms.drew
    · skip
      refine Code.wpIn_mono (Q := fun e a' w' => e = .normal ∧ a' = { tmps := #[.pointer (some ⟨c, 0, none⟩), .int .i64 i, .int .i64 month, .int .i64 length, .int .i64 day, .int .i64 weekday, undef, undef, .pointer (some ⟨w.heap.size, 0, none⟩), .pointer (some ⟨w.heap.size + 1, 0, none⟩), .pointer (some ⟨w.heap.size + 1 + 1, 0, none⟩), .pointer (some ⟨w.heap.size + 1 + 1 + 1, 0, none⟩), .pointer (some ⟨w.heap.size + 1 + 1 + 1 + 1, 0, none⟩), .pointer (some ⟨w.heap.size + 1 + 1 + 1 + 1 + 1, 0, none⟩), .pointer (some ⟨b, 0, none⟩), undef, .pointer (some ⟨c, 0, none⟩), .int .i64 i, .func (.func 28) #[] #[.pointer (some ⟨w.heap.size + 1 + 1 + 1 + 1 + 1 + 1, 0, none⟩), .pointer (some ⟨w.heap.size + 1 + 1 + 1 + 1 + 1 + 1 + 1, 0, none⟩)], .pointer (some ⟨b, 0, none⟩), .pointer (some ⟨b, 0, none⟩), .pointer (some ⟨b, 0, none⟩), .pointer (some ⟨b, 0, none⟩), .pointer (some ⟨b, 0, none⟩), .pointer (some ⟨bd, 0, none⟩), .int .i64 month, .int .i64 length, .int .i64 day, .bool true, .bool true, .pointer (some ⟨b, 0, none⟩), .pointer (some ⟨b, 0, none⟩), .pointer (some ⟨b, 0, none⟩), .pointer (some ⟨b, 1, none⟩), .int .u64 g.wd, .int .i64 weekday, .bool r2, .bool r2, undef, undef, undef, undef, undef, undef, undef, undef, undef, undef, undef, undef, undef, undef, undef, undef, undef, undef], defers := [] } ∧ w' = W.drew) ?imp ?main
      case main =>
        clear hin hn hL hbx hms hgW hdW hmW HFit
        go_light
        refine region_round l _ (by kernel_rfl) (by kernel_rfl) (by rintro ⟨a, w, h⟩; exact absurd h.1 (by simp)) (wpAny_of_held (S := fun w' => w'.cell? ⟨b, 0, none⟩ = some (.pointer (some ⟨bd, 0, none⟩)) ∧ w'.cell? ⟨b, 1, none⟩ = some (.int .u64 g.wd) ∧ w'.cell? ⟨w.heap.size, 0, none⟩ = some (.int .i64 month) ∧ w'.cell? ⟨w.heap.size + 1, 0, none⟩ = some (.int .i64 length) ∧ w'.cell? ⟨w.heap.size + 1 + 1, 0, none⟩ = some (.int .i64 day) ∧ w'.cell? ⟨w.heap.size + 1 + 1 + 1, 0, none⟩ = some (.int .i64 weekday)) _ _ _ _ ?_)
        refine takeH 0 (some 20) (.pointer (some ⟨b, 0, none⟩)) rfl rfl (by kernel_rfl) (by kernel_rfl) (by kernel_rfl) (fun _ _ _ h => absurd h.1 (by simp)) (Or.inl ⟨by kernel_rfl, ?_⟩) hS ?_
        · intro wx hSx
          obtain ⟨q1, q2, q3, q4, q5, q6⟩ := hSx
          go_simp
        simp only [Act.put, List.setIfInBounds_toArray, List.set_cons_zero, List.set_cons_succ]
        refine takeH 1 (some 21) (.pointer (some ⟨b, 0, none⟩)) rfl rfl (by kernel_rfl) (by kernel_rfl) (by kernel_rfl) (fun _ _ _ h => absurd h.1 (by simp)) (Or.inl ⟨by kernel_rfl, ?_⟩) hS ?_
        · intro wx hSx
          obtain ⟨q1, q2, q3, q4, q5, q6⟩ := hSx
          go_simp
        simp only [Act.put, List.setIfInBounds_toArray, List.set_cons_zero, List.set_cons_succ]
        refine takeH 2 (some 22) (.pointer (some ⟨b, 0, none⟩)) rfl rfl (by kernel_rfl) (by kernel_rfl) (by kernel_rfl) (fun _ _ _ h => absurd h.1 (by simp)) (Or.inl ⟨by kernel_rfl, ?_⟩) hS ?_
        · intro wx hSx
          obtain ⟨q1, q2, q3, q4, q5, q6⟩ := hSx
          go_simp
        simp only [Act.put, List.setIfInBounds_toArray, List.set_cons_zero, List.set_cons_succ]
        refine takeH 3 (some 23) (.pointer (some ⟨b, 0, none⟩)) rfl rfl (by kernel_rfl) (by kernel_rfl) (by kernel_rfl) (fun _ _ _ h => absurd h.1 (by simp)) (Or.inl ⟨by kernel_rfl, ?_⟩) hS ?_
        · intro wx hSx
          obtain ⟨q1, q2, q3, q4, q5, q6⟩ := hSx
          go_simp
        simp only [Act.put, List.setIfInBounds_toArray, List.set_cons_zero, List.set_cons_succ]
        refine takeH 4 (some 24) (.pointer (some ⟨bd, 0, none⟩)) rfl rfl (by kernel_rfl) (by kernel_rfl) (by kernel_rfl) (fun _ _ _ h => absurd h.1 (by simp)) (Or.inl ⟨by kernel_rfl, ?_⟩) hS ?_
        · intro wx hSx
          obtain ⟨q1, q2, q3, q4, q5, q6⟩ := hSx
          go_simp
        simp only [Act.put, List.setIfInBounds_toArray, List.set_cons_zero, List.set_cons_succ]
        refine takeH 5 (some 25) (.int .i64 month) rfl rfl (by kernel_rfl) (by kernel_rfl) (by kernel_rfl) (fun _ _ _ h => absurd h.1 (by simp)) (Or.inl ⟨by kernel_rfl, ?_⟩) hS ?_
        · intro wx hSx
          obtain ⟨q1, q2, q3, q4, q5, q6⟩ := hSx
          go_simp
        simp only [Act.put, List.setIfInBounds_toArray, List.set_cons_zero, List.set_cons_succ]
        refine takeH 6 (some 26) (.int .i64 length) rfl rfl (by kernel_rfl) (by kernel_rfl) (by kernel_rfl) (fun _ _ _ h => absurd h.1 (by simp)) (Or.inl ⟨by kernel_rfl, ?_⟩) hS ?_
        · intro wx hSx
          obtain ⟨q1, q2, q3, q4, q5, q6⟩ := hSx
          go_simp
        simp only [Act.put, List.setIfInBounds_toArray, List.set_cons_zero, List.set_cons_succ]
        refine takeH 7 (some 27) (.int .i64 day) rfl rfl (by kernel_rfl) (by kernel_rfl) (by kernel_rfl) (fun _ _ _ h => absurd h.1 (by simp)) (Or.inl ⟨by kernel_rfl, ?_⟩) hS ?_
        · intro wx hSx
          obtain ⟨q1, q2, q3, q4, q5, q6⟩ := hSx
          go_simp
        simp only [Act.put, List.setIfInBounds_toArray, List.set_cons_zero, List.set_cons_succ]
        refine anyH_one (i := 8) (by kernel_rfl) rfl (by kernel_rfl) (fun K hK => ?_)
        go_simp
        refine HD.mono ?_
        rintro e w' ⟨rfl, rfl⟩
        refine hK _ _ hS ?_
        clear hK K
        refine takeH 9 (some 29) (.bool true) rfl rfl (by kernel_rfl) (by kernel_rfl) (by kernel_rfl) (fun _ _ _ h => absurd h.1 (by simp)) (Or.inl ⟨by kernel_rfl, ?_⟩) hS ?_
        · intro wx hSx
          obtain ⟨q1, q2, q3, q4, q5, q6⟩ := hSx
          go_simp
        simp only [Act.put, List.setIfInBounds_toArray, List.set_cons_zero, List.set_cons_succ]
        refine takeH 10 (some 30) (.pointer (some ⟨b, 0, none⟩)) rfl rfl (by kernel_rfl) (by kernel_rfl) (by kernel_rfl) (fun _ _ _ h => absurd h.1 (by simp)) (Or.inl ⟨by kernel_rfl, ?_⟩) hS ?_
        · intro wx hSx
          obtain ⟨q1, q2, q3, q4, q5, q6⟩ := hSx
          go_simp
        simp only [Act.put, List.setIfInBounds_toArray, List.set_cons_zero, List.set_cons_succ]
        refine takeH 11 (some 31) (.pointer (some ⟨b, 0, none⟩)) rfl rfl (by kernel_rfl) (by kernel_rfl) (by kernel_rfl) (fun _ _ _ h => absurd h.1 (by simp)) (Or.inl ⟨by kernel_rfl, ?_⟩) hS ?_
        · intro wx hSx
          obtain ⟨q1, q2, q3, q4, q5, q6⟩ := hSx
          go_simp
        simp only [Act.put, List.setIfInBounds_toArray, List.set_cons_zero, List.set_cons_succ]
        refine takeH 12 (some 32) (.pointer (some ⟨b, 0, none⟩)) rfl rfl (by kernel_rfl) (by kernel_rfl) (by kernel_rfl) (fun _ _ _ h => absurd h.1 (by simp)) (Or.inl ⟨by kernel_rfl, ?_⟩) hS ?_
        · intro wx hSx
          obtain ⟨q1, q2, q3, q4, q5, q6⟩ := hSx
          go_simp
        simp only [Act.put, List.setIfInBounds_toArray, List.set_cons_zero, List.set_cons_succ]
        refine takeH 13 (some 33) (.pointer (some ⟨b, 1, none⟩)) rfl rfl (by kernel_rfl) (by kernel_rfl) (by kernel_rfl) (fun _ _ _ h => absurd h.1 (by simp)) (Or.inl ⟨by kernel_rfl, ?_⟩) hS ?_
        · intro wx hSx
          obtain ⟨q1, q2, q3, q4, q5, q6⟩ := hSx
          go_simp
        simp only [Act.put, List.setIfInBounds_toArray, List.set_cons_zero, List.set_cons_succ]
        refine takeH 14 (some 34) (.int .u64 g.wd) rfl rfl (by kernel_rfl) (by kernel_rfl) (by kernel_rfl) (fun _ _ _ h => absurd h.1 (by simp)) (Or.inl ⟨by kernel_rfl, ?_⟩) hS ?_
        · intro wx hSx
          obtain ⟨q1, q2, q3, q4, q5, q6⟩ := hSx
          go_simp
        simp only [Act.put, List.setIfInBounds_toArray, List.set_cons_zero, List.set_cons_succ]
        refine takeH 15 (some 35) (.int .i64 weekday) rfl rfl (by kernel_rfl) (by kernel_rfl) (by kernel_rfl) (fun _ _ _ h => absurd h.1 (by simp)) (Or.inl ⟨by kernel_rfl, ?_⟩) hS ?_
        · intro wx hSx
          obtain ⟨q1, q2, q3, q4, q5, q6⟩ := hSx
          go_simp
        simp only [Act.put, List.setIfInBounds_toArray, List.set_cons_zero, List.set_cons_succ]
        refine anyH_one (i := 16) (by kernel_rfl) rfl (by kernel_rfl) (fun K hK => ?_)
        go_simp
        refine HW.mono ?_
        rintro e w' ⟨rfl, rfl⟩
        refine hK _ _ hS ?_
        clear hK K
        refine takeH 17 (some 37) (.bool r2) rfl rfl (by kernel_rfl) (by kernel_rfl) (by kernel_rfl) (fun _ _ _ h => absurd h.1 (by simp)) (Or.inl ⟨by kernel_rfl, ?_⟩) hS ?_
        · intro wx hSx
          obtain ⟨q1, q2, q3, q4, q5, q6⟩ := hSx
          go_simp
        simp only [Act.put, List.setIfInBounds_toArray, List.set_cons_zero, List.set_cons_succ]
        refine wpAnyH_done (by kernel_rfl) ?_ _
        exact ⟨rfl, rfl, rfl⟩
      case imp =>
        clear HD HW hS
        rintro e a' w' ⟨rfl, rfl, rfl⟩
        cases r2
        · gi_wp2
          refine ⟨KeepsOthers.drew _, (Kept.refl _ _ _).drew, hbx.drew, ?_⟩
          rw [List.map_append]
          show Blk W.drew _ ((accum _ (pre.map (·.1.2) ++ [g])).map (Value.int .u64)) 56
          rw [accum_snoc, HFit.out]
          exact hms.drew
        · have hgl : g.mins.length = 23 := hG.ok.hs
          have hpl : ∀ g' ∈ pre.map (·.1.2), g'.mins.length = 23 := by
            intro g' hg'
            obtain ⟨e, _, rfl⟩ := List.mem_map.1 hg'
            obtain ⟨_, _, _, _, hGe⟩ := e.2
            exact hGe.ok.hs
          have hal := accum_len (fun g => fits g.months g.wd month length day weekday) _ hpl
          obtain ⟨am, ham⟩ : ∃ am, accum (fun g => fits g.months g.wd month length day weekday) (pre.map (·.1.2)) = am := ⟨_, rfl⟩
          rw [ham] at hal
          have hms2 : Blk W (w.heap.size + 1 + 1 + 1 + 1 + 1) (am.map (Value.int .u64)) 56 := by rw [← ham]; exact hms
          have HAM : Hid (accum (fun g => fits g.months g.wd month length day weekday) (pre.map (·.1.2)) = am) := ham
          clear ham hms hpl
          gi_wp2
          gi_loopw [38] (fun k wr => ∃ y : Nat, k = .int .i64 y ∧ y ≤ 23 ∧ Boxes w month length day weekday wr ∧ Blk wr (w.heap.size + 1 + 1 + 1 + 1 + 1) ((part am g.mins y).map (Value.int .u64)) 56 ∧ KeepsOthers W wr ∧ Kept w.heap.size (w.heap.size + 1 + 1 + 1 + 1 + 1 + 1) W wr)
            (fun k _ => 23 - (intOf k).toNat)
          case atStart => exact ⟨0, rfl, Nat.zero_le _, hbx.drew, by rw [part_zero]; exact hms2.drew, KeepsOthers.drew _, (Kept.refl _ _ _).drew⟩
          case round =>
            obtain ⟨y, rfl, hy, hbx', hms', hko, hkp⟩ := hrel
            clear hms2
            by_cases hlt : y < 23
            · have hxa : (am.map (Value.int .u64))[y]? = some (.int .u64 (am.getD y 0)) := by
                rw [List.getElem?_map, List.getElem?_eq_getElem (by omega), List.getD, List.getElem?_eq_getElem (by omega)]; rfl
              have hxb : (g.mins.map (Value.int .u64))[y]? = some (.int .u64 (g.mins.getD y 0)) := by
                rw [List.getElem?_map, List.getElem?_eq_getElem (by omega), List.getD, List.getElem?_eq_getElem (by omega)]; rfl
              have hmr := hG.mins.below hbx'.bel (q.old _ hG.f3)
              have hgr := hG.grp.below hbx'.bel (q.old _ hG.f1)
              have hS2 : wr.drew.cell? ⟨w.heap.size + 1 + 1 + 1 + 1 + 1, y, none⟩ = some (.int .u64 (am.getD y 0)) ∧ wr.drew.cell? ⟨b, 2, none⟩ = some (.pointer (some ⟨bm, 0, none⟩)) ∧ wr.drew.cell? ⟨bm, y, none⟩ = some (.int .u64 (g.mins.getD y 0)) := by
                refine ⟨?_, hgr.cell 2, (hmr.cell y).trans hxb⟩
                rw [hms'.drew.cell y, List.getElem?_map, part_at _ _ _ hal hgl hlt]; rfl
              have hfz : wr.drew.frozen? ⟨w.heap.size + 1 + 1 + 1 + 1 + 1, y, none⟩ = false := hms'.drew.frozen y
              have HST := part_step am g.mins y hal hgl hlt
              have hyi : (y : Int) < 23 := by omega
              obtain ⟨xa, hxa'⟩ : ∃ xa, am.getD y 0 = xa := ⟨_, rfl⟩
              obtain ⟨xb, hxb'⟩ : ∃ xb, g.mins.getD y 0 = xb := ⟨_, rfl⟩
              rw [hxa', hxb'] at HST hS2
              have HST2 : Hid (((part am g.mins y).map (Value.int .u64)).set y (.int .u64 (orI xa xb)) = (part am g.mins (y + 1)).map (Value.int .u64)) := HST
              clear HST hxa hxb hxa' hxb'
              gi_wp2
              refine Code.wpIn_mono (Q := fun e a' w' => e = .normal ∧ a' = { tmps := #[.pointer (some ⟨c, 0, none⟩), .int .i64 i, .int .i64 month, .int .i64 length, .int .i64 day, .int .i64 weekday, undef, undef, .pointer (some ⟨w.heap.size, 0, none⟩), .pointer (some ⟨w.heap.size + 1, 0, none⟩), .pointer (some ⟨w.heap.size + 1 + 1, 0, none⟩), .pointer (some ⟨w.heap.size + 1 + 1 + 1, 0, none⟩), .pointer (some ⟨w.heap.size + 1 + 1 + 1 + 1, 0, none⟩), .pointer (some ⟨w.heap.size + 1 + 1 + 1 + 1 + 1, 0, none⟩), .pointer (some ⟨b, 0, none⟩), .int .i64 y, .pointer (some ⟨c, 0, none⟩), .int .i64 i, .func (.func 28) #[] #[.pointer (some ⟨w.heap.size + 1 + 1 + 1 + 1 + 1 + 1, 0, none⟩), .pointer (some ⟨w.heap.size + 1 + 1 + 1 + 1 + 1 + 1 + 1, 0, none⟩)], .pointer (some ⟨b, 0, none⟩), .pointer (some ⟨b, 0, none⟩), .pointer (some ⟨b, 0, none⟩), .pointer (some ⟨b, 0, none⟩), .pointer (some ⟨b, 0, none⟩), .pointer (some ⟨bd, 0, none⟩), .int .i64 month, .int .i64 length, .int .i64 day, .bool true, .bool true, .pointer (some ⟨b, 0, none⟩), .pointer (some ⟨b, 0, none⟩), .pointer (some ⟨b, 0, none⟩), .pointer (some ⟨b, 1, none⟩), .int .u64 g.wd, .int .i64 weekday, .bool true, .bool true, .int .i64 y, .bool true, .int .i64 y, .int .i64 y, .pointer (some ⟨w.heap.size + 1 + 1 + 1 + 1 + 1, y, none⟩), .int .u64 xa, .pointer (some ⟨b, 0, none⟩), .pointer (some ⟨b, 0, none⟩), .pointer (some ⟨b, 2, none⟩), .pointer (some ⟨bm, 0, none⟩), .int .i64 y, .pointer (some ⟨bm, 0, none⟩), .pointer (some ⟨bm, y, none⟩), .int .u64 xb, .int .u64 (orI xa xb), .pointer (some ⟨w.heap.size + 1 + 1 + 1 + 1 + 1, y, none⟩), u54, undef], defers := [] } ∧ w' = wr.drew.setCell ⟨w.heap.size + 1 + 1 + 1 + 1 + 1, y, none⟩ (.int .u64 (orI xa xb))) ?imp2 ?main2
              case main2 =>
                clear hin hn hL hbx hbx' hms' hgW hdW hmW HFit HST2 hko hkp hmr hgr
                refine region_round l _ (by kernel_rfl) (by kernel_rfl) (by rintro ⟨a, w, h⟩; exact absurd h.1 (by simp)) (any_of_T (S := fun w' => w'.cell? ⟨w.heap.size + 1 + 1 + 1 + 1 + 1, y, none⟩ = some (.int .u64 xa) ∧ w'.cell? ⟨b, 2, none⟩ = some (.pointer (some ⟨bm, 0, none⟩)) ∧ w'.cell? ⟨bm, y, none⟩ = some (.int .u64 xb)) (last := 13) _ _ _ _ ?_)
                refine takeT 0 (some 41) (.int .i64 y) rfl rfl (by kernel_rfl) (by kernel_rfl) (by kernel_rfl) (by kernel_rfl) (by decide) (fun _ _ _ h => absurd h.1 (by simp)) (Or.inl ⟨by kernel_rfl, ?_⟩) hS2 ?_
                · intro wx hSx
                  obtain ⟨q1, q2, q3⟩ := hSx
                  go_simp
                simp only [Act.put, List.setIfInBounds_toArray, List.set_cons_zero, List.set_cons_succ]
                refine takeT 1 (some 42) (.pointer (some ⟨w.heap.size + 1 + 1 + 1 + 1 + 1, y, none⟩)) rfl rfl (by kernel_rfl) (by kernel_rfl) (by kernel_rfl) (by kernel_rfl) (by decide) (fun _ _ _ h => absurd h.1 (by simp)) (Or.inl ⟨by kernel_rfl, ?_⟩) hS2 ?_
                · intro wx hSx
                  obtain ⟨q1, q2, q3⟩ := hSx
                  go_simp
                simp only [Act.put, List.setIfInBounds_toArray, List.set_cons_zero, List.set_cons_succ]
                refine takeT 2 (some 43) (.int .u64 xa) rfl rfl (by kernel_rfl) (by kernel_rfl) (by kernel_rfl) (by kernel_rfl) (by decide) (fun _ _ _ h => absurd h.1 (by simp)) (Or.inl ⟨by kernel_rfl, ?_⟩) hS2 ?_
                · intro wx hSx
                  obtain ⟨q1, q2, q3⟩ := hSx
                  go_simp
                simp only [Act.put, List.setIfInBounds_toArray, List.set_cons_zero, List.set_cons_succ]
                refine takeT 3 (some 44) (.pointer (some ⟨b, 0, none⟩)) rfl rfl (by kernel_rfl) (by kernel_rfl) (by kernel_rfl) (by kernel_rfl) (by decide) (fun _ _ _ h => absurd h.1 (by simp)) (Or.inl ⟨by kernel_rfl, ?_⟩) hS2 ?_
                · intro wx hSx
                  obtain ⟨q1, q2, q3⟩ := hSx
                  go_simp
                simp only [Act.put, List.setIfInBounds_toArray, List.set_cons_zero, List.set_cons_succ]
                refine takeT 4 (some 45) (.pointer (some ⟨b, 0, none⟩)) rfl rfl (by kernel_rfl) (by kernel_rfl) (by kernel_rfl) (by kernel_rfl) (by decide) (fun _ _ _ h => absurd h.1 (by simp)) (Or.inl ⟨by kernel_rfl, ?_⟩) hS2 ?_
                · intro wx hSx
                  obtain ⟨q1, q2, q3⟩ := hSx
                  go_simp
                simp only [Act.put, List.setIfInBounds_toArray, List.set_cons_zero, List.set_cons_succ]
                refine takeT 5 (some 46) (.pointer (some ⟨b, 2, none⟩)) rfl rfl (by kernel_rfl) (by kernel_rfl) (by kernel_rfl) (by kernel_rfl) (by decide) (fun _ _ _ h => absurd h.1 (by simp)) (Or.inl ⟨by kernel_rfl, ?_⟩) hS2 ?_
                · intro wx hSx
                  obtain ⟨q1, q2, q3⟩ := hSx
                  go_simp
                simp only [Act.put, List.setIfInBounds_toArray, List.set_cons_zero, List.set_cons_succ]
                refine takeT 6 (some 47) (.pointer (some ⟨bm, 0, none⟩)) rfl rfl (by kernel_rfl) (by kernel_rfl) (by kernel_rfl) (by kernel_rfl) (by decide) (fun _ _ _ h => absurd h.1 (by simp)) (Or.inl ⟨by kernel_rfl, ?_⟩) hS2 ?_
                · intro wx hSx
                  obtain ⟨q1, q2, q3⟩ := hSx
                  go_simp
                simp only [Act.put, List.setIfInBounds_toArray, List.set_cons_zero, List.set_cons_succ]
                refine takeT 7 (some 48) (.int .i64 y) rfl rfl (by kernel_rfl) (by kernel_rfl) (by kernel_rfl) (by kernel_rfl) (by decide) (fun _ _ _ h => absurd h.1 (by simp)) (Or.inl ⟨by kernel_rfl, ?_⟩) hS2 ?_
                · intro wx hSx
                  obtain ⟨q1, q2, q3⟩ := hSx
                  go_simp
                simp only [Act.put, List.setIfInBounds_toArray, List.set_cons_zero, List.set_cons_succ]
                refine takeT 8 (some 49) (.pointer (some ⟨bm, 0, none⟩)) rfl rfl (by kernel_rfl) (by kernel_rfl) (by kernel_rfl) (by kernel_rfl) (by decide) (fun _ _ _ h => absurd h.1 (by simp)) (Or.inl ⟨by kernel_rfl, ?_⟩) hS2 ?_
                · intro wx hSx
                  obtain ⟨q1, q2, q3⟩ := hSx
                  go_simp
                simp only [Act.put, List.setIfInBounds_toArray, List.set_cons_zero, List.set_cons_succ]
                refine takeT 9 (some 50) (.pointer (some ⟨bm, y, none⟩)) rfl rfl (by kernel_rfl) (by kernel_rfl) (by kernel_rfl) (by kernel_rfl) (by decide) (fun _ _ _ h => absurd h.1 (by simp)) (Or.inl ⟨by kernel_rfl, ?_⟩) hS2 ?_
                · intro wx hSx
                  obtain ⟨q1, q2, q3⟩ := hSx
                  go_simp
                simp only [Act.put, List.setIfInBounds_toArray, List.set_cons_zero, List.set_cons_succ]
                refine takeT 10 (some 51) (.int .u64 xb) rfl rfl (by kernel_rfl) (by kernel_rfl) (by kernel_rfl) (by kernel_rfl) (by decide) (fun _ _ _ h => absurd h.1 (by simp)) (Or.inl ⟨by kernel_rfl, ?_⟩) hS2 ?_
                · intro wx hSx
                  obtain ⟨q1, q2, q3⟩ := hSx
                  go_simp
                simp only [Act.put, List.setIfInBounds_toArray, List.set_cons_zero, List.set_cons_succ]
                refine takeT 11 (some 52) (.int .u64 (orI xa xb)) rfl rfl (by kernel_rfl) (by kernel_rfl) (by kernel_rfl) (by kernel_rfl) (by decide) (fun _ _ _ h => absurd h.1 (by simp)) (Or.inl ⟨by kernel_rfl, ?_⟩) hS2 ?_
                · intro wx hSx
                  obtain ⟨q1, q2, q3⟩ := hSx
                  go_simp
                  rfl
                simp only [Act.put, List.setIfInBounds_toArray, List.set_cons_zero, List.set_cons_succ]
                refine takeT 12 (some 53) (.pointer (some ⟨w.heap.size + 1 + 1 + 1 + 1 + 1, y, none⟩)) rfl rfl (by kernel_rfl) (by kernel_rfl) (by kernel_rfl) (by kernel_rfl) (by decide) (fun _ _ _ h => absurd h.1 (by simp)) (Or.inl ⟨by kernel_rfl, ?_⟩) hS2 ?_
                · intro wx hSx
                  obtain ⟨q1, q2, q3⟩ := hSx
                  go_simp
                simp only [Act.put, List.setIfInBounds_toArray, List.set_cons_zero, List.set_cons_succ]
                refine anyT_one (i := 13) (by kernel_rfl) rfl (by kernel_rfl) (fun K hK => ?_)
                go_simp
                refine hK _ _ (fun h => absurd rfl h) ?_
                refine anyT_done (by kernel_rfl) ?_ _
                exact ⟨rfl, rfl, rfl⟩
              case imp2 =>
                clear hS2 hfz
                rintro e a' w' ⟨rfl, rfl, rfl⟩
                gi_wp2
                go_roundw
                case rel => exact ⟨y + 1, by go_num, by omega, hbx'.drew.set y _, by rw [← HST2.out]; exact hms'.drew.set y _, (hko.trans (KeepsOthers.drew _)).trans (KeepsOthers.setCell _ _ _), ⟨hkp.1.drew.setCell (by simp only []; omega) _, (Below.heap_setCell _ _ _ _ (by simp only [ne_eq]; omega)).trans hkp.2⟩⟩
                case measure => simp [intOf]; omega
            · obtain rfl : y = 23 := by omega
              gi_wp2
              refine ⟨hko, hkp, hbx', ?_⟩
              rw [List.map_append]
              show Blk _ _ ((accum _ (pre.map (·.1.2) ++ [g])).map (Value.int .u64)) 56
              rw [accum_snoc, HFit.out, HAM.out]
              rw [part_all _ _ hal hgl] at hms'
              exact hms'
  case done =>
    rintro D ys W hD hys ⟨hbx, hms⟩ hK
    rw [hys] at hms
    have hlen : ((accum (fun g => fits g.months g.wd month length day weekday) (along L (n + i))).map (Value.int .u64)).length = 23 := by
      rw [List.length_map, ← hys]
      refine accum_len _ _ ?_
      intro g' hg'
      obtain ⟨e, _, rfl⟩ := List.mem_map.1 hg'
      obtain ⟨_, _, _, _, hGe⟩ := e.2
      exact hGe.ok.hs
    have hone : ∀ v ∈ (accum (fun g => fits g.months g.wd month length day weekday) (along L (n + i))).map (Value.int .u64), v.oneCell' = true := by
      intro v hv
      obtain ⟨_, _, rfl⟩ := List.mem_map.1 hv
      rfl
    obtain ⟨cs, hcs⟩ : ∃ cs, (accum (fun g => fits g.months g.wd month length day weekday) (along L (n + i))).map (Value.int .u64) = cs := ⟨_, rfl⟩
    rw [hcs] at hms hlen hone
    have HC : Hid ((accum (fun g => fits g.months g.wd month length day weekday) (along L (n + i))).map (Value.int .u64) = cs) := hcs
    have hU : Try.prog.underlying 56 = some (.array 23 26) := by kernel_rfl
    have HU : Hid (Try.prog.underlying 56 = some (.array 23 26)) := hU
    clear hU
    have hI : (Try.prog.info? 56).map (·.size) = some cs.length := by rw [hlen]; kernel_rfl
    have HA : Hid (W.rangeAt (w.heap.size + 1 + 1 + 1 + 1 + 1) 0 cs ∧ (Try.prog.info? 56).map (·.size) = some cs.length ∧ Blk W (w.heap.size + 1 + 1 + 1 + 1) zeros 56 ∧ zeros.length = cs.length ∧ (∀ v ∈ cs, v.oneCell' = true)) := ⟨hms.range, hI, hbx.b4, by rw [hlen]; rfl, hone⟩
    have HB : Hid (W.heap[D]? = some (.deferred (some [])) ∧ W0.heap.size ≤ D ∧ Below w.heap.size w W ∧ W0.heap.size = w.heap.size + 8) := ⟨hK, hD, hbx.bel, hsz⟩
    clear hms hlen hone hcs hI hbx hys hD hsz HS hK hin hn hL
    rename_i K1 hgo
    refine hgo _ _ (wpIn_wide.2 ?_)
    clear hgo K1
    go_wp2_with (first | (refine wpList_load_mid rfl 56 (.tmp 13) rfl _ _ rfl _ _ HA.out.1 HU.out rfl HA.out.2.1 ?_) | (refine wpList_store_put rfl 56 (.tmp 12) (.tmp 55) rfl (w.heap.size + 1 + 1 + 1 + 1) 56 zeros cs rfl rfl HA.out.2.2.1 HA.out.2.1 HA.out.2.2.2.1 HA.out.2.2.2.2 ?_))
    intro w4 HP
    go_wp2
    obtain ⟨hKd, hD2, hbel, hz0⟩ := HB.out
    have hp := HP.out
    have hk4 : w4.heap[D]? = some (.deferred (some [])) := (hp.other D (by omega)).trans hKd
    refine ⟨by simp, .inl ⟨_, _, rfl, run_takeDeferred hk4, ?_⟩⟩
    refine ⟨_, results_cell_row rfl _ _ (w.heap.size + 1 + 1 + 1 + 1) 56 cs.toArray (0, 0) _ rfl ?_ HU.out rfl (by simpa using HA.out.2.1), by rw [HC.out], ?_⟩
    · exact (World.putObj_heap_other (by omega)).trans hp.blk
    · have hb4 : Below w.heap.size W w4 := ⟨hp.os, hp.tape, hp.output, Nat.le_of_eq hp.size.symm, fun b hb => hp.other b (by omega)⟩
      exact (hbel.trans hb4).trans (belowK_b (w := w) (Nat.le_refl _) w4 D _ _ (by omega) hk4 rfl rfl)

end Go.Proofs.Qxb6615962a
