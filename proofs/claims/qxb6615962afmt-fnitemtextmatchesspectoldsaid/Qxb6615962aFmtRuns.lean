import Derived.Test.Qxb6615962aFmtNames
import Derived.BigQuiet
import Derived.Lib.Join
namespace Go.Proofs.Qxb6615962aFmt
open Go.RowKit
set_option linter.unusedSimpArgs false

/-! ### the plain functions -/

/-- The maximal runs of numbers in a row. -/
def grp : Int → Int → List Int → List (Int × Int)
  | lo, hi, [] => [(lo, hi)]
  | lo, hi, x :: r => if x = hi + 1 then grp lo x r else (lo, hi) :: grp x x r

def groups : List Int → List (Int × Int)
  | [] => []
  | x :: r => grp x x r

def runT (k : Nat) (p : Int × Int) : List UInt8 := nameT k p.1 ++ (if p.1 < p.2 then 45 :: nameT k p.2 else [])
def runsT (k : Nat) (L : List (Int × Int)) : List UInt8 := Lib.join (L.map (runT k)) [44, 32]

theorem runT_len (k : Nat) (p : Int × Int) : (runT k p).length ≤ 7 := by
  unfold runT
  have h1 := nameT_len k p.1
  have h2 := nameT_len k p.2
  rw [List.length_append]
  split
  · simp only [List.length_cons]; omega
  · simp only [List.length_nil]; omega

theorem join_snoc (sep : List UInt8) : ∀ (L : List (List UInt8)) (x : List UInt8), L ≠ [] → Lib.join (L ++ [x]) sep = Lib.join L sep ++ (sep ++ x)
  | [], _, h => absurd rfl h
  | [a], x, _ => by simp [Lib.join, List.intercalate, List.intersperse]
  | a :: b :: r, x, _ => by
    have ih := join_snoc sep (b :: r) x (by simp)
    simp only [Lib.join, List.intercalate, List.cons_append, List.intersperse, List.flatten_cons, List.append_assoc] at ih ⊢
    rw [ih]

theorem runsT_nil (k : Nat) : runsT k [] = [] := rfl
theorem runsT_one (k : Nat) (p : Int × Int) : runsT k [p] = runT k p := by simp [runsT, Lib.join, List.intercalate]
theorem runsT_snoc (k : Nat) (L : List (Int × Int)) (p : Int × Int) (h : L ≠ []) : runsT k (L ++ [p]) = runsT k L ++ ([44, 32] ++ runT k p) := by
  unfold runsT
  rw [List.map_append]
  exact join_snoc _ _ _ (by simpa using h)

theorem runsT_cons (k : Nat) (p q : Int × Int) (r : List (Int × Int)) : runsT k (p :: q :: r) = runT k p ++ ([44, 32] ++ runsT k (q :: r)) := by
  simp only [runsT, Lib.join, List.intercalate, List.map_cons, List.intersperse, List.flatten_cons]

theorem runsT_len (k : Nat) : ∀ L : List (Int × Int), (runsT k L).length ≤ 9 * L.length
  | [] => by simp [runsT_nil]
  | [p] => by
    have := runT_len k p
    rw [runsT_one, List.length_singleton]; omega
  | p :: q :: r => by
    have := runT_len k p
    have ih := runsT_len k (q :: r)
    rw [runsT_cons]
    simp only [List.length_append, List.length_cons, List.length_nil] at ih ⊢
    omega

/-- The number at place j. -/
def at0 (xs : List Int) (j : Nat) : Int := xs.getD j 0

theorem getD_eq {xs : List Int} {j : Nat} (h : j < xs.length) : at0 xs j = xs[j] := by simp [at0, List.getD, h]

theorem groups_drop (xs : List Int) (j : Nat) (h : j < xs.length) : groups (xs.drop j) = grp (at0 xs j) (at0 xs j) (xs.drop (j + 1)) := by
  rw [List.drop_eq_getElem_cons h, getD_eq h]; rfl

theorem grp_on (xs : List Int) (lo hi : Int) (e : Nat) (h : e + 1 < xs.length) (he : at0 xs (e + 1) = hi + 1) : grp lo hi (xs.drop (e + 1)) = grp lo (at0 xs (e + 1)) (xs.drop (e + 2)) := by
  rw [List.drop_eq_getElem_cons h, ← getD_eq h, grp, if_pos he]

theorem grp_end (xs : List Int) (lo hi : Int) (e : Nat) (h : e + 1 < xs.length → at0 xs (e + 1) ≠ hi + 1) : grp lo hi (xs.drop (e + 1)) = (lo, hi) :: groups (xs.drop (e + 1)) := by
  by_cases h1 : e + 1 < xs.length
  · rw [groups_drop xs (e + 1) h1]
    rw [List.drop_eq_getElem_cons h1, ← getD_eq h1, grp, if_neg (h h1)]
  · rw [List.drop_eq_nil_of_le (by omega)]; rfl

/-! ### a slice of ints -/

/-- The slice v holds the numbers xs. -/
def Vals (v : Value) (xs : List Int) (w : World) : Prop :=
  ∃ ao cap, v = .slice ao xs.length cap ∧ (0 < xs.length → ∃ g cur fz, ao = some ⟨g, 0, none⟩ ∧ w.heap[g]? = some (.cells cur 3 fz) ∧ ∀ j, j < xs.length → cur[j]? = some (.int .i64 (at0 xs j)))

theorem Vals.kept {v : Value} {xs : List Int} {w w' : World} {B : Nat} (h : Vals v xs w) (hk : Kp B w w') : Vals v xs w' := by
  obtain ⟨ao, cap, hv, hc⟩ := h
  refine ⟨ao, cap, hv, fun h0 => ?_⟩
  obtain ⟨g, cur, fz, ha, hh, hcell⟩ := hc h0
  exact ⟨g, cur, fz, ha, hk.2 g _ hh (by simp) (by intro c fz' he; simp at he), hcell⟩

theorem Vals.cellAt {g cap : Nat} {xs : List Int} {w : World} (h : Vals (.slice (some ⟨g, 0, none⟩) xs.length cap) xs w) (j : Nat) (hj : j < xs.length) : w.cell? ⟨g, j, none⟩ = some (.int .i64 (at0 xs j)) := by
  obtain ⟨ao, cap', hv, hc⟩ := h
  obtain ⟨g', cur, fz, ha, hh, hcell⟩ := hc (by omega)
  simp only [Value.slice.injEq] at hv
  rw [← hv.1] at ha
  simp only [Option.some.injEq, Addr.mk.injEq, and_true] at ha
  subst ha
  simp only [World.cell?, hh]
  exact hcell j hj

set_option maxRecDepth 100000 in
set_option maxHeartbeats 2000000 in
theorem runs_any (k : Nat) (xs : List Int) (hx : ∀ x ∈ xs, NameOk k x) (hl : xs.length ≤ 1000) (vv : Value) (B : Nat) (v : Value) (bs : List UInt8) (w : World) (hv : Vals vv xs w) (hb : Buf B v bs w) (hlen : bs.length + 9 * xs.length ≤ 140737488355328) :
    Calls Tryf.prog 15 #[v, vv, .int .i64 k] w (Apps B bs (runsT k (groups xs)) w) := by
  obtain ⟨ao, cap, rfl, hc⟩ := id hv
  have HV : Hid (Vals (.slice ao xs.length cap) xs w ∧ (0 < xs.length → ∃ g, ao = some ⟨g, 0, none⟩)) := ⟨hv, fun h0 => by obtain ⟨g, _, _, ha, _⟩ := hc h0; exact ⟨g, ha⟩⟩
  have HX : Hid (∀ j, j < xs.length → NameOk k (at0 xs j)) := fun j hj => hx _ (by rw [getD_eq hj]; exact List.getElem_mem hj)
  have HB : Hid (Buf B v bs w ∧ bs.length + 9 * xs.length ≤ 140737488355328) := ⟨hb, hlen⟩
  clear hv hc hx hb hlen
  obtain ⟨n, hn⟩ : ∃ n, xs.length = n := ⟨_, rfl⟩
  rw [hn] at HV HX HB hl ⊢
  have HN : Hid (xs.length = n) := hn
  clear hn
  go_enter Tryf.func15, Tryf.ntmps15
  go_wp2
  go_loopw [0, 7] (fun v' j wr => ∃ (y : Nat) (done : List (Int × Int)), j = .int .i64 y ∧ y ≤ n ∧ done.length ≤ y ∧ (y = 0 ↔ done = []) ∧ groups xs = done ++ groups (xs.drop y) ∧ Buf B v' (bs ++ runsT k done) wr ∧ Kp B w wr)
    (fun _ j _ => n - (intOf j).toNat)
  case atStart => exact ⟨0, [], rfl, Nat.zero_le _, Nat.le_refl _, by simp, by simp, by simpa [runsT_nil] using HB.out.1, Kp.refl _ _⟩
  case round =>
    obtain ⟨y, done, rfl, hy, hdl, hd0, hgr, hbuf, hkp⟩ := hrel
    by_cases hlt : y < n
    · obtain ⟨g, rfl⟩ := HV.out.2 (by omega)
      have hcs : ∀ j, j < n → wr.cell? ⟨g, j, none⟩ = some (.int .i64 (at0 xs j)) := by
        have h1 := HV.out.1.kept hkp
        rw [← HN.out] at h1 ⊢
        exact fun j hj => h1.cellAt j hj
      have HC : Hid (∀ w', Kp B w w' → ∀ j, j < n → w'.cell? ⟨g, j, none⟩ = some (.int .i64 (at0 xs j))) := by
        intro w' hk'
        have h1 := HV.out.1.kept hk'
        rw [← HN.out] at h1 ⊢
        exact fun j hj => h1.cellAt j hj
      have HR : Hid (done.length ≤ y ∧ (y = 0 ↔ done = []) ∧ groups xs = done ++ groups (xs.drop y)) := ⟨hdl, hd0, hgr⟩
      clear hdl hd0 hgr
      go_wp2
      go_loopw [8] (fun e wq => ∃ z : Nat, e = .int .i64 z ∧ y ≤ z ∧ z < n ∧ at0 xs z = at0 xs y + ((z : Int) - y) ∧ grp (at0 xs y) (at0 xs z) (xs.drop (z + 1)) = groups (xs.drop y) ∧ (∀ j, j < n → wq.cell? ⟨g, j, none⟩ = some (.int .i64 (at0 xs j))) ∧ Buf B u0 (bs ++ runsT k done) wq ∧ Kp B w wq)
        (fun e _ => n - (intOf e).toNat)
      case atStart => exact ⟨y, rfl, Nat.le_refl _, hlt, by omega, (groups_drop xs y (by have := HN.out; omega)).symm, hcs, hbuf, hkp⟩
      case round =>
        clear hcs hbuf hkp
        obtain ⟨z, rfl, hyz, hzn, hval, hgrp, hcs, hbuf, hkp⟩ := hrel
        have HR2 : Hid (at0 xs z = at0 xs y + ((z : Int) - y) ∧ grp (at0 xs y) (at0 xs z) (xs.drop (z + 1)) = groups (xs.drop y) ∧ (∀ j, j < n → wr.cell? ⟨g, j, none⟩ = some (.int .i64 (at0 xs j))) ∧ Buf B u0 (bs ++ runsT k done) wr ∧ Kp B w wr) := ⟨hval, hgrp, hcs, hbuf, hkp⟩
        clear hval hgrp hbuf hkp
        have hoz := HX.out z hzn
        have HL : Hid (bs.length + (runsT k done).length + 9 ≤ 140737488355328) := by
          have h1 := runsT_len k done
          have h2 := HR.out.1
          have h3 := HB.out.2
          show bs.length + (runsT k done).length + 9 ≤ 140737488355328
          omega
        have c0 := hcs z hzn
        have hb0 : -100 < at0 xs z ∧ at0 xs z < 100 := by rcases hoz with ⟨_, h1, h2⟩ | ⟨_, h1, h2⟩ <;> exact ⟨by omega, by omega⟩
        obtain ⟨hv1, hv2⟩ := hb0
        clear hoz
        have hw1 : IntKind.i64.wrap ((z : Int) + 1) = (z : Int) + 1 := IntWalk.i64_in _ ⟨by omega, by omega⟩
        have hw2 : IntKind.i64.wrap (at0 xs z + 1) = at0 xs z + 1 := IntWalk.i64_in _ ⟨by omega, by omega⟩
        by_cases hz1 : z + 1 < n
        · have c1 := hcs (z + 1) hz1
          clear hcs
          have hzi : (z : Int) + 1 < (n : Int) := by omega
          by_cases heq : at0 xs (z + 1) = at0 xs z + 1
          · rw [heq] at c1
            go_wp2_with fail
            go_quiet (fail)
            go_wp2
            go_roundw
            case rel =>
              obtain ⟨hval, hgrp, hcs, hbuf, hkp⟩ := HR2.out
              refine ⟨z + 1, by go_num, by omega, hz1, by rw [heq]; omega, ?_, hcs, hbuf, hkp.drewN nq⟩
              rw [← hgrp, grp_on xs _ _ z (by have := HN.out; omega) heq]
            case measure => simp [intOf] <;> omega
          · have hne : (at0 xs (z + 1) == at0 xs z + 1) = false := by simpa using heq
            have HE : Hid (at0 xs (z + 1) ≠ at0 xs z + 1) := heq
            clear heq
            go_wp2_with fail
            go_quiet (fail)
            have hbq : Buf B u0 (bs ++ runsT k done) (wr.drewN nq) := HR2.out.2.2.2.1
            have hkq : Kp B w (wr.drewN nq) := HR2.out.2.2.2.2.drewN nq
            by_cases hy0 : y = 0
            · subst hy0
              have hdn : done = [] := HR.out.2.1.1 rfl
              subst hdn

              have cx2 := HC.out (wr.drewN nq) hkq 0 hlt
              go_wp2_with fail
              refine (name_any k _ (HX.out 0 hlt) B u0 _ (wr.drewN nq) hbq (by have := HL.out; have := nameT_len k (at0 xs 0); have := nameT_len k (at0 xs z); simp only [List.length_append, List.length_cons, List.length_nil]; omega)).mono ?_
              rintro r2 w2 ⟨v2, rfl, hb2, hk2⟩
              have hK2 := hkq.trans hk2
              clear cx2
              by_cases hzy : 0 < z
              · go_wp2_with (refine wpList_app_bytes rfl _ _ rfl B v2 _ [45] w2 rfl hb2 _ rfl rfl (by have := HL.out; have := nameT_len k (at0 xs 0); have := nameT_len k (at0 xs z); simp only [List.length_append, List.length_cons, List.length_nil]; omega) ?_)
                intro v3 w3 hb3 hk3
                have hK3 := hK2.trans hk3

                have cx4 := HC.out w3 hK3 z hzn
                go_wp2_with fail
                refine (name_any k _ (HX.out z hzn) B v3 _ w3 hb3 (by have := HL.out; have := nameT_len k (at0 xs 0); have := nameT_len k (at0 xs z); simp only [List.length_append, List.length_cons, List.length_nil]; omega)).mono ?_
                rintro r4 w4 ⟨v4, rfl, hb4, hk4⟩
                have hK4 := hK3.trans hk4
                clear cx4
                go_wp2

                go_roundw
                case rel =>
                  refine ⟨z + 1, ([] : List (Int × Int)) ++ [(at0 xs 0, at0 xs z)], by go_num, by omega, by have := HR.out.1; simp <;> omega, by simp, ?_, ?_, hK4⟩
                  · rw [HR.out.2.2, ← HR2.out.2.1, grp_end xs _ _ z (fun h1 h2 => HE.out h2), List.append_assoc]; rfl
                  · have hlo : (at0 xs 0, at0 xs z).1 < (at0 xs 0, at0 xs z).2 := by have := HR2.out.1; dsimp only; omega
                    have e : runT k (at0 xs 0, at0 xs z) = nameT k (at0 xs 0) ++ 45 :: nameT k (at0 xs z) := by rw [runT, if_pos hlo]
                    rw [List.nil_append, runsT_one, e]
                    simpa [runsT_nil] using hb4
                case measure => simp [intOf] <;> omega
              · go_wp2

                go_roundw
                case rel =>
                  refine ⟨z + 1, ([] : List (Int × Int)) ++ [(at0 xs 0, at0 xs z)], by go_num, by omega, by have := HR.out.1; simp <;> omega, by simp, ?_, ?_, hK2⟩
                  · rw [HR.out.2.2, ← HR2.out.2.1, grp_end xs _ _ z (fun h1 h2 => HE.out h2), List.append_assoc]; rfl
                  · have hlo : ¬ ((at0 xs 0, at0 xs z).1 < (at0 xs 0, at0 xs z).2) := by have := HR2.out.1; dsimp only; omega
                    have e : runT k (at0 xs 0, at0 xs z) = nameT k (at0 xs 0) := by rw [runT, if_neg hlo, List.append_nil]
                    rw [List.nil_append, runsT_one, e]
                    simpa [runsT_nil] using hb2
                case measure => simp [intOf] <;> omega
            · have hdn : done ≠ [] := fun h => hy0 (HR.out.2.1.2 h)
              have HD : Hid (done ≠ []) := hdn
              have hy1 : 0 < y := by omega
              clear hdn
              go_wp2_with (refine wpList_app_str rfl _ _ rfl B u0 _ rfl hbq ⟨#[44, 32]⟩ rfl (by have := HL.out; simp only [List.length_append, List.length_cons, List.length_nil]; omega) ?_)
              intro v1 w1 hb1 hk1
              have hK1 := hkq.trans hk1

              have cx2 := HC.out w1 hK1 y hlt
              go_wp2_with fail
              refine (name_any k _ (HX.out y hlt) B v1 _ w1 hb1 (by have := HL.out; have := nameT_len k (at0 xs y); have := nameT_len k (at0 xs z); simp only [List.length_append, List.length_cons, List.length_nil]; omega)).mono ?_
              rintro r2 w2 ⟨v2, rfl, hb2, hk2⟩
              have hK2 := hK1.trans hk2
              clear cx2
              by_cases hzy : y < z
              · go_wp2_with (refine wpList_app_bytes rfl _ _ rfl B v2 _ [45] w2 rfl hb2 _ rfl rfl (by have := HL.out; have := nameT_len k (at0 xs y); have := nameT_len k (at0 xs z); simp only [List.length_append, List.length_cons, List.length_nil]; omega) ?_)
                intro v3 w3 hb3 hk3
                have hK3 := hK2.trans hk3

                have cx4 := HC.out w3 hK3 z hzn
                go_wp2_with fail
                refine (name_any k _ (HX.out z hzn) B v3 _ w3 hb3 (by have := HL.out; have := nameT_len k (at0 xs y); have := nameT_len k (at0 xs z); simp only [List.length_append, List.length_cons, List.length_nil]; omega)).mono ?_
                rintro r4 w4 ⟨v4, rfl, hb4, hk4⟩
                have hK4 := hK3.trans hk4
                clear cx4
                go_wp2

                go_roundw
                case rel =>
                  refine ⟨z + 1, done ++ [(at0 xs y, at0 xs z)], by go_num, by omega, by have := HR.out.1; simp <;> omega, by simp, ?_, ?_, hK4⟩
                  · rw [HR.out.2.2, ← HR2.out.2.1, grp_end xs _ _ z (fun h1 h2 => HE.out h2), List.append_assoc]; rfl
                  · have hlo : (at0 xs y, at0 xs z).1 < (at0 xs y, at0 xs z).2 := by have := HR2.out.1; dsimp only; omega
                    have e : runT k (at0 xs y, at0 xs z) = nameT k (at0 xs y) ++ 45 :: nameT k (at0 xs z) := by rw [runT, if_pos hlo]
                    rw [runsT_snoc k _ _ HD.out, e]
                    simpa [runsT_nil] using hb4
                case measure => simp [intOf] <;> omega
              · go_wp2

                go_roundw
                case rel =>
                  refine ⟨z + 1, done ++ [(at0 xs y, at0 xs z)], by go_num, by omega, by have := HR.out.1; simp <;> omega, by simp, ?_, ?_, hK2⟩
                  · rw [HR.out.2.2, ← HR2.out.2.1, grp_end xs _ _ z (fun h1 h2 => HE.out h2), List.append_assoc]; rfl
                  · have hlo : ¬ ((at0 xs y, at0 xs z).1 < (at0 xs y, at0 xs z).2) := by have := HR2.out.1; dsimp only; omega
                    have e : runT k (at0 xs y, at0 xs z) = nameT k (at0 xs y) := by rw [runT, if_neg hlo, List.append_nil]
                    rw [runsT_snoc k _ _ HD.out, e]
                    simpa [runsT_nil] using hb2
                case measure => simp [intOf] <;> omega
        · clear hcs
          have hzi : decide ((z : Int) + 1 < (n : Int)) = false := decide_eq_false (by omega)
          go_wp2_with fail
          go_quiet (fail)
          have hbq : Buf B u0 (bs ++ runsT k done) (wr.drewN nq) := HR2.out.2.2.2.1
          have hkq : Kp B w (wr.drewN nq) := HR2.out.2.2.2.2.drewN nq
          by_cases hy0 : y = 0
          · subst hy0
            have hdn : done = [] := HR.out.2.1.1 rfl
            subst hdn

            have cx2 := HC.out (wr.drewN nq) hkq 0 hlt
            go_wp2_with fail
            refine (name_any k _ (HX.out 0 hlt) B u0 _ (wr.drewN nq) hbq (by have := HL.out; have := nameT_len k (at0 xs 0); have := nameT_len k (at0 xs z); simp only [List.length_append, List.length_cons, List.length_nil]; omega)).mono ?_
            rintro r2 w2 ⟨v2, rfl, hb2, hk2⟩
            have hK2 := hkq.trans hk2
            clear cx2
            by_cases hzy : 0 < z
            · go_wp2_with (refine wpList_app_bytes rfl _ _ rfl B v2 _ [45] w2 rfl hb2 _ rfl rfl (by have := HL.out; have := nameT_len k (at0 xs 0); have := nameT_len k (at0 xs z); simp only [List.length_append, List.length_cons, List.length_nil]; omega) ?_)
              intro v3 w3 hb3 hk3
              have hK3 := hK2.trans hk3

              have cx4 := HC.out w3 hK3 z hzn
              go_wp2_with fail
              refine (name_any k _ (HX.out z hzn) B v3 _ w3 hb3 (by have := HL.out; have := nameT_len k (at0 xs 0); have := nameT_len k (at0 xs z); simp only [List.length_append, List.length_cons, List.length_nil]; omega)).mono ?_
              rintro r4 w4 ⟨v4, rfl, hb4, hk4⟩
              have hK4 := hK3.trans hk4
              clear cx4
              go_wp2

              go_roundw
              case rel =>
                refine ⟨z + 1, ([] : List (Int × Int)) ++ [(at0 xs 0, at0 xs z)], by go_num, by omega, by have := HR.out.1; simp <;> omega, by simp, ?_, ?_, hK4⟩
                · rw [HR.out.2.2, ← HR2.out.2.1, grp_end xs _ _ z (fun h1 h2 => by have := HN.out; omega), List.append_assoc]; rfl
                · have hlo : (at0 xs 0, at0 xs z).1 < (at0 xs 0, at0 xs z).2 := by have := HR2.out.1; dsimp only; omega
                  have e : runT k (at0 xs 0, at0 xs z) = nameT k (at0 xs 0) ++ 45 :: nameT k (at0 xs z) := by rw [runT, if_pos hlo]
                  rw [List.nil_append, runsT_one, e]
                  simpa [runsT_nil] using hb4
              case measure => simp [intOf] <;> omega
            · go_wp2

              go_roundw
              case rel =>
                refine ⟨z + 1, ([] : List (Int × Int)) ++ [(at0 xs 0, at0 xs z)], by go_num, by omega, by have := HR.out.1; simp <;> omega, by simp, ?_, ?_, hK2⟩
                · rw [HR.out.2.2, ← HR2.out.2.1, grp_end xs _ _ z (fun h1 h2 => by have := HN.out; omega), List.append_assoc]; rfl
                · have hlo : ¬ ((at0 xs 0, at0 xs z).1 < (at0 xs 0, at0 xs z).2) := by have := HR2.out.1; dsimp only; omega
                  have e : runT k (at0 xs 0, at0 xs z) = nameT k (at0 xs 0) := by rw [runT, if_neg hlo, List.append_nil]
                  rw [List.nil_append, runsT_one, e]
                  simpa [runsT_nil] using hb2
              case measure => simp [intOf] <;> omega
          · have hdn : done ≠ [] := fun h => hy0 (HR.out.2.1.2 h)
            have HD : Hid (done ≠ []) := hdn
            have hy1 : 0 < y := by omega
            clear hdn
            go_wp2_with (refine wpList_app_str rfl _ _ rfl B u0 _ rfl hbq ⟨#[44, 32]⟩ rfl (by have := HL.out; simp only [List.length_append, List.length_cons, List.length_nil]; omega) ?_)
            intro v1 w1 hb1 hk1
            have hK1 := hkq.trans hk1

            have cx2 := HC.out w1 hK1 y hlt
            go_wp2_with fail
            refine (name_any k _ (HX.out y hlt) B v1 _ w1 hb1 (by have := HL.out; have := nameT_len k (at0 xs y); have := nameT_len k (at0 xs z); simp only [List.length_append, List.length_cons, List.length_nil]; omega)).mono ?_
            rintro r2 w2 ⟨v2, rfl, hb2, hk2⟩
            have hK2 := hK1.trans hk2
            clear cx2
            by_cases hzy : y < z
            · go_wp2_with (refine wpList_app_bytes rfl _ _ rfl B v2 _ [45] w2 rfl hb2 _ rfl rfl (by have := HL.out; have := nameT_len k (at0 xs y); have := nameT_len k (at0 xs z); simp only [List.length_append, List.length_cons, List.length_nil]; omega) ?_)
              intro v3 w3 hb3 hk3
              have hK3 := hK2.trans hk3

              have cx4 := HC.out w3 hK3 z hzn
              go_wp2_with fail
              refine (name_any k _ (HX.out z hzn) B v3 _ w3 hb3 (by have := HL.out; have := nameT_len k (at0 xs y); have := nameT_len k (at0 xs z); simp only [List.length_append, List.length_cons, List.length_nil]; omega)).mono ?_
              rintro r4 w4 ⟨v4, rfl, hb4, hk4⟩
              have hK4 := hK3.trans hk4
              clear cx4
              go_wp2

              go_roundw
              case rel =>
                refine ⟨z + 1, done ++ [(at0 xs y, at0 xs z)], by go_num, by omega, by have := HR.out.1; simp <;> omega, by simp, ?_, ?_, hK4⟩
                · rw [HR.out.2.2, ← HR2.out.2.1, grp_end xs _ _ z (fun h1 h2 => by have := HN.out; omega), List.append_assoc]; rfl
                · have hlo : (at0 xs y, at0 xs z).1 < (at0 xs y, at0 xs z).2 := by have := HR2.out.1; dsimp only; omega
                  have e : runT k (at0 xs y, at0 xs z) = nameT k (at0 xs y) ++ 45 :: nameT k (at0 xs z) := by rw [runT, if_pos hlo]
                  rw [runsT_snoc k _ _ HD.out, e]
                  simpa [runsT_nil] using hb4
              case measure => simp [intOf] <;> omega
            · go_wp2

              go_roundw
              case rel =>
                refine ⟨z + 1, done ++ [(at0 xs y, at0 xs z)], by go_num, by omega, by have := HR.out.1; simp <;> omega, by simp, ?_, ?_, hK2⟩
                · rw [HR.out.2.2, ← HR2.out.2.1, grp_end xs _ _ z (fun h1 h2 => by have := HN.out; omega), List.append_assoc]; rfl
                · have hlo : ¬ ((at0 xs y, at0 xs z).1 < (at0 xs y, at0 xs z).2) := by have := HR2.out.1; dsimp only; omega
                  have e : runT k (at0 xs y, at0 xs z) = nameT k (at0 xs y) := by rw [runT, if_neg hlo, List.append_nil]
                  rw [runsT_snoc k _ _ HD.out, e]
                  simpa [runsT_nil] using hb2
              case measure => simp [intOf] <;> omega
    · obtain rfl : y = n := by omega
      go_wp2
      go_ret
      refine ⟨_, rfl, ?_, hkp⟩
      rw [hgr, List.drop_eq_nil_of_le (by have := HN.out; omega)]
      simpa [groups] using hbuf
end Go.Proofs.Qxb6615962aFmt
