import Derived.Test.Qxb6615962aFmtYIter
import Derived.Maps.AppendAt
namespace Go.Proofs.Qxb6615962aFmt
open Go.RowKit Go.Shelf

attribute [local go_sem] Oper.semAt_some

theorem Gives.later {α : Type} {gf : Nat} {bd : Array Value} {encs : α → Array Value} {n₀ : Nat} {S : List α → Prop} {N : Nat} {w w' : World} (h : Gives gf bd encs n₀ S N w) (hb : Below w.heap.size w w') : Gives gf bd encs n₀ S N w' :=
  fun l J W hW hJ hY h0 => h l J W (hb.trans (hW.mono hb.size)) hJ hY h0

/-- A string of the bytes t. -/
def sv (t : List UInt8) : Value := .string ⟨t.toArray⟩

/-- What runTexts keeps in its own cells. -/
structure TI (w : World) (nf : Nat) (ts : List (List UInt8)) (W : World) : Prop where
  nb : Boxed W w.heap.size 68 (.func (.func nf) #[] #[])
  tb : ∃ v, Boxed W (w.heap.size + 1) 65 v ∧ W.ownsRow w.heap.size 9 1 v ts.length (ts.map sv)
  bel : Below w.heap.size w W

theorem row_ab {A B : World} {base : Nat} {e : TypeId} {size : Nat} {v : Value} {n : Nat} {xs : List Value} (h : A.ownsRow base e size v n xs) (hk : ∀ (k : Nat) (o : Obj), A.heap[k]? = some o → o.isCells = true → B.heap[k]? = some o) : B.ownsRow base e size v n xs := by
  obtain ⟨h1, h2 | ⟨g, cap, cur, hv, hb, hh, hr⟩⟩ := h
  · exact ⟨h1, .inl h2⟩
  · exact ⟨h1, .inr ⟨g, cap, cur, hv, hb, hk _ _ hh rfl, hr⟩⟩

theorem TI.ab {w : World} {nf : Nat} {ts : List (List UInt8)} {A B : World} {b : Nat} (h : TI w nf ts A) (hk : Ab b A B) (hb : w.heap.size ≤ b) : TI w nf ts B := by
  obtain ⟨v, hv, hr⟩ := h.tb
  exact ⟨hk.2 _ _ h.nb rfl, ⟨v, hk.2 _ _ hv rfl, row_ab hr hk.2⟩, h.bel.trans (hk.1.mono hb)⟩

def txt (nm : Int → List UInt8) (p : Int × Int) : List UInt8 := nm p.1 ++ (if p.1 < p.2 then 45 :: nm p.2 else [])

/-- The texts of the runs that have come. -/
def tsOf {Ok : Int × Int → Prop} (nm : Int → List UInt8) (pre : List (Pr Ok)) : List (List UInt8) := pre.map fun x => txt nm x.1
theorem tsOf_len {Ok : Int × Int → Prop} (nm : Int → List UInt8) (pre : List (Pr Ok)) : (tsOf nm pre).length = pre.length := List.length_map _
theorem tsOf_snoc {Ok : Int × Int → Prop} (nm : Int → List UInt8) (pre : List (Pr Ok)) (x : Pr Ok) : tsOf nm (pre ++ [x]) = tsOf nm pre ++ [txt nm x.1] := List.map_append
theorem tsOf_eq {Ok : Int × Int → Prop} (nm : Int → List UInt8) (pre : List (Pr Ok)) : tsOf nm pre = (pre.map (·.1)).map (txt nm) := by unfold tsOf; rw [List.map_map]; rfl

theorem info9 : (Tryf.prog.info? 9).map (fun i => (i.zero, i.size, i.bytes)) = some (some (.string ByteArray.empty), 1, 16) := by kernel_rfl

/-- The append to the texts leaves every box of a year set. -/
theorem kr_appended {W w1 : World} {n₀ B : Nat} {v v' : Value} {k : Nat} {xs : List Value} {tmp : Obj} (hv : Boxed W B 65 v) (hrow : W.ownsRow n₀ 9 1 v k xs) (hgrow : (W.alloc tmp).grownBy w1 v.ownBlock) (hb : Below n₀ W (w1.setCell ⟨B, 0, none⟩ v')) : Kr n₀ W (w1.setCell ⟨B, 0, none⟩ v') := by
  refine ⟨hb, fun j c fz hj => ?_⟩
  have hjl := (Array.getElem?_eq_some_iff.1 hj).1
  have hjB : j ≠ B := fun e => by subst e; rw [show W.heap[j]? = _ from hv] at hj; cases hj
  rw [Below.heap_setCell _ _ _ _ (fun e => hjB e), hgrow.block j (by simp; omega) ?_, Below.heap_alloc W tmp j hjl]
  · exact hj
  · intro e
    rcases hrow.2 with ⟨rfl, _⟩ | ⟨g, cap, cur, rfl, _, hgb, _⟩
    · simp [Value.ownBlock] at e
    · simp only [Value.ownBlock, Option.some.injEq] at e
      subst e; rw [hgb] at hj; cases hj

theorem ko_below {A B : World} (h : Below A.heap.size A B) : KeepsOthers A B := ⟨h.size, fun k _ hk _ => (h.block k (Array.getElem?_eq_some_iff.1 hk).1).trans hk⟩

theorem sv_cat (a b : List UInt8) : (⟨a.toArray⟩ : ByteArray) ++ (⟨b.toArray⟩ : ByteArray) = ⟨(a ++ b).toArray⟩ := by
  apply ByteArray.ext; simp

set_option maxRecDepth 100000 in
set_option maxHeartbeats 2000000 in
theorem texts_in (gf : Nat) (bd : Array Value) (eg : ∀ args w, (callFunc gf args).run Tryf.prog w = .ok (.enter gf args) w) (Ok : Int × Int → Prop) (L : List (Int × Int)) (N : Nat) (hN : N ≤ 1000000) (n₀ : Nat) (w : World) (hn : n₀ ≤ w.heap.size)
    (hseq : Gives gf bd (encP (Ok := Ok)) n₀ (fun xs => xs.map (·.1) = L) N w) (nf : Nat) (enf : ∀ args w, (callFunc nf args).run Tryf.prog w = .ok (.enter nf args) w) (nm : Int → List UInt8) (hl : ∀ x, (nm x).length ≤ 100)
    (hname : ∀ (x : Pr Ok) (w' : World), Below n₀ w w' → Calls Tryf.prog nf #[.int .i64 x.1.1] w' (fun e w'' => e = .returned (sv (nm x.1.1)) ∧ Below w'.heap.size w' w'') ∧ Calls Tryf.prog nf #[.int .i64 x.1.2] w' (fun e w'' => e = .returned (sv (nm x.1.2)) ∧ Below w'.heap.size w' w'')) :
    CallsIn Fence.wide 5 Tryf.prog 23 #[.func (.func gf) bd #[], .func (.func nf) #[] #[]] w fun e w' => ∃ v, e = .returned v ∧ w'.ownsRow w.heap.size 9 1 v L.length ((L.map (txt nm)).map sv) ∧ Below w.heap.size w w' := by
  have HS : Hid (Gives gf bd (encP (Ok := Ok)) n₀ (fun xs => xs.map (·.1) = L) N w) := hseq
  have HN : Hid (∀ (x : Pr Ok) (w' : World), Below n₀ w w' → Calls Tryf.prog nf #[.int .i64 x.1.1] w' (fun e w'' => e = .returned (sv (nm x.1.1)) ∧ Below w'.heap.size w' w'') ∧ Calls Tryf.prog nf #[.int .i64 x.1.2] w' (fun e w'' => e = .returned (sv (nm x.1.2)) ∧ Below w'.heap.size w' w'')) := hname
  clear hseq hname
  have h1 : Below w.heap.size w ((w.alloc (.cells #[.func (.func nf) #[] #[]] 68)).alloc (.cells #[.slice none 0 0] 65)) := ((Below.refl _ w).alloc (Nat.le_refl _) _).alloc (by simp) _
  have h2 : TI w nf [] ((w.alloc (.cells #[.func (.func nf) #[] #[]] 68)).alloc (.cells #[.slice none 0 0] 65)) :=
    ⟨(Boxed.new w 68 _).alloc _, ⟨_, by have := Boxed.new (w.alloc (.cells #[.func (.func nf) #[] #[]] 68)) 65 (.slice none 0 0); rwa [World.size_alloc] at this, World.ownsRow_nil _ _ _ _⟩, h1⟩
  have hsz : ((w.alloc (.cells #[.func (.func nf) #[] #[]] 68)).alloc (.cells #[.slice none 0 0] 65)).heap.size = w.heap.size + 2 := by simp
  have H0 : Hid (Below w.heap.size w ((w.alloc (.cells #[.func (.func nf) #[] #[]] 68)).alloc (.cells #[.slice none 0 0] 65)) ∧ TI w nf [] ((w.alloc (.cells #[.func (.func nf) #[] #[]] 68)).alloc (.cells #[.slice none 0 0] 65)) ∧ ((w.alloc (.cells #[.func (.func nf) #[] #[]] 68)).alloc (.cells #[.slice none 0 0] 65)).heap.size = w.heap.size + 2) := ⟨h1, h2, hsz⟩
  clear h1 h2 hsz
  obtain ⟨i0, hj0, hj1, hj2, hj3⟩ := info_parts info9
  refine callsIn_of_wp_marks Tryf.func23 rfl trivial ?_ rfl
  simp only [Tryf.ntmps23, List.size_toArray, List.length_cons, List.length_nil, Nat.reduceAdd, Nat.reduceSub, Array.replicate_succ, Array.replicate_zero, List.push_toArray, List.append_toArray, List.nil_append, List.cons_append]
  gi_wp2_with fail
  generalize ((w.alloc (.cells #[.func (.func nf) #[] #[]] 68)).alloc (.cells #[.slice none 0 0] 65)) = W0 at H0 ⊢
  have hz0 : W0.heap.size = w.heap.size + 2 := H0.out.2.2
  refine range_bound (α := Pr Ok) (gf := gf) (bd := bd) rfl eg (n₀ := n₀) (by omega) (HS.out.later H0.out.1) (fun _ => rfl) (fun (pre : List (Pr Ok)) W => TI w nf (tsOf nm pre) W) (fun s A B h hk => h.ab hk (by omega)) H0.out.2.1
    (fun x => { tmps := #[.func (.func gf) bd #[], .func (.func nf) #[] #[], undef, .pointer (some ⟨w.heap.size, 0, none⟩), .slice none 0 0, .pointer (some ⟨w.heap.size + 1, 0, none⟩), .int .i64 x.1.1, .int .i64 x.1.2, undef, .func (.func gf) bd #[], .int .i64 x.1.1, .int .i64 x.1.2, undef, undef, undef, undef, undef, undef, undef, undef, undef, undef, undef, undef, undef, undef, undef, undef, undef], defers := [] }) ?assign ?body ?done
  case assign =>
    intro l x W K hK
    dsimp only [encP]
    gi_wp2
    exact hK
  case body =>
    intro l pre x W hTI hlen
    have hN1 := HN.out x
    have hx1 := hl x.1.1
    have hx2 := hl x.1.2
    obtain ⟨⟨lo, hi⟩, hok⟩ := x
    dsimp only at hN1 hx1 hx2 ⊢
    have hnc := hTI.nb.cell
    have hsW : W0.heap.size ≤ W.heap.size := by obtain ⟨v, hv, _⟩ := hTI.tb; have := hv.lt; omega
    have hbW : Below n₀ w W := hTI.bel.mono hn
    by_cases hlo : lo < hi
    · gi_wp2_with fail
      refine ⟨trivial, ?_⟩
      refine (CallsIn.inRound l (callsIn_wide.2 (hN1 W hbW).1)).mono ?_
      rintro e w2 ⟨rfl, hb2⟩
      have hT2 := hTI.ab (Ab.of_below (B := w.heap.size) hb2 (by omega)) (Nat.le_refl _)
      have hnc2 := hT2.nb.cell
      have hbW2 : Below n₀ w w2 := hT2.bel.mono hn
      unfold sv
      gi_wp2_with fail
      refine ⟨trivial, ?_⟩
      refine (CallsIn.inRound l (callsIn_wide.2 (hN1 w2 hbW2).2)).mono ?_
      rintro e w3 ⟨rfl, hb3⟩
      have hT3 := hT2.ab (Ab.of_below (B := w.heap.size) hb3 (by have := hb2.size; omega)) (Nat.le_refl _)
      unfold sv
      have hsz2 := hb2.size
      have hsz3 := hb3.size
      obtain ⟨v, hv, hrow⟩ := hT3.tb
      rw [tsOf_len] at hrow
      have hvc := hv.cell
      have hBs : w.heap.size ≤ w3.heap.size := hT3.bel.size
      have HR : Hid (Boxed w3 (w.heap.size + 1) 65 v ∧ w3.ownsRow w.heap.size 9 1 v pre.length ((tsOf nm pre).map sv)) := ⟨hv, hrow⟩
      have HE : Hid (sv (txt nm (lo, hi)) = .string (⟨(nm lo).toArray⟩ ++ (⟨#[45]⟩ ++ ⟨(nm hi).toArray⟩))) := by
        show sv _ = _
        rw [txt, if_pos hlo, show (⟨#[45]⟩ : ByteArray) = ⟨[45].toArray⟩ from rfl, sv_cat, sv_cat]; rfl
      clear hv hrow
      gi_wp2_with (gi_at_builtin; refine wpListIn_append_own _ rfl _ _ 65 rfl w.heap.size 9 i0 (.string ByteArray.empty) 1 16 Tryf.underlying65 hj0 hj1 hj2 hj3 rfl (by decide) v pre.length _ rfl (HR.out.2.alloc _) ⟨w3.heap.size, 0, none⟩ 1 1 [.string (⟨(nm lo).toArray⟩ ++ (⟨#[45]⟩ ++ ⟨(nm hi).toArray⟩))] rfl rfl (cell_one_new _ _ _) (by simp [Value.oneCell']) (by unfold maxLen; omega) (by omega) (by simp; omega) ?_; intro v' w4 hown' hgrow _; obtain ⟨g', cap', rfl⟩ := ownsRow_succ hown'; obtain ⟨hv1, hv2, hr2, hk2, hb4⟩ := HR.out.1.appended (by decide) HR.out.2 hBs (by omega) hown' hgrow; have hkr := kr_appended HR.out.1 HR.out.2 hgrow hb4; have hc1 := hv1.cell; have hf1 := hv1.frozen)
      refine ⟨((ko_below hb2).trans (ko_below hb3)).trans hk2, ((Kr.of_below hb2 (by omega)).trans (Kr.of_below hb3 (by omega))).trans ⟨hkr.1.mono hn, hkr.2⟩, ?_⟩
      have hb5 := hb4
      refine ⟨?_, ⟨_, hv2, ?_⟩, hT3.bel.trans hb5⟩
      · have h1 := hT3.nb
        exact (Below.heap_setCell _ _ _ _ (fun e => by have e2 : w.heap.size = w.heap.size + 1 := e; omega)).trans ((hgrow.block _ (by have := h1.lt; simp; omega) (h1.not_row (by decide) HR.out.2)).trans ((Below.heap_alloc _ _ _ h1.lt).trans h1))
      · rw [tsOf_len, tsOf_snoc, List.map_append, List.length_append]
        show World.ownsRow _ _ _ _ _ (pre.length + 1) (_ ++ [sv (txt nm (lo, hi))])
        rw [HE.out]
        exact hr2
    · gi_wp2_with fail
      refine ⟨trivial, ?_⟩
      refine (CallsIn.inRound l (callsIn_wide.2 (hN1 W hbW).1)).mono ?_
      rintro e w2 ⟨rfl, hb2⟩
      have hT2 := hTI.ab (Ab.of_below (B := w.heap.size) hb2 (by omega)) (Nat.le_refl _)
      unfold sv
      have hsz2 := hb2.size
      obtain ⟨v, hv, hrow⟩ := hT2.tb
      rw [tsOf_len] at hrow
      have hvc := hv.cell
      have hBs : w.heap.size ≤ w2.heap.size := hT2.bel.size
      have HR : Hid (Boxed w2 (w.heap.size + 1) 65 v ∧ w2.ownsRow w.heap.size 9 1 v pre.length ((tsOf nm pre).map sv)) := ⟨hv, hrow⟩
      have HE : Hid (sv (txt nm (lo, hi)) = .string ⟨(nm lo).toArray⟩) := by
        show sv _ = _
        rw [txt, if_neg (show ¬ lo < hi by omega), List.append_nil]; rfl
      clear hv hrow
      gi_wp2_with (gi_at_builtin; refine wpListIn_append_own _ rfl _ _ 65 rfl w.heap.size 9 i0 (.string ByteArray.empty) 1 16 Tryf.underlying65 hj0 hj1 hj2 hj3 rfl (by decide) v pre.length _ rfl (HR.out.2.alloc _) ⟨w2.heap.size, 0, none⟩ 1 1 [.string ⟨(nm lo).toArray⟩] rfl rfl (cell_one_new _ _ _) (by simp [Value.oneCell']) (by unfold maxLen; omega) (by omega) (by simp; omega) ?_; intro v' w4 hown' hgrow _; obtain ⟨g', cap', rfl⟩ := ownsRow_succ hown'; obtain ⟨hv1, hv2, hr2, hk2, hb4⟩ := HR.out.1.appended (by decide) HR.out.2 hBs (by omega) hown' hgrow; have hkr := kr_appended HR.out.1 HR.out.2 hgrow hb4; have hc1 := hv1.cell; have hf1 := hv1.frozen)
      refine ⟨(ko_below hb2).trans hk2, (Kr.of_below hb2 (by omega)).trans ⟨hkr.1.mono hn, hkr.2⟩, ?_⟩
      have hb5 := hb4
      refine ⟨?_, ⟨_, hv2, ?_⟩, hT2.bel.trans hb5⟩
      · have h1 := hT2.nb
        exact (Below.heap_setCell _ _ _ _ (fun e => by have e2 : w.heap.size = w.heap.size + 1 := e; omega)).trans ((hgrow.block _ (by have := h1.lt; simp; omega) (h1.not_row (by decide) HR.out.2)).trans ((Below.heap_alloc _ _ _ h1.lt).trans h1))
      · rw [tsOf_len, tsOf_snoc, List.map_append, List.length_append]
        show World.ownsRow _ _ _ _ _ (pre.length + 1) (_ ++ [sv (txt nm (lo, hi))])
        rw [HE.out]
        exact hr2
  case done =>
    intro D xs W hD hxs hTI hK
    obtain ⟨v, hv, hrow⟩ := hTI.tb
    have hvc := hv.cell
    rw [tsOf_len, tsOf_eq, hxs] at hrow
    have HF : Hid (W.ownsRow w.heap.size 9 1 v xs.length ((L.map (txt nm)).map sv) ∧ xs.length = L.length ∧ Below w.heap.size w W ∧ W0.heap.size ≤ D) := ⟨hrow, by rw [← hxs, List.length_map], hTI.bel, hD⟩
    clear hv hrow hxs hTI
    gi_wp2
    refine ⟨by simp, .inl ⟨_, _, rfl, run_takeDeferred hK, ?_⟩⟩
    obtain ⟨hrow, hlen, hbel, hD'⟩ := HF.out
    refine ⟨_, results_tmp rfl _ _ _, v, rfl, ?_, ?_⟩
    · rw [← hlen]; exact ownsRow_putObj hrow _ hK rfl
    · exact hbel.trans (belowK_b (w := w) (Nat.le_refl _) W D _ _ (by omega) hK rfl rfl)
end Go.Proofs.Qxb6615962aFmt
