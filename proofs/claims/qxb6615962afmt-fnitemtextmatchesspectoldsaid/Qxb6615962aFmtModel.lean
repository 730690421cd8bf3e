import Derived.Test.Qxb6615962aFmtItem
import Derived.Lib.SlBytesConst
namespace Go.Proofs.Qxb6615962aFmt
open Go.RowKit Go.Shelf
set_option linter.unusedSimpArgs false

def mvals (ms : List Nat) (k : Nat) : List Int := ((List.range k).filter fun i => !decide (nat0 ms i = 0)).map fun i : Nat => (i : Int) + 1
theorem mvals_succ (ms : List Nat) (k : Nat) : mvals ms (k + 1) = if nat0 ms k = 0 then mvals ms k else mvals ms k ++ [(k : Int) + 1] := by
  unfold mvals
  rw [List.range_succ, List.filter_append]
  split <;> rename_i h <;> simp [h]
theorem mvals_len (ms : List Nat) (k : Nat) : (mvals ms k).length ≤ k := by
  unfold mvals; rw [List.length_map]; exact Nat.le_trans (List.length_filter_le _ _) (by simp)

def dayP (d : Nat) : List UInt8 := [32, 100, 97, 121, 32, 123, 32] ++ runsT 0 (groups (valsOf d)) ++ [32, 125]
def monP (ms : List Nat) : List UInt8 := [32, 109, 111, 110, 116, 104, 32, 123, 32] ++ runsT 0 (groups (mvals ms 12)) ++ [32, 125]
def yearP (p : ByteArray) : List UInt8 := [32, 121, 101, 97, 114, 32, 123, 32] ++ Lib.join (yearL p) [44, 32] ++ [32, 125]
def weekP (wd : Nat) : List UInt8 := [32, 123, 32] ++ runsT 1 (groups (lowV wd 7)) ++ [32, 125]
def timeP (tms : List (Nat × Nat)) : List UInt8 := [32, 123, 32] ++ Lib.join (timeL tms) [44, 32] ++ [32, 125]

/-- The text of a clause, as the law's model writes it. -/
def modelT (ms : List Nat) (d : Nat) (p : ByteArray) (wd : Nat) (tms : List (Nat × Nat)) (ps : Nat) : List UInt8 :=
  [116, 105, 109, 101] ++ opt (ps.testBit 0) (dayP d) ++ opt (ps.testBit 1) (monP ms) ++ opt (ps.testBit 2) (yearP p) ++ opt (ps.testBit 3) (weekP wd) ++ opt (ps.testBit 4) (timeP tms) ++ [59]

/-- What stands between two parts of the model's text. -/
structure Md (w : World) (ms : List Nat) (v : Value) (bs : List UInt8) (W : World) : Prop where
  buf : Buf w.heap.size v bs W
  kp : Kp w.heap.size (w.alloc (.cells (mcells ms).toArray 23)) W

theorem Md.box {w : World} {ms : List Nat} {v : Value} {bs : List UInt8} {W : World} (h : Md w ms v bs W) : Blk W w.heap.size (mcells ms) 23 :=
  h.kp.2 _ _ (Blk.new w (mcells ms) 23) (by simp) (by intro c fz he; simp at he)
theorem Md.bel {w : World} {ms : List Nat} {v : Value} {bs : List UInt8} {W : World} (h : Md w ms v bs W) : Below w.heap.size w W :=
  ((Below.refl _ w).alloc (Nat.le_refl _) _).trans h.kp.1
theorem Md.app {w : World} {ms : List Nat} {v v' : Value} {bs bs' : List UInt8} {W W' : World} (h : Md w ms v bs W) (hb : Buf w.heap.size v' bs' W') (hk : Kp w.heap.size W W') : Md w ms v' bs' W' := ⟨hb, h.kp.trans hk⟩
theorem Md.grow {w : World} {ms : List Nat} {v : Value} {bs : List UInt8} {W W' : World} (h : Md w ms v bs W) (hb : Below W.heap.size W W') : Md w ms v bs W' := ⟨h.buf.below hb, h.kp.trans (Kp.of_below hb h.buf.2)⟩

theorem valsOf_ok (d : Nat) : ∀ x ∈ valsOf d, NameOk 0 x := by
  intro x hx
  refine .inr ⟨rfl, ?_⟩
  rcases List.mem_append.1 hx with h | h
  · obtain ⟨i, hi, rfl⟩ := List.mem_map.1 h
    have := List.mem_range.1 (List.mem_filter.1 hi).1
    have e : Int.ofNat i = (i : Int) := rfl
    rw [e]; omega
  · obtain ⟨i, hi, rfl⟩ := List.mem_map.1 h
    have := List.mem_range.1 (List.mem_filter.1 hi).1
    omega
theorem mvals_ok (ms : List Nat) : ∀ x ∈ mvals ms 12, NameOk 0 x := by
  intro x hx
  obtain ⟨i, hi, rfl⟩ := List.mem_map.1 hx
  have := List.mem_range.1 (List.mem_filter.1 hi).1
  exact .inr ⟨rfl, by omega, by omega⟩
theorem low7_ok (wd : Nat) : ∀ x ∈ lowV wd 7, NameOk 1 x := by
  intro x hx
  obtain ⟨i, hi, rfl⟩ := List.mem_map.1 hx
  have := List.mem_range.1 (List.mem_filter.1 hi).1
  have e : Int.ofNat i = (i : Int) := rfl
  rw [e]
  exact .inl ⟨rfl, by omega, by omega⟩
theorem valsOf_len (d : Nat) : (valsOf d).length ≤ 63 := by
  have h1 := lowV_len d 32
  have h2 := highV_len d 31
  unfold valsOf; rw [List.length_append]; omega

theorem Kp.of_drew {B : Nat} {w w' : World} (h : w'.heap = w.heap ∧ w'.os = w.os ∧ w'.tape = w.tape ∧ w'.output = w.output) : Kp B w w' := by
  obtain ⟨h1, h2, h3, h4⟩ := h
  exact ⟨⟨h2, h3, h4, by rw [h1]; exact Nat.le_refl _, fun b _ => by rw [h1]⟩, fun k o hk _ _ => by rw [h1]; exact hk⟩

theorem join_step (L : List (List UInt8)) (t : List UInt8) : Lib.join (L ++ [t]) [44, 32] = if L = [] then t else Lib.join L [44, 32] ++ ([44, 32] ++ t) := by
  split
  · rename_i h; subst h; simp [Lib.join, List.intercalate]
  · rename_i h; exact join_snoc _ _ _ h

/-- The text of the first k runs of years. -/
def yj (p : ByteArray) (k : Nat) : List UInt8 := Lib.join ((yearRuns p k).map (txt fun x => four x.toNat)) [44, 32]
theorem yj_zero (p : ByteArray) : yj p 0 = [] := rfl
theorem yj_all (p : ByteArray) : yj p (p.size / 4) = Lib.join (yearL p) [44, 32] := rfl
theorem yj_len (p : ByteArray) (k : Nat) : (yj p k).length ≤ 11 * k := by
  have h := join_len 9 ((yearRuns p k).map (txt fun x => four x.toNat)) (fun t ht => by
    obtain ⟨q, _, rfl⟩ := List.mem_map.1 ht
    exact txt_len _ 4 (fun x => by simp [four, two]) q)
  rw [List.length_map, yearRuns_len] at h
  exact h
def yt (p : ByteArray) (k : Nat) : List UInt8 := four (yr p (4 * k)) ++ (if yr p (4 * k) < yr p (4 * k + 2) then 45 :: four (yr p (4 * k + 2)) else [])
theorem yj_succ (p : ByteArray) (k : Nat) : yj p (k + 1) = if k = 0 then yt p 0 else yj p k ++ ([44, 32] ++ yt p k) := by
  have e : txt (fun x => four x.toNat) (yearRun p k) = yt p k := by
    unfold txt yt yearRun
    simp only [Int.toNat_natCast]
    congr 1
    by_cases h : yr p (4 * k) < yr p (4 * k + 2)
    · rw [if_pos h, if_pos (by omega)]
    · rw [if_neg h, if_neg (by omega)]
  unfold yj
  rw [yearRuns_succ, List.map_append, List.map_singleton, join_step, e]
  by_cases hk : k = 0
  · subst hk; rfl
  · rw [if_neg hk, if_neg ?_]
    intro h
    have := congrArg List.length h
    rw [List.length_map, yearRuns_len] at this
    exact hk this

/-- The text of the first i clock ranges. -/
def tj (tms : List (Nat × Nat)) (i : Nat) : List UInt8 := Lib.join (timeL (tms.take i)) [44, 32]
theorem tj_zero (tms : List (Nat × Nat)) : tj tms 0 = [] := rfl
theorem tj_all (tms : List (Nat × Nat)) : tj tms tms.length = Lib.join (timeL tms) [44, 32] := by unfold tj; rw [List.take_length]
theorem tj_len (tms : List (Nat × Nat)) (i : Nat) (h : tms.length ≤ 32768) : (tj tms i).length ≤ 1000000 := by
  have h1 := join_len 9 (timeL (tms.take i)) (fun t ht => by
    obtain ⟨q, _, rfl⟩ := List.mem_map.1 ht
    simp [timeT, clock, two])
  have h2 : (timeL (tms.take i)).length ≤ 32768 := by
    unfold timeL; rw [List.length_map]; exact Nat.le_trans (List.length_take_le' _ _) h
  have h3 : (9 + 2) * (timeL (tms.take i)).length ≤ 11 * 32768 := Nat.mul_le_mul_left _ h2
  unfold tj
  omega
theorem tj_succ (tms : List (Nat × Nat)) (i : Nat) (hi : i < tms.length) : tj tms (i + 1) = if i = 0 then timeT (tms.getD i (0, 0)) else tj tms i ++ ([44, 32] ++ timeT (tms.getD i (0, 0))) := by
  have e : tms.getD i (0, 0) = tms[i] := by simp [List.getD, hi]
  unfold tj
  rw [timeL, List.take_succ_eq_append_getElem hi, List.map_append, List.map_singleton, join_step, e]
  by_cases h : i = 0
  · subst h; simp
  · rw [if_neg h, if_neg ?_]
    · rfl
    · intro h2
      have := congrArg List.length h2
      rw [List.length_map, List.length_take] at this
      simp only [List.length_nil] at this
      omega

set_option maxRecDepth 100000 in
set_option maxHeartbeats 20000000 in
theorem model_any (ms : List Nat) (d : Nat) (p : ByteArray) (wd : Nat) (tv : Value) (tms : List (Nat × Nat)) (ps : Nat) (w : World) (hT : Times tv tms w)
    (h12 : ms.length = 12) (hps : ps < 18446744073709551616) (hd : d < 18446744073709551616) (hp : p.size ≤ 524288) (hy : ∀ i, i < p.size / 4 → yr p (4 * i) < 10000 ∧ yr p (4 * i + 2) < 10000) (hwd : wd < 18446744073709551616)
    (ht : tms.length ≤ 32768) (htm : ∀ x ∈ tms, x.1 ≤ 1440 ∧ x.2 ≤ 1440) :
    Calls Tryf.prog 10 #[.agg (mcells ms).toArray, .int .u64 d, .string p, .int .u64 wd, tv, .int .u64 ps] w fun e w' => e = .returned (sv (modelT ms d p wd tms ps)) ∧ Below w.heap.size w w' := by
  have hsz : (mcells ms).toArray.size = 12 := by simp [mcells, h12]
  obtain ⟨ao, cap, rfl, htc⟩ := hT
  have HT : Hid (0 < tms.length → ∃ g, ao = some ⟨g, 0, none⟩ ∧ g < w.heap.size ∧ ∀ j, j < tms.length → w.cell? ⟨g, j * 2, none⟩ = some (.int .i64 (tms.getD j (0, 0)).1) ∧ w.cell? ⟨g, j * 2 + 1, none⟩ = some (.int .i64 (tms.getD j (0, 0)).2)) := htc
  have HTM : Hid (∀ j, j < tms.length → (tms.getD j (0, 0)).1 ≤ 1440 ∧ (tms.getD j (0, 0)).2 ≤ 1440) := by
    intro j hj
    have e : tms.getD j (0, 0) = tms[j] := by simp [List.getD, hj]
    rw [e]
    exact htm _ (List.getElem_mem hj)
  have HTL : Hid (tms.length ≤ 32768) := ht
  clear htc htm
  have hM0 : Hid (Md w ms (.slice (some ⟨w.heap.size + 1, 0, none⟩) 4 4) [116, 105, 109, 101] ((w.alloc (.cells (mcells ms).toArray 23)).alloc (.cells #[.int .u8 116, .int .u8 105, .int .u8 109, .int .u8 101] 5 (4, 5)))) := by
    have h1 : ((w.alloc (.cells (mcells ms).toArray 23)).alloc (.cells #[.int .u8 116, .int .u8 105, .int .u8 109, .int .u8 101] 5 (4, 5))).heap[w.heap.size + 1]? = some (.cells #[.int .u8 116, .int .u8 105, .int .u8 109, .int .u8 101] 5 (4, 5)) := by
      have := heap_alloc_new (w.alloc (.cells (mcells ms).toArray 23)) (.cells #[.int .u8 116, .int .u8 105, .int .u8 109, .int .u8 101] 5 (4, 5))
      rwa [World.size_alloc] at this
    exact ⟨⟨.inr ⟨w.heap.size + 1, _, _, rfl, by omega, h1, by simp [bc]⟩, by simp; omega⟩, (Kp.refl _ _).alloc (by simp) _⟩
  have hkc := Lib.run_convert_bytes_const (P := Tryf.prog) (w.alloc (.cells (mcells ms).toArray 23)) 36 5 #[.int .u8 116, .int .u8 105, .int .u8 109, .int .u8 101] 4 4 Tryf.underlying36 Tryf.underlying5
  rw [World.size_alloc] at hkc
  have HSZ : Hid ((dayP d).length ≤ 1000 ∧ (monP ms).length ≤ 1000 ∧ (yearP p).length ≤ 3000000 ∧ (weekP wd).length ≤ 1000 ∧ (timeP tms).length ≤ 2000000) := by
    unfold dayP monP yearP weekP timeP
    have z := sz_of ms p wd tms hp ht
    have z1 := z.y.2.1
    have z2 := z.t.2.1
    have a1 := valsOf_len d
    have a2 := runsT_len 0 (groups (valsOf d))
    have a3 := groups_len (valsOf d)
    have c1 := mvals_len ms 12
    have c2 := runsT_len 0 (groups (mvals ms 12))
    have c3 := groups_len (mvals ms 12)
    have e1 := lowV_len wd 7
    have e2 := runsT_len 1 (groups (lowV wd 7))
    have e3 := groups_len (lowV wd 7)
    refine ⟨?_, ?_, ?_, ?_, ?_⟩ <;> simp only [List.length_append, List.length_cons, List.length_nil] <;> omega
  obtain ⟨n, hn⟩ : ∃ n, tms.length = n := ⟨_, rfl⟩
  have HN : Hid (tms.length = n) := hn
  rw [hn] at HT HTM ht ⊢
  clear hn
  have f0 : (bits BinOp.and IntKind.u64 (ps : Int) 1 == 1) = ps.testBit 0 := by have := bit_form ps 0 hps; rwa [show ((ps : Int) / 2 ^ 0) = ps by simp] at this
  have f1 : (bits BinOp.and IntKind.u64 ((ps : Int) / 2) 1 == 1) = ps.testBit 1 := bit_form ps 1 hps
  have f2 : (bits BinOp.and IntKind.u64 ((ps : Int) / 4) 1 == 1) = ps.testBit 2 := bit_form ps 2 hps
  have f3 : (bits BinOp.and IntKind.u64 ((ps : Int) / 8) 1 == 1) = ps.testBit 3 := bit_form ps 3 hps
  have f4 : (bits BinOp.and IntKind.u64 ((ps : Int) / 16) 1 == 1) = ps.testBit 4 := bit_form ps 4 hps
  obtain ⟨b0, hb0⟩ : ∃ b0, ps.testBit 0 = b0 := ⟨_, rfl⟩
  obtain ⟨b1, hb1⟩ : ∃ b1, ps.testBit 1 = b1 := ⟨_, rfl⟩
  obtain ⟨b2, hb2⟩ : ∃ b2, ps.testBit 2 = b2 := ⟨_, rfl⟩
  obtain ⟨b3, hb3⟩ : ∃ b3, ps.testBit 3 = b3 := ⟨_, rfl⟩
  obtain ⟨b4, hb4⟩ : ∃ b4, ps.testBit 4 = b4 := ⟨_, rfl⟩
  rw [hb0] at f0
  rw [hb1] at f1
  rw [hb2] at f2
  rw [hb3] at f3
  rw [hb4] at f4
  have HB : Hid (ps.testBit 0 = b0 ∧ ps.testBit 1 = b1 ∧ ps.testBit 2 = b2 ∧ ps.testBit 3 = b3 ∧ ps.testBit 4 = b4) := ⟨hb0, hb1, hb2, hb3, hb4⟩
  clear hb0 hb1 hb2 hb3 hb4
  go_enter Tryf.func10, Tryf.ntmps10
  go_upto_if 26 with fail
  generalize hv0 : Value.slice (some ⟨w.heap.size + 1, 0, none⟩) 4 4 = v0 at hM0 ⊢
  clear hv0
  generalize (w.alloc (.cells (mcells ms).toArray 23)).alloc (.cells #[.int .u8 116, .int .u8 105, .int .u8 109, .int .u8 101] 5 (4, 5)) = w0 at hM0 ⊢
  clear hkc
  obtain ⟨bs0, hbs0⟩ : ∃ bs : List UInt8, [116, 105, 109, 101] = bs := ⟨_, rfl⟩
  rw [hbs0] at hM0
  have HE0 : Hid ([116, 105, 109, 101] = bs0) := hbs0
  have HLN : Hid (bs0.length ≤ 4) := by show _ ≤ _; rw [← hbs0]; simp
  clear hbs0
  go_cut [13] (fun v wx => Md w ms v (bs0 ++ opt b0 (dayP d)) wx)
  case first =>
    cases b0
    · go_wp2
      go_meet
      case rel =>
        show Md w ms v0 (bs0 ++ []) w0
        rw [List.append_nil]; exact hM0.out
    · skip
      go_wp2_with (refine wpList_app_str rfl _ _ rfl w.heap.size v0 _ rfl hM0.out.buf ⟨#[32, 100, 97, 121, 32, 123, 32]⟩ rfl (by have := HLN.out; simp only [List.length_append, List.length_cons, List.length_nil] at this ⊢; omega) ?_)
      intro v1 w1 hb1 hk1
      go_wp2_with fail
      refine (setValues_any d hd w1).mono ?_
      rintro e w2 ⟨vv, rfl, hv2, hb2⟩
      go_wp2_with fail
      refine (runs_any 0 (valsOf d) (valsOf_ok d) (by have := valsOf_len d; omega) vv w.heap.size v1 _ w2 hv2 (hb1.below hb2) (by have := valsOf_len d; have := HLN.out; simp only [List.length_append, List.length_cons, List.length_nil] at this ⊢; omega)).mono ?_
      rintro e w3 ⟨v3, rfl, hb3, hk3⟩
      go_wp2_with (refine wpList_app_str rfl _ _ rfl w.heap.size v3 _ rfl hb3 ⟨#[32, 125]⟩ rfl (by have := valsOf_len d; have := runsT_len 0 (groups (valsOf d)); have := groups_len (valsOf d); have := HLN.out; simp only [List.length_append, List.length_cons, List.length_nil] at this ⊢; omega) ?_)
      intro v9 w9 hb9 hk9
      go_wp2
      go_meet
      case rel =>
        refine hM0.out.app ?_ (((hk1.trans (Kp.of_below hb2 hb1.2)).trans hk3).trans hk9)
        simpa [opt, dayP, monP, yearP, weekP, timeP] using hb9
  case rest =>
    obtain ⟨bs1, hbs1⟩ : ∃ bs : List UInt8, bs0 ++ opt b0 (dayP d) = bs := ⟨_, rfl⟩
    rw [hbs1] at hcut
    have hM1 : Hid (Md w ms u13 bs1 wc) := hcut
    have HE1 : Hid (bs0 ++ opt b0 (dayP d) = bs1) := hbs1
    have HLN2 : Hid (bs1.length ≤ 1004) := by show _ ≤ _; rw [← hbs1, List.length_append]; have := opt_len b0 _ _ HSZ.out.1; have := HLN.out; omega
    clear hcut hM0 HLN hbs1
    have HLN : Hid (bs1.length ≤ 1004) := HLN2
    clear HLN2
    generalize u13 = v10 at *
    generalize wc = w10 at *
    go_upto_if 38 with fail
    go_cut [13] (fun v wx => Md w ms v (bs1 ++ opt b1 (monP ms)) wx)
    case first =>
      cases b1
      · go_wp2
        go_meet
        case rel =>
          show Md w ms v10 (bs1 ++ []) w10
          rw [List.append_nil]; exact hM1.out
      · skip
        have hbox : Blk w10 w.heap.size (mcells ms) 23 := hM1.out.box
        have HBX : Hid (Blk w10 w.heap.size (mcells ms) 23) := hbox
        clear hbox
        go_wp2
        go_loopw [14, 15] (fun vv j wr => ∃ k : Nat, j = .int .i64 (k + 1 : Nat) ∧ k ≤ 12 ∧ Ints w10.heap.size vv (mvals ms k) wr ∧ Below w10.heap.size w10 wr) (fun _ j _ => 13 - (intOf j).toNat)
        case atStart => exact ⟨0, rfl, by omega, Ints.nil _ _ (Nat.le_refl _), Below.refl _ _⟩
        case round =>
          obtain ⟨k, rfl, hk, hi, hbel⟩ := hrel
          by_cases hlt : k < 12
          · have hL := mvals_len ms k
            have hsucc := mvals_succ ms k
            have hc : wr.cell? ⟨w.heap.size, k, none⟩ = some (.int .u64 (nat0 ms k)) := by
              rw [(HBX.out.below hbel HBX.out.lt).cell k]; exact mcells_at ms k (by omega)
            by_cases hz : nat0 ms k = 0
            · rw [if_pos hz] at hsucc
              rw [hz] at hc
              have HS : Hid (mvals ms (k + 1) = mvals ms k) := hsucc
              clear hsucc
              go_wp2
              go_roundw
              case rel =>
                have R : ∃ k' : Nat, Value.int .i64 ((k : Int) + 1 + 1) = .int .i64 (k' + 1 : Nat) ∧ k' ≤ 12 ∧ Ints w10.heap.size u14 (mvals ms k') wr ∧ Below w10.heap.size w10 wr := ⟨k + 1, by go_num, by omega, by rw [HS.out]; exact hi, hbel⟩
                first | exact R | ((repeat apply Exists.intro); exact ⟨R, rfl⟩)
              case measure => simp [intOf] <;> omega
            · rw [if_neg hz] at hsucc
              have HS : Hid (mvals ms (k + 1) = mvals ms k ++ [(k : Int) + 1]) := hsucc
              have hnz : ((nat0 ms k : Nat) : Int) ≠ 0 := by omega
              clear hsucc
              go_wp2_with (at_builtin; refine wpList_app_int rfl _ _ rfl w10.heap.size u14 (mvals ms k) ((k : Int) + 1) wr rfl hi rfl (by omega) ?_; intro v' w' hi' hb')
              go_roundw
              case rel =>
                have R : ∃ k' : Nat, Value.int .i64 ((k : Int) + 1 + 1) = .int .i64 (k' + 1 : Nat) ∧ k' ≤ 12 ∧ Ints w10.heap.size v' (mvals ms k') w' ∧ Below w10.heap.size w10 w' := ⟨k + 1, by go_num, by omega, by rw [HS.out]; exact hi', hbel.trans hb'⟩
                first | exact R | ((repeat apply Exists.intro); exact ⟨R, rfl⟩)
              case measure => simp [intOf] <;> omega
          · obtain rfl : k = 12 := by omega
            have hM2 : Hid (Md w ms v10 bs1 wr) := hM1.out.grow hbel
            have HVL : Hid (Vals u14 (mvals ms 12) wr) := hi.vals
            clear hi hbel
            go_wp2_with (refine wpList_app_str rfl _ _ rfl w.heap.size v10 _ rfl hM2.out.buf ⟨#[32, 109, 111, 110, 116, 104, 32, 123, 32]⟩ rfl (by have := HLN.out; simp only [List.length_append, List.length_cons, List.length_nil] at this ⊢; omega) ?_)
            intro v1 w1 hb1 hk1
            have hv1 := HVL.out.kept hk1
            go_wp2_with fail
            refine (runs_any 0 (mvals ms 12) (mvals_ok ms) (by have := mvals_len ms 12; omega) u14 w.heap.size v1 _ w1 hv1 hb1 (by have := mvals_len ms 12; have := HLN.out; simp only [List.length_append, List.length_cons, List.length_nil] at this ⊢; omega)).mono ?_
            rintro e w3 ⟨v3, rfl, hb3, hk3⟩
            go_wp2_with (refine wpList_app_str rfl _ _ rfl w.heap.size v3 _ rfl hb3 ⟨#[32, 125]⟩ rfl (by have := mvals_len ms 12; have := runsT_len 0 (groups (mvals ms 12)); have := groups_len (mvals ms 12); have := HLN.out; simp only [List.length_append, List.length_cons, List.length_nil] at this ⊢; omega) ?_)
            intro v9 w9 hb9 hk9
            go_wp2
            go_meet
            case rel =>
              refine hM2.out.app ?_ ((hk1.trans hk3).trans hk9)
              simpa [opt, dayP, monP, yearP, weekP, timeP] using hb9
    case rest =>
      obtain ⟨bs2, hbs2⟩ : ∃ bs : List UInt8, bs1 ++ opt b1 (monP ms) = bs := ⟨_, rfl⟩
      rw [hbs2] at hcut
      have hM2 : Hid (Md w ms u13 bs2 wc) := hcut
      have HE2 : Hid (bs1 ++ opt b1 (monP ms) = bs2) := hbs2
      have HLN2 : Hid (bs2.length ≤ 2004) := by show _ ≤ _; rw [← hbs2, List.length_append]; have := opt_len b1 _ _ HSZ.out.2.1; have := HLN.out; omega
      clear hcut hM1 HLN hbs2
      have HLN : Hid (bs2.length ≤ 2004) := HLN2
      clear HLN2
      generalize u13 = v20 at *
      generalize wc = w20 at *
      go_upto_if 62 with fail
      go_cut [13] (fun v wx => Md w ms v (bs2 ++ opt b2 (yearP p)) wx)
      case first =>
        cases b2
        · go_wp2
          go_meet
          case rel =>
            show Md w ms v20 (bs2 ++ []) w20
            rw [List.append_nil]; exact hM2.out
        · skip
          go_wp2_with (refine wpList_app_str rfl _ _ rfl w.heap.size v20 _ rfl hM2.out.buf ⟨#[32, 121, 101, 97, 114, 32, 123, 32]⟩ rfl (by have := HLN.out; simp only [List.length_append, List.length_cons, List.length_nil] at this ⊢; omega) ?_)
          intro v1 w1 hb1 hk1
          go_wp2_with fail
          go_loopw [13, 16] (fun v j wr => ∃ k : Nat, j = .int .i64 (4 * k : Nat) ∧ k ≤ p.size / 4 ∧ Buf w.heap.size v (bs2 ++ [32, 121, 101, 97, 114, 32, 123, 32] ++ yj p k) wr ∧ Kp w.heap.size w20 wr) (fun _ j _ => p.size + 4 - (intOf j).toNat)
          case atStart => exact ⟨0, rfl, Nat.zero_le _, by rw [yj_zero, List.append_nil]; exact hb1, hk1⟩
          case round =>
            clear hb1 hk1
            obtain ⟨k, rfl, hk, hbuf, hkp⟩ := hrel
            by_cases hlt : k < p.size / 4
            · skip
              have HJ : Hid ((yj p k).length ≤ 2000000 ∧ k < p.size / 4) := ⟨by have := yj_len p k; omega, hlt⟩
              have HYR := hy k hlt
              have HG : Hid (Buf w.heap.size u13 (bs2 ++ [32, 121, 101, 97, 114, 32, 123, 32] ++ yj p k) wr ∧ Kp w.heap.size w20 wr) := ⟨hbuf, hkp⟩
              clear hbuf hkp
              have hk4 : 4 * (k : Int) + 4 ≤ (p.size : Int) := by omega
              have hw1 : IntKind.i64.wrap (4 * (k : Int) + 1) = 4 * (k : Int) + 1 := IntWalk.i64_in _ ⟨by omega, by omega⟩
              have hw2 : IntKind.i64.wrap (4 * (k : Int) + 2) = 4 * (k : Int) + 2 := IntWalk.i64_in _ ⟨by omega, by omega⟩
              have hw3 : IntKind.i64.wrap (4 * (k : Int) + 3) = 4 * (k : Int) + 3 := IntWalk.i64_in _ ⟨by omega, by omega⟩
              have x0 : ∀ w, (Instr.index 9 (.string p) (.int .i64 (4 * (k : Int)))).run Tryf.prog w = .ok (.int .u8 (byt p (4 * k))) w := index_str p _ (4 * k) (by omega) (by omega)
              have x1 : ∀ w, (Instr.index 9 (.string p) (.int .i64 (4 * (k : Int) + 1))).run Tryf.prog w = .ok (.int .u8 (byt p (4 * k + 1))) w := index_str p _ (4 * k + 1) (by omega) (by omega)
              have x2 : ∀ w, (Instr.index 9 (.string p) (.int .i64 (4 * (k : Int) + 2))).run Tryf.prog w = .ok (.int .u8 (byt p (4 * k + 2))) w := index_str p _ (4 * k + 2) (by omega) (by omega)
              have x3 : ∀ w, (Instr.index 9 (.string p) (.int .i64 (4 * (k : Int) + 3))).run Tryf.prog w = .ok (.int .u8 (byt p (4 * k + 3))) w := index_str p _ (4 * k + 3) (by omega) (by omega)
              go_wp2_with fail
              go_quiet (fail)
              have HG2 : Hid (Buf w.heap.size u13 (bs2 ++ [32, 121, 101, 97, 114, 32, 123, 32] ++ yj p k) (wr.drewN nq) ∧ Kp w.heap.size w20 (wr.drewN nq)) := ⟨HG.out.1, HG.out.2.drewN nq⟩
              generalize wr.drewN nq = wq1 at HG2 ⊢
              clear HG
              rw [or_form _ _ (byt_lt _ _) (byt_lt _ _), show byt p (4 * k) * 256 + byt p (4 * k + 1) = yr p (4 * k) from rfl]
              go_wp2_with fail
              go_quiet (fail)
              have HG : Hid (Buf w.heap.size u13 (bs2 ++ [32, 121, 101, 97, 114, 32, 123, 32] ++ yj p k) (wq1.drewN nq) ∧ Kp w.heap.size w20 (wq1.drewN nq)) := ⟨HG2.out.1, HG2.out.2.drewN nq⟩
              generalize wq1.drewN nq = wq2 at HG ⊢
              clear HG2
              rw [or_form _ _ (byt_lt _ _) (byt_lt _ _), show byt p (4 * k + 2) * 256 + byt p (4 * k + 3) = yr p (4 * k + 2) from rfl]
              clear x0 x1 x2 x3
              obtain ⟨a, ha⟩ : ∃ a, yr p (4 * k) = a := ⟨_, rfl⟩
              obtain ⟨b, hb⟩ : ∃ b, yr p (4 * k + 2) = b := ⟨_, rfl⟩
              obtain ⟨jj, hjj⟩ : ∃ jj, 4 * k = jj := ⟨_, rfl⟩
              have HV : Hid (yr p (4 * k) = a ∧ yr p (4 * k + 2) = b ∧ 4 * k = jj) := ⟨ha, hb, hjj⟩
              rw [ha, hb] at HYR ⊢
              rw [hjj]
              have hjb : jj ≤ 524288 := by omega
              clear ha hb hjj hk4 hw1 hw2 hw3 hk hlt
              by_cases hk0 : k = 0
              · have hk0' : decide ((0 : Int) < (jj : Int)) = false := by have := HV.out.2.2; simp; omega
                have hk0n : decide (0 < jj) = false := by have := HV.out.2.2; simp; omega
                have HK : Hid (k = 0) := hk0
                clear hk0
                go_wp2_with fail
                refine (four_any a HYR.1 w.heap.size u13 _ wq2 HG.out.1 (by have := HLN.out; have := HJ.out.1; simp only [List.length_append, List.length_cons, List.length_nil, four, two]; omega)).mono ?_
                rintro r w2 ⟨v2, rfl, hb2, hk2⟩
                have hK2 := HG.out.2.trans hk2
                by_cases hlt2 : a < b
                · go_wp2_with (refine wpList_app_bytes rfl _ _ rfl w.heap.size v2 _ [45] w2 rfl hb2 _ rfl rfl (by have := HLN.out; have := HJ.out.1; simp only [List.length_append, List.length_cons, List.length_nil, four, two]; omega) ?_)
                  intro v3 w3 hb3 hk3
                  go_wp2_with fail
                  refine (four_any b HYR.2 w.heap.size v3 _ w3 hb3 (by have := HLN.out; have := HJ.out.1; simp only [List.length_append, List.length_cons, List.length_nil, four, two]; omega)).mono ?_
                  rintro r w4 ⟨v4, rfl, hb4, hk4⟩
                  go_wp2
                  go_roundw
                  case rel =>
                    have hv := HV.out
                    have hz := HK.out
                    refine ⟨k + 1, by simp only [Value.int.injEq, true_and]; omega, by have := HJ.out.2; omega, ?_, (hK2.trans hk3).trans hk4⟩
                    rw [yj_succ, if_pos hz]
                    rw [show yt p 0 = yt p k by rw [hz]]
                    rw [yt, hv.1, hv.2.1, if_pos hlt2]
                    rw [show yj p k = [] by rw [hz]; rfl] at hb4
                    simpa using hb4
                  case measure => have hv := HV.out; have := HJ.out.2; simp [intOf] <;> omega
                · go_wp2
                  go_roundw
                  case rel =>
                    have hv := HV.out
                    have hz := HK.out
                    refine ⟨k + 1, by simp only [Value.int.injEq, true_and]; omega, by have := HJ.out.2; omega, ?_, hK2⟩
                    rw [yj_succ, if_pos hz]
                    rw [show yt p 0 = yt p k by rw [hz]]
                    rw [yt, hv.1, hv.2.1, if_neg (show ¬ a < b by omega)]
                    rw [show yj p k = [] by rw [hz]; rfl] at hb2
                    simpa using hb2
                  case measure => have hv := HV.out; have := HJ.out.2; simp [intOf] <;> omega
              · have hk0' : (0 : Int) < (jj : Int) := by have := HV.out.2.2; omega
                have hk0n : 0 < jj := by have := HV.out.2.2; omega
                have HK : Hid (¬ k = 0) := hk0
                clear hk0
                go_wp2_with (refine wpList_app_str rfl _ _ rfl w.heap.size u13 _ rfl HG.out.1 ⟨#[44, 32]⟩ rfl (by have := HLN.out; have := HJ.out.1; simp only [List.length_append, List.length_cons, List.length_nil, four, two]; omega) ?_)
                intro v1 w1 hb1 hk1
                go_wp2_with fail
                refine (four_any a HYR.1 w.heap.size v1 _ w1 hb1 (by have := HLN.out; have := HJ.out.1; simp only [List.length_append, List.length_cons, List.length_nil, four, two]; omega)).mono ?_
                rintro r w2 ⟨v2, rfl, hb2, hk2⟩
                have hK2 := (HG.out.2.trans hk1).trans hk2
                by_cases hlt2 : a < b
                · go_wp2_with (refine wpList_app_bytes rfl _ _ rfl w.heap.size v2 _ [45] w2 rfl hb2 _ rfl rfl (by have := HLN.out; have := HJ.out.1; simp only [List.length_append, List.length_cons, List.length_nil, four, two]; omega) ?_)
                  intro v3 w3 hb3 hk3
                  go_wp2_with fail
                  refine (four_any b HYR.2 w.heap.size v3 _ w3 hb3 (by have := HLN.out; have := HJ.out.1; simp only [List.length_append, List.length_cons, List.length_nil, four, two]; omega)).mono ?_
                  rintro r w4 ⟨v4, rfl, hb4, hk4⟩
                  go_wp2
                  go_roundw
                  case rel =>
                    have hv := HV.out
                    have hz := HK.out
                    refine ⟨k + 1, by simp only [Value.int.injEq, true_and]; omega, by have := HJ.out.2; omega, ?_, (hK2.trans hk3).trans hk4⟩
                    rw [yj_succ, if_neg hz]
                    skip
                    rw [yt, hv.1, hv.2.1, if_pos hlt2]
                    skip
                    simpa using hb4
                  case measure => have hv := HV.out; have := HJ.out.2; simp [intOf] <;> omega
                · go_wp2
                  go_roundw
                  case rel =>
                    have hv := HV.out
                    have hz := HK.out
                    refine ⟨k + 1, by simp only [Value.int.injEq, true_and]; omega, by have := HJ.out.2; omega, ?_, hK2⟩
                    rw [yj_succ, if_neg hz]
                    skip
                    rw [yt, hv.1, hv.2.1, if_neg (show ¬ a < b by omega)]
                    skip
                    simpa using hb2
                  case measure => have hv := HV.out; have := HJ.out.2; simp [intOf] <;> omega
            · obtain rfl : k = p.size / 4 := by omega
              have hcd : ¬ (4 * ((p.size / 4 : Nat) : Int) + 4 ≤ (p.size : Int)) := by omega
              have HJ : Hid ((yj p (p.size / 4)).length ≤ 2000000) := by show _ ≤ _; have := yj_len p (p.size / 4); omega
              have HG : Hid (Buf w.heap.size u13 (bs2 ++ [32, 121, 101, 97, 114, 32, 123, 32] ++ yj p (p.size / 4)) wr ∧ Kp w.heap.size w20 wr) := ⟨hbuf, hkp⟩
              clear hbuf hkp
              go_wp2_with (refine wpList_app_str rfl _ _ rfl w.heap.size u13 _ rfl HG.out.1 ⟨#[32, 125]⟩ rfl (by have := HLN.out; have := HJ.out; simp only [List.length_append, List.length_cons, List.length_nil]; omega) ?_)
              intro v9 w9 hb9 hk9
              go_wp2
              go_meet
              case rel =>
                refine hM2.out.app ?_ (HG.out.2.trans hk9)
                rw [yj_all] at hb9
                simpa [opt, yearP] using hb9
      case rest =>
        obtain ⟨bs3, hbs3⟩ : ∃ bs : List UInt8, bs2 ++ opt b2 (yearP p) = bs := ⟨_, rfl⟩
        rw [hbs3] at hcut
        have hM3 : Hid (Md w ms u13 bs3 wc) := hcut
        have HE3 : Hid (bs2 ++ opt b2 (yearP p) = bs3) := hbs3
        have HLN2 : Hid (bs3.length ≤ 3002004) := by show _ ≤ _; rw [← hbs3, List.length_append]; have := opt_len b2 _ _ HSZ.out.2.2.1; have := HLN.out; omega
        clear hcut hM2 HLN hbs3
        have HLN : Hid (bs3.length ≤ 3002004) := HLN2
        clear HLN2
        generalize u13 = v30 at *
        generalize wc = w30 at *
        go_upto_if 116 with fail
        go_cut [13] (fun v wx => Md w ms v (bs3 ++ opt b3 (weekP wd)) wx)
        case first =>
          cases b3
          · go_wp2
            go_meet
            case rel =>
              show Md w ms v30 (bs3 ++ []) w30
              rw [List.append_nil]; exact hM3.out
          · skip
            go_wp2
            go_loopw [19, 20] (fun vv j wr => ∃ k : Nat, j = .int .i64 k ∧ k ≤ 7 ∧ Ints w30.heap.size vv (lowV wd k) wr ∧ Below w30.heap.size w30 wr) (fun _ j _ => 7 - (intOf j).toNat)
            case atStart => exact ⟨0, rfl, by omega, Ints.nil _ _ (Nat.le_refl _), Below.refl _ _⟩
            case round =>
              obtain ⟨k, rfl, hk, hi, hbel⟩ := hrel
              by_cases hlt : k < 7
              · have hL := lowV_len wd k
                have hform := bit_form wd k hwd
                have hsucc := lowV_succ wd k
                cases hbit : wd.testBit k
                · rw [hbit] at hform hsucc
                  have HS : Hid (lowV wd (k + 1) = lowV wd k) := hsucc
                  clear hsucc hbit
                  go_wp2
                  go_roundw
                  case rel => exact ⟨k + 1, by go_num, by omega, by rw [HS.out]; exact hi, hbel⟩
                  case measure => simp [intOf] <;> omega
                · rw [hbit] at hform hsucc
                  have HS : Hid (lowV wd (k + 1) = lowV wd k ++ [(k : Int)]) := hsucc
                  clear hsucc hbit
                  go_wp2_with (at_builtin; refine wpList_app_int rfl _ _ rfl w30.heap.size u19 (lowV wd k) k wr rfl hi rfl (by omega) ?_; intro v' w' hi' hb')
                  go_roundw
                  case rel => exact ⟨k + 1, by go_num, by omega, by rw [HS.out]; exact hi', hbel.trans hb'⟩
                  case measure => simp [intOf] <;> omega
              · obtain rfl : k = 7 := by omega
                have hM2 : Hid (Md w ms v30 bs3 wr) := hM3.out.grow hbel
                have HVL : Hid (Vals u19 (lowV wd 7) wr) := hi.vals
                clear hi hbel
                go_wp2_with (refine wpList_app_str rfl _ _ rfl w.heap.size v30 _ rfl hM2.out.buf ⟨#[32, 123, 32]⟩ rfl (by have := HLN.out; simp only [List.length_append, List.length_cons, List.length_nil] at this ⊢; omega) ?_)
                intro v1 w1 hb1 hk1
                have hv1 := HVL.out.kept hk1
                go_wp2_with fail
                refine (runs_any 1 (lowV wd 7) (low7_ok wd) (by have := lowV_len wd 7; omega) u19 w.heap.size v1 _ w1 hv1 hb1 (by have := lowV_len wd 7; have := HLN.out; simp only [List.length_append, List.length_cons, List.length_nil] at this ⊢; omega)).mono ?_
                rintro e w3 ⟨v3, rfl, hb3, hk3⟩
                go_wp2_with (refine wpList_app_str rfl _ _ rfl w.heap.size v3 _ rfl hb3 ⟨#[32, 125]⟩ rfl (by have := lowV_len wd 7; have := runsT_len 1 (groups (lowV wd 7)); have := groups_len (lowV wd 7); have := HLN.out; simp only [List.length_append, List.length_cons, List.length_nil] at this ⊢; omega) ?_)
                intro v9 w9 hb9 hk9
                go_wp2
                go_meet
                case rel =>
                  refine hM2.out.app ?_ ((hk1.trans hk3).trans hk9)
                  simpa [opt, dayP, monP, yearP, weekP, timeP] using hb9
        case rest =>
          obtain ⟨bs4, hbs4⟩ : ∃ bs : List UInt8, bs3 ++ opt b3 (weekP wd) = bs := ⟨_, rfl⟩
          rw [hbs4] at hcut
          have hM4 : Hid (Md w ms u13 bs4 wc) := hcut
          have HE4 : Hid (bs3 ++ opt b3 (weekP wd) = bs4) := hbs4
          have HLN2 : Hid (bs4.length ≤ 3003004) := by show _ ≤ _; rw [← hbs4, List.length_append]; have := opt_len b3 _ _ HSZ.out.2.2.2.1; have := HLN.out; omega
          clear hcut hM3 HLN hbs4
          have HLN : Hid (bs4.length ≤ 3003004) := HLN2
          clear HLN2
          generalize u13 = v40 at *
          generalize wc = w40 at *
          go_upto_if 141 with fail
          go_cut [13] (fun v wx => Md w ms v (bs4 ++ opt b4 (timeP tms)) wx)
          case first =>
            cases b4
            · go_wp2
              go_meet
              case rel =>
                show Md w ms v40 (bs4 ++ []) w40
                rw [List.append_nil]; exact hM4.out
            · skip
              go_wp2_with (refine wpList_app_str rfl _ _ rfl w.heap.size v40 _ rfl hM4.out.buf ⟨#[32, 123, 32]⟩ rfl (by have := HLN.out; simp only [List.length_append, List.length_cons, List.length_nil] at this ⊢; omega) ?_)
              intro v1 w1 hb1 hk1
              go_wp2_with fail
              go_loopw [13, 21] (fun v j wr => ∃ i : Nat, j = .int .i64 i ∧ i ≤ n ∧ Buf w.heap.size v (bs4 ++ [32, 123, 32] ++ tj tms i) wr ∧ Kp w.heap.size w40 wr) (fun _ j _ => n - (intOf j).toNat)
              case atStart => exact ⟨0, rfl, Nat.zero_le _, by rw [tj_zero, List.append_nil]; exact hb1, hk1⟩
              case round =>
                clear hb1 hk1
                obtain ⟨i, rfl, hi, hbuf, hkp⟩ := hrel
                by_cases hlt : i < n
                · obtain ⟨g, rfl, hg, hcell⟩ := HT.out (by omega)
                  obtain ⟨hm0, hm1⟩ := HTM.out i hlt
                  have hcell := hcell i hlt
                  obtain ⟨x, hx⟩ : ∃ x, tms.getD i (0, 0) = x := ⟨_, rfl⟩
                  rw [hx] at hm0 hm1 hcell
                  obtain ⟨xs, xe⟩ := x
                  dsimp only at hm0 hm1 hcell
                  have HCL : Hid (∀ X, Kp w.heap.size w40 X → X.cell? ⟨g, i * 2, none⟩ = some (.int .i64 xs) ∧ X.cell? ⟨g, i * 2 + 1, none⟩ = some (.int .i64 xe)) := by
                    intro X hX
                    have hb := hM4.out.bel.trans hX.1
                    exact ⟨(hb.cell (p := ⟨g, i * 2, none⟩) hg).trans hcell.1, (hb.cell (p := ⟨g, i * 2 + 1, none⟩) hg).trans hcell.2⟩
                  have HI : Hid (i < n ∧ tms.getD i (0, 0) = (xs, xe)) := ⟨hlt, hx⟩
                  have HJ : Hid ((tj tms i).length ≤ 1000000) := tj_len tms i HTL.out
                  have HG : Hid (Buf w.heap.size u13 (bs4 ++ [32, 123, 32] ++ tj tms i) wr ∧ Kp w.heap.size w40 wr) := ⟨hbuf, hkp⟩
                  have hli : (i : Int) < (n : Int) := by omega
                  clear hbuf hkp hcell hx
                  by_cases hk0 : i = 0
                  · have hk0' : decide ((0 : Int) < (i : Int)) = false := by simp; omega
                    have hk0n : decide (0 < i) = false := by simp; omega
                    have HK : Hid (i = 0) := hk0
                    clear hk0
                    have hK1 := HG.out.2
                    have q0 := (HCL.out wr hK1).1
                    go_wp2_with fail
                    refine (clock_any xs hm0 w.heap.size u13 _ wr HG.out.1 (by have := HLN.out; have := HJ.out; simp only [List.length_append, List.length_cons, List.length_nil, clock, two]; omega)).mono ?_
                    rintro r w2 ⟨v2, rfl, hb2, hk2⟩
                    have hK2 := hK1.trans hk2
                    clear q0
                    go_wp2_with (refine wpList_app_bytes rfl _ _ rfl w.heap.size v2 _ [45] w2 rfl hb2 _ rfl rfl (by have := HLN.out; have := HJ.out; simp only [List.length_append, List.length_cons, List.length_nil, clock, two]; omega) ?_)
                    intro v3 w3 hb3 hk3
                    have hK3 := hK2.trans hk3
                    have q1 := (HCL.out w3 hK3).2
                    go_wp2_with fail
                    refine (clock_any xe hm1 w.heap.size v3 _ w3 hb3 (by have := HLN.out; have := HJ.out; simp only [List.length_append, List.length_cons, List.length_nil, clock, two]; omega)).mono ?_
                    rintro r w4 ⟨v4, rfl, hb4, hk4⟩
                    have hK4 := hK3.trans hk4
                    clear q1
                    go_wp2
                    go_roundw
                    case rel =>
                      have hz := HK.out
                      refine ⟨i + 1, by simp only [Value.int.injEq, true_and]; omega, by have := HI.out.1; omega, ?_, hK4⟩
                      rw [tj_succ tms i (by have := HI.out.1; have := HN.out; omega), if_pos hz, HI.out.2, timeT]
                      rw [show tj tms i = [] by rw [hz]; rfl] at hb4
                      simpa using hb4
                    case measure => have := HI.out.1; simp [intOf] <;> omega
                  · have hk0' : (0 : Int) < (i : Int) := by omega
                    have hk0n : 0 < i := by omega
                    have HK : Hid (¬ i = 0) := hk0
                    clear hk0
                    go_wp2_with (refine wpList_app_str rfl _ _ rfl w.heap.size u13 _ rfl HG.out.1 ⟨#[44, 32]⟩ rfl (by have := HLN.out; have := HJ.out; simp only [List.length_append, List.length_cons, List.length_nil, clock, two]; omega) ?_)
                    intro v1 w1 hb1 hk1
                    have hK1 := HG.out.2.trans hk1
                    have q0 := (HCL.out w1 hK1).1
                    go_wp2_with fail
                    refine (clock_any xs hm0 w.heap.size v1 _ w1 hb1 (by have := HLN.out; have := HJ.out; simp only [List.length_append, List.length_cons, List.length_nil, clock, two]; omega)).mono ?_
                    rintro r w2 ⟨v2, rfl, hb2, hk2⟩
                    have hK2 := hK1.trans hk2
                    clear q0
                    go_wp2_with (refine wpList_app_bytes rfl _ _ rfl w.heap.size v2 _ [45] w2 rfl hb2 _ rfl rfl (by have := HLN.out; have := HJ.out; simp only [List.length_append, List.length_cons, List.length_nil, clock, two]; omega) ?_)
                    intro v3 w3 hb3 hk3
                    have hK3 := hK2.trans hk3
                    have q1 := (HCL.out w3 hK3).2
                    go_wp2_with fail
                    refine (clock_any xe hm1 w.heap.size v3 _ w3 hb3 (by have := HLN.out; have := HJ.out; simp only [List.length_append, List.length_cons, List.length_nil, clock, two]; omega)).mono ?_
                    rintro r w4 ⟨v4, rfl, hb4, hk4⟩
                    have hK4 := hK3.trans hk4
                    clear q1
                    go_wp2
                    go_roundw
                    case rel =>
                      have hz := HK.out
                      refine ⟨i + 1, by simp only [Value.int.injEq, true_and]; omega, by have := HI.out.1; omega, ?_, hK4⟩
                      rw [tj_succ tms i (by have := HI.out.1; have := HN.out; omega), if_neg hz, HI.out.2, timeT]
                      skip
                      simpa using hb4
                    case measure => have := HI.out.1; simp [intOf] <;> omega
                · obtain rfl : i = n := by omega
                  have HJ : Hid ((tj tms i).length ≤ 1000000) := tj_len tms i HTL.out
                  have HG : Hid (Buf w.heap.size u13 (bs4 ++ [32, 123, 32] ++ tj tms i) wr ∧ Kp w.heap.size w40 wr) := ⟨hbuf, hkp⟩
                  clear hbuf hkp
                  go_wp2_with (refine wpList_app_str rfl _ _ rfl w.heap.size u13 _ rfl HG.out.1 ⟨#[32, 125]⟩ rfl (by have := HLN.out; have := HJ.out; simp only [List.length_append, List.length_cons, List.length_nil]; omega) ?_)
                  intro v9 w9 hb9 hk9
                  go_wp2
                  go_meet
                  case rel =>
                    refine hM4.out.app ?_ (HG.out.2.trans hk9)
                    have e : tj tms i = Lib.join (timeL tms) [44, 32] := by rw [← HN.out]; exact tj_all tms
                    rw [e] at hb9
                    simpa [opt, timeP] using hb9
          case rest =>
            obtain ⟨bs5, hbs5⟩ : ∃ bs : List UInt8, bs4 ++ opt b4 (timeP tms) = bs := ⟨_, rfl⟩
            rw [hbs5] at hcut
            have hM5 : Hid (Md w ms u13 bs5 wc) := hcut
            have HE5 : Hid (bs4 ++ opt b4 (timeP tms) = bs5) := hbs5
            have HLN2 : Hid (bs5.length ≤ 5003004) := by show _ ≤ _; rw [← hbs5, List.length_append]; have := opt_len b4 _ _ HSZ.out.2.2.2.2; have := HLN.out; omega
            clear hcut hM4 HLN hbs5
            have HLN : Hid (bs5.length ≤ 5003004) := HLN2
            clear HLN2
            generalize u13 = v50 at *
            generalize wc = w50 at *
            go_wp2_with (refine wpList_app_bytes rfl _ _ rfl w.heap.size v50 _ [59] w50 rfl hM5.out.buf _ rfl rfl (by have := HLN.out; simp only [List.length_cons, List.length_nil]; omega) ?_)
            intro v9 w9 hb9 hk9
            have hcvt := conv_buf hb9 (by simp)
            unfold sv at hcvt
            go_wp2
            go_ret
            refine ⟨?_, hM5.out.bel.trans hk9.1⟩
            rw [modelT, HB.out.1, HB.out.2.1, HB.out.2.2.1, HB.out.2.2.2.1, HB.out.2.2.2.2, HE0.out, HE1.out, HE2.out, HE3.out, HE4.out, HE5.out]
            rfl
end Go.Proofs.Qxb6615962aFmt
