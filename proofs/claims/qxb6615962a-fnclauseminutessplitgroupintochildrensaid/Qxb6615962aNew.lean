import Derived.Test.Qxb6615962aMem
import Derived.Deep.OwnRows
namespace Go.Proofs.Qxb6615962a
open Go.RowKit Go.Deep

theorem Try.info57 : (Try.prog.info? 57).map (fun i => (i.zero, i.size, i.bytes)) = some (some (.slice none 0 0), 1, 24) := by kernel_rfl
theorem Try.info97 : (Try.prog.info? 97).map (fun i => (i.zero, i.size, i.bytes)) = some (some (.agg #[.int .i64 0, .pointer none]), 2, 16) := by kernel_rfl
theorem Try.info58 : (Try.prog.info? 58).map (fun i => (i.zero, i.size, i.bytes)) = some (some (.pointer none), 1, 8) := by kernel_rfl

theorem made_nil (n k : Nat) (v : Value) (h : (madeCells #[Value.slice none 0 0] n).toList[k]? = some v) : v = .slice none 0 0 := by
  unfold madeCells at h
  rw [Array.getElem?_toList, Array.getElem?_map] at h
  obtain ⟨x, _, hx⟩ := Option.map_eq_some_iff.1 h
  rw [← hx]
  simp [Nat.mod_one]

theorem fresh_cal {W : World} {c h n : Nat} {ea : Option Addr} {M : List Value} (F : Nat → Prop) (fc : F c) (fh : F h) (hc : Blk W c [.slice none 0 0, .bool false, .slice ea n n, .int .i64 0, .slice (some ⟨h, 0, none⟩) (2 * n) (2 * n)] 49)
    (hh : Blk W h M 57) (hl : M.length = 2 * n) (hM : ∀ (k : Nat) (v : Value), M[k]? = some v → v = .slice none 0 0) (old : ∀ b, F b → b < W.heap.size) : CalAt F W c n [] :=
  ⟨h, ea, M, fc, fh, hc, hh, hl, fun k v hv => ⟨[], by
    rw [hM k v hv]
    exact ⟨World.ownsRow_nil _ _ _ _, fun b hb => by simp [Value.ownBlock] at hb, fun j g hj => by simp [atNode] at hj⟩⟩,
    fun k j u v _ hu _ b hb _ => by rw [hM k u hu] at hb; simp [Value.ownBlock] at hb, old⟩

set_option maxHeartbeats 800000 in
set_option maxRecDepth 100000 in
theorem new_any (n : Nat) (w : World) (hn : n ≤ 65536) :
    Calls Try.prog 13 #[.int .i64 n] w fun e w' => ∃ c, e = .returned (.pointer (some ⟨c, 0, none⟩)) ∧ CalAt (fun b => w.heap.size ≤ b ∧ b < w'.heap.size) w' c n [] ∧ Chg (fun _ => False) w w' := by
  obtain ⟨i7, h7, z7, s7, b7⟩ := info_parts Try.info97
  have hmk : ∃ E : Array Value, ∀ w : World, (Instr.makeSlice 45 (.int .i64 (n : Int)) (.int .i64 (n : Int))).run Try.prog w = .ok (.slice (some ⟨w.heap.size, 0, none⟩) n n) (w.alloc (.cells E 97)) := by
    refine ⟨madeCells (Value.agg #[.int .i64 0, .pointer none]).cells (n * 2), fun w => ?_⟩
    have hr := run_make (P := Try.prog) w 45 97 i7 _ Try.underlying45 h7 z7 .i64 .i64 n n (by omega) (Int.le_refl _) (by rw [b7]; omega) (by omega)
    rw [Int.toNat_natCast, s7] at hr
    exact hr
  obtain ⟨E, hE⟩ := hmk
  have hm2 : ∀ w : World, (Instr.makeSlice 46 (.int .i64 (2 * (n : Int))) (.int .i64 (2 * (n : Int)))).run Try.prog w = .ok (.slice (some ⟨w.heap.size, 0, none⟩) (2 * n) (2 * n)) (w.alloc (.cells (madeCells #[.slice none 0 0] (2 * n)) 57)) := by
    intro w
    have hr := run_make_row' (P := Try.prog) 46 57 (.slice none 0 0) 24 Try.underlying46 Try.info57 rfl .i64 .i64 (2 * n) (by omega) (by omega) w
    rw [show ((2 * n : Nat) : Int) = 2 * (n : Int) by omega] at hr
    exact hr
  generalize hM : madeCells #[Value.slice none 0 0] (2 * n) = M at hm2
  have HM : Hid (madeCells #[Value.slice none 0 0] (2 * n) = M) := hM
  clear hM
  go_enter Try.func13, Try.ntmps13
  go_wp2_with fail
  have hsz : ∀ (a b c : Obj), (((w.alloc a).alloc b).alloc c).drew.heap.size = w.heap.size + 3 := by intro a b c; simp
  have hl : M.toList.length = 2 * n := by rw [← HM.out]; simp [size_madeCells]
  have hn' : ∀ (k : Nat) (v : Value), M.toList[k]? = some v → v = .slice none 0 0 := by intro k v hv; rw [← HM.out] at hv; exact made_nil _ _ _ hv
  have HL : Hid (M.toList.length = 2 * n ∧ ∀ (k : Nat) (v : Value), M.toList[k]? = some v → v = .slice none 0 0) := ⟨hl, hn'⟩
  have hch : ∀ (a b c : Obj), Chg (fun _ => False) w (((w.alloc a).alloc b).alloc c).drew := fun a b c =>
    Chg.of_below (B := w.heap.size) ((((((Below.refl _ _).alloc (Nat.le_refl _) a).alloc (by simp) b).alloc (by simp; omega) c)).drew) (fun b hb hb' => by omega)
  have HCH : Hid (∀ (a b c : Obj), Chg (fun _ => False) w (((w.alloc a).alloc b).alloc c).drew) := hch
  have HSZ : Hid (∀ (a b c : Obj), (((w.alloc a).alloc b).alloc c).drew.heap.size = w.heap.size + 3) := hsz
  clear hl hn' hch hsz HM
  go_region
  · go_wp2
    go_ret
    refine ⟨_, rfl, fresh_cal (ea := some ⟨w.heap.size, 0, none⟩) (h := w.heap.size + 1) (M := M.toList) _ ?_ ?_ ?_ ?_ HL.out.1 HL.out.2 (fun b hb => hb.2), HCH.out _ _ _⟩
    · rw [HSZ.out]; omega
    · rw [HSZ.out]; omega
    · have := Blk.new ((w.alloc (Obj.cells E 97)).alloc (Obj.cells M 57)) [.slice none 0 0, .bool false, .slice (some ⟨w.heap.size, 0, none⟩) n n, .int .i64 0, .slice (some ⟨w.heap.size + 1, 0, none⟩) (2 * n) (2 * n)] 49
      simp only [World.size_alloc] at this
      exact this.drew
    · have := (Blk.new (w.alloc (Obj.cells E 97)) M.toList 57).alloc (Obj.cells #[.slice none 0 0, .bool false, .slice (some ⟨w.heap.size, 0, none⟩) n n, .int .i64 0, .slice (some ⟨w.heap.size + 1, 0, none⟩) (2 * n) (2 * n)] 49)
      simp only [World.size_alloc, Array.toArray_toList] at this
      exact this.drew
  · go_wp2
    go_ret
    refine ⟨_, rfl, fresh_cal (ea := some ⟨w.heap.size + 1, 0, none⟩) (h := w.heap.size) (M := M.toList) _ ?_ ?_ ?_ ?_ HL.out.1 HL.out.2 (fun b hb => hb.2), HCH.out _ _ _⟩
    · rw [HSZ.out]; omega
    · rw [HSZ.out]; omega
    · have := Blk.new ((w.alloc (Obj.cells M 57)).alloc (Obj.cells E 97)) [.slice none 0 0, .bool false, .slice (some ⟨w.heap.size + 1, 0, none⟩) n n, .int .i64 0, .slice (some ⟨w.heap.size, 0, none⟩) (2 * n) (2 * n)] 49
      simp only [World.size_alloc] at this
      exact this.drew
    · have := ((Blk.new w M.toList 57).alloc (Obj.cells E 97)).alloc (Obj.cells #[.slice none 0 0, .bool false, .slice (some ⟨w.heap.size + 1, 0, none⟩) n n, .int .i64 0, .slice (some ⟨w.heap.size, 0, none⟩) (2 * n) (2 * n)] 49)
      simp only [Array.toArray_toList] at this
      exact this.drew

end Go.Proofs.Qxb6615962a
