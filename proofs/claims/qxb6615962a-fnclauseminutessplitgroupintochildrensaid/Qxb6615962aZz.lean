import Derived.Test.Qxb6615962aBody
namespace Go.Proofs.Qxb6615962a
open Go.RowKit Go.Shelf

/-- The minutes at leaf x of a calendar that holds L. -/
def minutes (L : List (Nat × Gp)) (x month length day weekday : Nat) : List Int := accum (fun g => fits g.months g.wd month length day weekday) (along L x)

theorem mem_along {L : List (Nat × Gp)} {x : Nat} {g : Gp} (h : g ∈ along L x) : ∃ k ∈ up x, (k, g) ∈ L := by
  unfold along at h
  obtain ⟨k, hk, hg⟩ := List.mem_flatMap.1 h
  unfold atNode at hg
  obtain ⟨⟨k', g'⟩, hm, rfl⟩ := List.mem_map.1 hg
  obtain ⟨hm2, he⟩ := List.mem_filter.1 hm
  simp only [beq_iff_eq] at he
  subst he
  exact ⟨k', hk, hm2⟩

theorem minutes_len (L : List (Nat × Gp)) (x month length day weekday : Nat) (h : ∀ y ∈ L, y.2.ok) : (minutes L x month length day weekday).length = 23 :=
  accum_len _ _ fun _ hg => let ⟨_, _, hm⟩ := mem_along hg; (h _ hm).hs

theorem one_of_ints (xs : List Int) : ∀ v ∈ xs.map (Value.int .u64), v.oneCell' = true := fun v hv => by
  obtain ⟨_, _, rfl⟩ := List.mem_map.1 hv
  rfl

theorem info32 : (Try.prog.info? 32).map (·.size) = some 23 := by kernel_rfl

set_option maxRecDepth 100000 in
set_option maxHeartbeats 1000000 in
theorem zz_any (F : Nat → Prop) (c n : Nat) (L : List (Nat × Gp)) (i month length day weekday : Nat) (w : World) (hC : CalAt F w c n L) (hok : ∀ y ∈ L, y.2.ok) (hin : i < n) (hn : n ≤ 65536) (hL : L.length ≤ 10000)
    (hm1 : 1 ≤ month) (hm2 : month ≤ 12) (hl : length ≤ 31) (hd1 : 1 ≤ day) (hd2 : day ≤ 31) :
    Calls Try.prog 15 #[.pointer (some ⟨c, 0, none⟩), .int .i64 i, .int .i64 month, .int .i64 length, .int .i64 day, .int .i64 weekday] w fun e w' =>
      e = .returned (.agg ((minutes L (n + i) month length day weekday).map (Value.int .u64)).toArray) ∧ Below w.heap.size w w' := by
  obtain ⟨h, ea, vs, q⟩ := hC
  have q2 := q.keep (w' := w.alloc (.cells zeros.toArray 32)) (fun b hb => Below.heap_alloc _ _ _ (q.old b hb)) (by simp)
  have HB : Hid (CallsIn Fence.wide 5 Try.prog 22 #[.pointer (some ⟨c, 0, none⟩), .int .i64 i, .int .i64 month, .int .i64 length, .int .i64 day, .int .i64 weekday] (w.alloc (.cells zeros.toArray 32)) _) := clause_in F c h n ea vs L i month length day weekday _ q2 hin hn hL hm1 hm2 hl hd1 hd2
  have hlen := minutes_len L (n + i) month length day weekday hok
  change Hid (CallsIn Fence.wide 5 Try.prog 22 _ _ fun e w' => e = .returned (.agg ((minutes L (n + i) month length day weekday).map (Value.int .u64)).toArray) ∧ Below _ _ w') at HB
  have hone := one_of_ints (minutes L (n + i) month length day weekday)
  obtain ⟨cs, hcs⟩ : ∃ cs, (minutes L (n + i) month length day weekday).map (Value.int .u64) = cs := ⟨_, rfl⟩
  have hl2 : cs.length = 23 := by rw [← hcs, List.length_map, hlen]
  rw [hcs] at HB hone ⊢
  clear hcs q q2 hlen
  have hZ := Blk.new w zeros 32
  have HI : Hid ((Try.prog.info? 32).map (·.size) = some cs.length ∧ zeros.length = cs.length ∧ ∀ v ∈ cs, v.oneCell' = true) := ⟨by rw [hl2]; exact info32, by rw [hl2]; rfl, hone⟩
  clear hl2 hone
  have HZ : Hid (Blk (w.alloc (.cells zeros.toArray 32)) w.heap.size zeros 32) := hZ
  clear hZ
  go_enter Try.func15, Try.ntmps15
  go_wp2_with fail
  refine (callsIn_wide.1 HB.out).mono ?_
  rintro e w' ⟨rfl, hb⟩
  have HW : Hid (Below (w.alloc (.cells zeros.toArray 32)).heap.size (w.alloc (.cells zeros.toArray 32)) w') := hb
  have HZ' : Hid (Blk w' w.heap.size zeros 32) := HZ.out.below hb (by simp)
  clear hb HB HZ
  go_wp2_with (refine wpList_store_put rfl 32 (.tmp 12) (.tmp 19) rfl w.heap.size 32 zeros cs rfl rfl HZ'.out HI.out.1 HI.out.2.1 HI.out.2.2 ?_)
  intro w4 HP
  go_wp2
  refine bodyPost_ret (results_cell_row rfl _ _ w.heap.size 32 cs.toArray (0, 0) _ rfl HP.out.blk Try.underlying32 rfl (by simpa using HI.out.1)) rfl ?_
  refine ⟨rfl, ?_⟩
  have h1 : Below w.heap.size w (w.alloc (.cells zeros.toArray 32)) := (Below.refl _ _).alloc (Nat.le_refl _) _
  have hp := HP.out
  exact (h1.trans (HW.out.mono (by simp))).trans ⟨hp.os, hp.tape, hp.output, Nat.le_of_eq hp.size.symm, fun b hb => hp.other b (by omega)⟩

end Go.Proofs.Qxb6615962a
