import Derived.Test.Qxb6615962aMem
import Derived.OrdersHeld
namespace Go.Proofs.Qxb6615962a
section
variable {P : Program} {ops : Array Oper} {Q : Exit → Act → World → Prop} {md : Region.Mode} {S : World → Prop} {last : Nat}

/-- Whatever order is picked, and S holds behind every operation BUT NUMBER 'last': for a region whose last store turns a cell that an earlier load of it read. -/
def AnyT (P : Program) (md : Region.Mode) (ops : Array Oper) (Q : Exit → Act → World → Prop) (S : World → Prop) (last : Nat) : Nat → Array Bool → Act → World → Prop
  | 0, listed, a, w => Region.ready md ops listed = [] ∧ Q .normal a w
  | fuel + 1, listed, a, w =>
    (Region.ready md ops listed = [] → Q .normal a w) ∧
    ∀ i ∈ Region.ready md ops listed, wpOp P ops Q i (fun a' w' => (i ≠ last → S w') ∧ AnyT P md ops Q S last fuel (listed.setIfInBounds i true) a' w') a w

theorem any_of_T : ∀ (fuel : Nat) (listed : Array Bool) (a : Act) (w : World), AnyT P md ops Q S last fuel listed a w → wpAny P md ops Q fuel listed a w
  | 0, _, _, _, h => h
  | fuel + 1, _, _, _, h => ⟨h.1, fun i hi => wpOp_mono (fun a' w' h' => any_of_T fuel _ a' w' h'.2) (h.2 i hi)⟩

/-- Does number 'last' wait for number i? -/
def waits (md : Region.Mode) (ops : Array Oper) (last i : Nat) : Bool :=
  match ops[last]? with
  | some o => o.after.any fun e => Region.binds md e && e.on == i
  | none => false

theorem not_ready {i : Nat} {listed : Array Bool} (hw : waits md ops last i = true) (hi : i ∈ Region.ready md ops listed) : last ∉ Region.ready md ops listed := by
  intro hl
  obtain ⟨_, o, ho, hall⟩ := mem_ready.1 hl
  unfold waits at hw
  rw [ho] at hw
  simp only [Array.any_eq_true, Bool.and_eq_true, beq_iff_eq] at hw
  obtain ⟨k, hk, hb, he⟩ := hw
  have h1 := hall _ (Array.getElem_mem hk) hb
  rw [he] at h1
  have h0 := (mem_ready.1 hi).1
  by_cases h' : i < listed.size
  · simp [h'] at h0 h1
    rw [h0] at h1
    simp at h1
  · simp [Array.getElem?_eq_none (Nat.le_of_not_lt h')] at h1

/-- Number i may be taken first, if 'last' waits for it. -/
theorem anyT_first {i : Nat} {oi : Oper} {v : Value} (hi : ops[i]? = some oi) (hsel : ∀ (j : Nat) (o : Oper) cs b, ops[j]? = some o → o.op ≠ .select cs b) (hw : waits md ops last i = true) (hil : i ≠ last)
    (hQ : ∀ c a w, Q (.panic c) (a.put oi.dst v) w → Q (.panic c) a w) (fuel : Nat) :
    ∀ (listed : Array Bool) (a : Act) (w : World),
      (∀ j oj, ops[j]? = some oj → j ≠ i → listed.getD j true = false → (∀ e ∈ oj.after, Region.binds md e = true → e.on ≠ i) → oi.apart ops oj = true) →
      i ∈ Region.ready md ops listed → YieldsIf P ops S oi v a → S w →
      AnyT P md ops Q S last fuel (listed.setIfInBounds i true) (a.put oi.dst v) w → AnyT P md ops Q S last (fuel + 1) listed a w := by
  induction fuel with
  | zero =>
    intro listed a w _ hr hy hS H
    refine ⟨fun h => absurd hr (by rw [h]; simp), fun j hj => ?_⟩
    by_cases hji : j = i
    · subst hji
      exact hy.wpOp hi hS ⟨fun _ => hS, H⟩
    · have hmem := ready_mono hj hji
      rw [H.1] at hmem
      simp at hmem
  | succ fuel ih =>
    intro listed a w hfree hr hy hS H
    refine ⟨fun h => absurd hr (by rw [h]; simp), fun j hj => ?_⟩
    by_cases hji : j = i
    · subst hji
      exact hy.wpOp hi hS ⟨fun _ => hS, H⟩
    · have hjl : j ≠ last := fun e => not_ready hw hr (e ▸ hj)
      have step := H.2 j (ready_mono hj hji)
      obtain ⟨hjun, oj, hoj, hall⟩ := mem_ready.1 hj
      have hnot : ∀ e ∈ oj.after, Region.binds md e = true → e.on ≠ i := by
        intro e he hb heq
        have hl := hall e he hb
        have hu := (mem_ready.1 hr).1
        rw [heq] at hl
        by_cases h' : i < listed.size
        · simp [h'] at hu hl
          rw [hu] at hl
          simp at hl
        · simp [Array.getElem?_eq_none (Nat.le_of_not_lt h')] at hl
      have moved := wpOp_putIf hoj (hfree j oj hoj hji hjun hnot) (fun cs b => hsel i oi cs b hi) (fun cs b => hsel j oj cs b hoj) hQ hy step
      refine wpOp_mono (fun a' w' h3 => ?_) moved
      have hS' : S w' := h3.2.1 hjl
      refine ⟨fun _ => hS', ih (listed.setIfInBounds j true) a' w' ?_ (ready_mono hr (Ne.symm hji)) h3.1 hS' ?_⟩
      · intro k ok hk hki hun hno
        refine hfree k ok hk hki ?_ hno
        by_cases hjk : j = k
        · subst hjk; exact hjun
        · rw [getD_set_ne true hjk] at hun; exact hun
      · rw [Array.setIfInBounds_comm _ _ hji]
        exact h3.2.2

theorem anyT_take {i : Nat} {oi : Oper} {v : Value} {fuel : Nat} {listed : Array Bool} {a : Act} {w : World} (hi : ops[i]? = some oi)
    (hs : Region.noSelect ops = true) (hf : Region.free md ops listed i = true) (hr : (Region.ready md ops listed).contains i = true) (hw : waits md ops last i = true) (hil : i ≠ last)
    (hQ : ∀ c a w, Q (.panic c) (a.put oi.dst v) w → Q (.panic c) a w) (hy : YieldsIf P ops S oi v a) (hS : S w)
    (h : AnyT P md ops Q S last fuel (listed.setIfInBounds i true) (a.put oi.dst v) w) : AnyT P md ops Q S last (fuel + 1) listed a w :=
  anyT_first hi (Region.noSelect_spec hs) hw hil hQ fuel listed a w (Region.free_spec hi hf) (by simpa using hr) hy hS h

/-- One alone may come up. -/
theorem anyT_one {i : Nat} {o : Oper} {fuel : Nat} {listed : Array Bool} {a : Act} {w : World} (hr : Region.ready md ops listed = [i]) (ho : ops[i]? = some o) (hg : Region.wanted o (yielded ops a.tmps) = true)
    (h : ∀ K : Act → World → Prop, (∀ a' w', (i ≠ last → S w') → AnyT P md ops Q S last fuel (listed.setIfInBounds i true) a' w' → K a' w') → Oper.wp P o a w K Q) : AnyT P md ops Q S last (fuel + 1) listed a w := by
  refine ⟨fun h0 => by rw [hr] at h0; simp at h0, ?_⟩
  rw [hr]
  intro j hj
  obtain rfl : j = i := by simpa using hj
  unfold wpOp
  rw [ho]
  simp only [hg, if_true]
  exact .inl (h _ fun a' w' h1 h2 => ⟨h1, h2⟩)

/-- A call of the builtin append whose run is known. -/
theorem wp_append_run {o : Oper} {a : Act} {w : World} {K : Act → World → Prop} (s x : Operand) (t : TypeId) (hop : o.op = Op.call { callee := Callee.builtin Builtin.append, args := #[s, x], argTypes := #[t, t] })
    (u y v' : Value) (w' : World) (hs : a.eval s = u) (hx : a.eval x = y) (hrun : (Builtin.append_ #[t, t] o.type #[u, y]).run P w = .ok v' w') (h : K (a.put o.dst v') w') : Oper.wp P o a w K Q := by
  unfold Oper.wp
  simp [execOp, hop, resolve, invoke, builtin, hs, hx, hrun, Result.andThen]
  exact h

theorem anyT_done {listed : Array Bool} {a : Act} {w : World} (hr : Region.ready md ops listed = []) (h : Q .normal a w) : ∀ fuel, AnyT P md ops Q S last fuel listed a w
  | 0 => ⟨hr, h⟩
  | _ + 1 => ⟨fun _ => h, by rw [hr]; simp⟩

theorem region_T {id : Nat} {a : Act} {w : World} (hm : P.follows .mixedOrders = true)
    (h : AnyT P .any ops Q S last ops.size (Array.replicate ops.size false) a w.drew) : (Code.region id ops true).wp P Q a w :=
  wp_region_any hm (any_of_T _ _ _ _ h)

end
end Go.Proofs.Qxb6615962a
