/-
  A region that draws its order: a load may be taken first where the one operation that writes its cell waits for it. By an AI agent.
-/
import Derived.OrdersHeld
import Derived.Deep.RegionHeld
import Derived.WalkKit
namespace Go.Proofs.Ybulkfbw.lawS0295AFires
section
variable {P : Program} {ops : Array Oper} {Q : Exit → Act → World → Prop} {md : Region.Mode} {S : World → Prop} {m : Nat}

/-- Whatever order is picked from here on; and S holds behind every operation that is carried out, till number m has come up. -/
def wpAnyT (P : Program) (md : Region.Mode) (ops : Array Oper) (Q : Exit → Act → World → Prop) (S : World → Prop) (m : Nat) : Nat → Array Bool → Act → World → Prop
  | 0, listed, a, w => Region.ready md ops listed = [] ∧ Q .normal a w
  | fuel + 1, listed, a, w =>
    (Region.ready md ops listed = [] → Q .normal a w) ∧
    ∀ i ∈ Region.ready md ops listed, wpOp P ops Q i (fun a' w' => ((listed.setIfInBounds i true).getD m false = true ∨ S w') ∧ wpAnyT P md ops Q S m fuel (listed.setIfInBounds i true) a' w') a w

theorem wpAny_of_T : ∀ (fuel : Nat) (listed : Array Bool) (a : Act) (w : World), wpAnyT P md ops Q S m fuel listed a w → wpAny P md ops Q fuel listed a w
  | 0, _, _, _, h => h
  | fuel + 1, _, _, _, h => ⟨h.1, fun i hi => wpOp_mono (fun a' w' h' => wpAny_of_T fuel _ a' w' h'.2) (h.2 i hi)⟩

/-- Number m waits for number i. -/
def waits (md : Region.Mode) (ops : Array Oper) (m i : Nat) : Bool :=
  match ops[m]? with
  | some o => o.after.any fun e => Region.binds md e && e.on == i
  | none => true

theorem wpAnyT_first {i : Nat} {oi : Oper} {v : Value} (hi : ops[i]? = some oi) (hsel : ∀ (j : Nat) (o : Oper) cs b, ops[j]? = some o → o.op ≠ .select cs b)
    (hQ : ∀ c a w, Q (.panic c) (a.put oi.dst v) w → Q (.panic c) a w) (hm : waits md ops m i = true) (him : i ≠ m) :
    ∀ (fuel : Nat) (listed : Array Bool) (a : Act) (w : World),
      (∀ j oj, ops[j]? = some oj → j ≠ i → listed.getD j true = false → (∀ e ∈ oj.after, Region.binds md e = true → e.on ≠ i) → oi.apart ops oj = true) →
      i ∈ Region.ready md ops listed → YieldsIf P ops S oi v a → S w → listed.getD m false = false →
      wpAnyT P md ops Q S m fuel (listed.setIfInBounds i true) (a.put oi.dst v) w → wpAnyT P md ops Q S m (fuel + 1) listed a w := by
  intro fuel
  induction fuel with
  | zero =>
    intro listed a w _ hr hy hS hun H
    refine ⟨fun h => (by rw [h] at hr; cases hr), fun j hj => ?_⟩
    by_cases hji : j = i
    · subst hji; exact hy.wpOp hi hS ⟨.inr hS, H⟩
    · have := ready_mono hj hji
      rw [H.1] at this
      cases this
  | succ fuel ih =>
    intro listed a w hfree hr hy hS hun H
    refine ⟨fun h => (by rw [h] at hr; cases hr), fun j hj => ?_⟩
    by_cases hji : j = i
    · subst hji; exact hy.wpOp hi hS ⟨.inr hS, H⟩
    · have h1 := H.2 j (ready_mono hj hji)
      obtain ⟨hjun, oj, hoj, hall⟩ := mem_ready.1 hj
      have hnot : ∀ e ∈ oj.after, Region.binds md e = true → e.on ≠ i := fun e he hb heq => by
        have h1 := hall e he hb
        have h0 := (mem_ready.1 hr).1
        rw [heq] at h1
        rcases Nat.lt_or_ge i listed.size with h' | h'
        · simp [h'] at h0 h1; rw [h0] at h1; cases h1
        · simp [Array.getElem?_eq_none h'] at h1
      have hjm : j ≠ m := by
        intro e
        subst e
        unfold waits at hm
        rw [hoj] at hm
        simp only [Array.any_eq_true', Bool.and_eq_true, beq_iff_eq] at hm
        obtain ⟨e, he, hb, ho⟩ := hm
        exact hnot e he hb ho
      have h2 := wpOp_putIf hoj (hfree j oj hoj hji hjun hnot) (fun cs b => hsel i oi cs b hi) (fun cs b => hsel j oj cs b hoj) hQ hy h1
      have hfree' : ∀ k ok, ops[k]? = some ok → k ≠ i → (listed.setIfInBounds j true).getD k true = false →
          (∀ e ∈ ok.after, Region.binds md e = true → e.on ≠ i) → oi.apart ops ok = true := fun k ok hk hki hun hno => by
        refine hfree k ok hk hki ?_ hno
        by_cases hjk : j = k
        · subst hjk; exact hjun
        · rw [getD_set_ne true hjk] at hun; exact hun
      refine wpOp_mono (fun a' w' h3 => ?_) h2
      have hS' : S w' := by
        rcases h3.2.1 with hl | hl
        · rw [getD_set_ne false hjm, getD_set_ne false him] at hl
          rw [hun] at hl
          cases hl
        · exact hl
      refine ⟨.inr hS', ih (listed.setIfInBounds j true) a' w' hfree' (ready_mono hr (Ne.symm hji)) h3.1 hS' (by rw [getD_set_ne false hjm]; exact hun) ?_⟩
      rw [Array.setIfInBounds_comm _ _ hji]
      exact h3.2.2

/-- An operation that yields in whatever world may be taken first too. -/
theorem wpAnyT_firstY {i : Nat} {oi : Oper} {v : Value} (hi : ops[i]? = some oi) (hsel : ∀ (j : Nat) (o : Oper) cs b, ops[j]? = some o → o.op ≠ .select cs b)
    (hQ : ∀ c a w, Q (.panic c) (a.put oi.dst v) w → Q (.panic c) a w) (him : i ≠ m) :
    ∀ (fuel : Nat) (listed : Array Bool) (a : Act) (w : World),
      (∀ j oj, ops[j]? = some oj → j ≠ i → listed.getD j true = false → (∀ e ∈ oj.after, Region.binds md e = true → e.on ≠ i) → oi.apart ops oj = true) →
      i ∈ Region.ready md ops listed → YieldsIf P ops (fun _ => True) oi v a → (listed.getD m false = true ∨ S w) →
      wpAnyT P md ops Q S m fuel (listed.setIfInBounds i true) (a.put oi.dst v) w → wpAnyT P md ops Q S m (fuel + 1) listed a w := by
  intro fuel
  induction fuel with
  | zero =>
    intro listed a w _ hr hy hS H
    refine ⟨fun h => (by rw [h] at hr; cases hr), fun j hj => ?_⟩
    by_cases hji : j = i
    · subst hji; exact hy.wpOp hi trivial ⟨by rw [getD_set_ne false him]; exact hS, H⟩
    · have := ready_mono hj hji
      rw [H.1] at this
      cases this
  | succ fuel ih =>
    intro listed a w hfree hr hy hS H
    refine ⟨fun h => (by rw [h] at hr; cases hr), fun j hj => ?_⟩
    by_cases hji : j = i
    · subst hji; exact hy.wpOp hi trivial ⟨by rw [getD_set_ne false him]; exact hS, H⟩
    · have h1 := H.2 j (ready_mono hj hji)
      obtain ⟨hjun, oj, hoj, hall⟩ := mem_ready.1 hj
      have hnot : ∀ e ∈ oj.after, Region.binds md e = true → e.on ≠ i := fun e he hb heq => by
        have h1 := hall e he hb
        have h0 := (mem_ready.1 hr).1
        rw [heq] at h1
        rcases Nat.lt_or_ge i listed.size with h' | h'
        · simp [h'] at h0 h1; rw [h0] at h1; cases h1
        · simp [Array.getElem?_eq_none h'] at h1
      have h2 := wpOp_putIf hoj (hfree j oj hoj hji hjun hnot) (fun cs b => hsel i oi cs b hi) (fun cs b => hsel j oj cs b hoj) hQ hy h1
      have hfree' : ∀ k ok, ops[k]? = some ok → k ≠ i → (listed.setIfInBounds j true).getD k true = false →
          (∀ e ∈ ok.after, Region.binds md e = true → e.on ≠ i) → oi.apart ops ok = true := fun k ok hk hki hun hno => by
        refine hfree k ok hk hki ?_ hno
        by_cases hjk : j = k
        · subst hjk; exact hjun
        · rw [getD_set_ne true hjk] at hun; exact hun
      refine wpOp_mono (fun a' w' h3 => ?_) h2
      have h4 : (listed.setIfInBounds j true).getD m false = true ∨ S w' := by
        have := h3.2.1
        rw [Array.setIfInBounds_comm _ _ (Ne.symm hji), getD_set_ne false him] at this
        exact this
      refine ⟨h4, ih (listed.setIfInBounds j true) a' w' hfree' (ready_mono hr (Ne.symm hji)) h3.1 h4 ?_⟩
      rw [Array.setIfInBounds_comm _ _ hji]
      exact h3.2.2

theorem wpAnyT_takeY {i : Nat} {oi : Oper} {v : Value} {fuel : Nat} {listed : Array Bool} {a : Act} {w : World} (hi : ops[i]? = some oi)
    (hs : Region.noSelect ops = true) (hf : Region.free md ops listed i = true) (hr : (Region.ready md ops listed).contains i = true) (him : i ≠ m)
    (hQ : ∀ c a w, Q (.panic c) (a.put oi.dst v) w → Q (.panic c) a w) (hy : YieldsIf P ops (fun _ => True) oi v a) (hS : S w)
    (h : wpAnyT P md ops Q S m fuel (listed.setIfInBounds i true) (a.put oi.dst v) w) : wpAnyT P md ops Q S m (fuel + 1) listed a w :=
  wpAnyT_firstY hi (Region.noSelect_spec hs) hQ him fuel listed a w (Region.free_spec hi hf) (by simpa using hr) hy (.inr hS) h

theorem wpAnyT_take {i : Nat} {oi : Oper} {v : Value} {fuel : Nat} {listed : Array Bool} {a : Act} {w : World} (hi : ops[i]? = some oi)
    (hs : Region.noSelect ops = true) (hf : Region.free md ops listed i = true) (hr : (Region.ready md ops listed).contains i = true) (hm : waits md ops m i = true) (him : i ≠ m) (hun : listed.getD m false = false)
    (hQ : ∀ c a w, Q (.panic c) (a.put oi.dst v) w → Q (.panic c) a w) (hy : YieldsIf P ops S oi v a) (hS : S w)
    (h : wpAnyT P md ops Q S m fuel (listed.setIfInBounds i true) (a.put oi.dst v) w) : wpAnyT P md ops Q S m (fuel + 1) listed a w :=
  wpAnyT_first hi (Region.noSelect_spec hs) hQ hm him fuel listed a w (Region.free_spec hi hf) (by simpa using hr) hy hS hun h

/-- Only number i may come up. -/
theorem wpAnyT_only {i : Nat} {o : Oper} {fuel : Nat} {listed : Array Bool} {a : Act} {w : World} (hr : Region.ready md ops listed = [i]) (ho : ops[i]? = some o) (hg : o.guard = none)
    (h : Oper.wp P o a w (fun a' w' => ((listed.setIfInBounds i true).getD m false = true ∨ S w') ∧ wpAnyT P md ops Q S m fuel (listed.setIfInBounds i true) a' w') Q) : wpAnyT P md ops Q S m (fuel + 1) listed a w := by
  refine ⟨fun h0 => (by rw [hr] at h0; cases h0), ?_⟩
  rw [hr]
  intro j hj
  simp at hj
  subst hj
  unfold wpOp
  simp only [ho]
  have hw : Region.wanted o (yielded ops a.tmps) = true := by simp [Region.wanted, hg]
  rw [if_pos hw]
  exact .inl h

theorem wpAnyT_done {listed : Array Bool} {a : Act} {w : World} (hr : Region.ready md ops listed = []) (h : Q .normal a w) : ∀ fuel, wpAnyT P md ops Q S m fuel listed a w
  | 0 => ⟨hr, h⟩
  | _ + 1 => ⟨fun _ => h, by rw [hr]; simp⟩

theorem wp_region_T {id : Nat} {a : Act} {w : World} (m : Nat) (S : World → Prop) (hm : P.follows .mixedOrders = true) (hS : S w.drew)
    (h : S w.drew → wpAnyT P .any ops Q S m ops.size (Array.replicate ops.size false) a w.drew) : (Code.region id ops true).wp P Q a w :=
  wp_region_any hm (wpAny_of_T _ _ _ _ (h hS))
end
/-- A cut: what holds behind a statement is said once; the frame goes by a name. -/
def postN (R : Act → World → Prop) : Exit → Act → World → Prop
  | .normal, a, w => R a w
  | _, _, _ => False
theorem wp_then {P : Program} {c : Code} {Q : Exit → Act → World → Prop} {a : Act} {w : World} (R : Act → Act → World → Prop)
    (h : ∀ a0, a0 = a → Code.wp P c (postN (R a0)) a0 w) (k : ∀ a0 a' w', a0 = a → R a0 a' w' → Q .normal a' w') : Code.wp P c Q a w :=
  Code.wp_mono (fun e a' w' hr => by cases e <;> first | exact k a a' w' rfl hr | exact (hr : False).elim) (h a rfl)
def putAll : Act → List Nat → List Value → Act
  | a, s :: ss, u :: us => putAll (a.put (some s) u) ss us
  | a, _, _ => a
end Go.Proofs.Ybulkfbw.lawS0295AFires
