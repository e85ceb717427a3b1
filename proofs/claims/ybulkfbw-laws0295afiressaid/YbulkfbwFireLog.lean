/-
  LawS0295AFires: the watchers' logs; what event and Notify do. By an AI agent.
-/
import Derived.Test.YbulkfbwFireTake
import Derived.Test.YbulkfbwFireOrd
import Derived.Maps.AppendAt
import Derived.OwnWalk
namespace Go.Proofs.Ybulkfbw.lawS0295AFires
open Go.ChangeShapes Go.WideShapes Go.RowKit
open Go.ChangeMaps (setBlock)
set_option linter.unusedVariables false
variable {base : Nat} {w : World} {ws : List Nat}

def evA (typ : Int) (p : Nat) : Value := .agg #[.int .i32 typ, .int .i32 3, .string (path p)]
def evL (x : Int × Nat) : List Value := [.int .i32 x.1, .int .i32 3, .string (path x.2)]
theorem info77 : (Yba.prog.info? 77).map (fun i => (i.zero, i.size, i.bytes)) = some (some (.agg #[.int .i32 0, .int .i32 0, .string ⟨#[]⟩]), 3, 24) := by kernel_rfl

/-- Each watcher's cell holds a slice of its own; no two in one row. -/
structure Logs (base : Nat) (ws : List Nat) (w : World) (V : Nat → Value) (lg : Nat → List (Int × Nat)) : Prop where
  cell : ∀ i ∈ ws, w.heap[i]? = some (.cells #[V i] 31 (0, 0))
  low : ∀ i ∈ ws, base ≤ i
  row : ∀ i ∈ ws, w.ownsRow base 77 3 (V i) (lg i).length ((lg i).flatMap evL)
  apart : ∀ i ∈ ws, ∀ j ∈ ws, i ≠ j → ∀ g, (V i).ownBlock = some g → (V j).ownBlock ≠ some g

theorem evL_length (l : List (Int × Nat)) : (l.flatMap evL).length = l.length * 3 := by
  induction l with
  | nil => rfl
  | cons x xs ih => rw [List.flatMap_cons, List.length_append, ih]; simp [evL]; omega

/-- What a step may turn: K says which objects. -/
structure Fr (K : Obj → Prop) (base : Nat) (w w' : World) : Prop where
  os : w'.os = w.os
  tape : w'.tape = w.tape
  output : w'.output = w.output
  size : w.heap.size ≤ w'.heap.size
  block : ∀ b o, w.heap[b]? = some o → (b < base ∨ ¬ K o) → w'.heap[b]? = some o
theorem Fr.refl (K : Obj → Prop) (base : Nat) (w : World) : Fr K base w w := ⟨rfl, rfl, rfl, Nat.le_refl _, fun _ _ h _ => h⟩
theorem Fr.trans {K : Obj → Prop} {base : Nat} {a b c : World} (h : Fr K base a b) (k : Fr K base b c) : Fr K base a c :=
  ⟨k.os.trans h.os, k.tape.trans h.tape, k.output.trans h.output, Nat.le_trans h.size k.size, fun i o hi ho => k.block i o (h.block i o hi ho) ho⟩
theorem Fr.below {K : Obj → Prop} {base : Nat} {w w' : World} (h : Fr K base w w') (hb : base ≤ w.heap.size) : Below base w w' :=
  ⟨h.os, h.tape, h.output, h.size, fun i hi => by
    have hl : i < w.heap.size := by omega
    have h1 : w.heap[i]? = some w.heap[i] := Array.getElem?_eq_getElem hl
    rw [h1]
    exact h.block i _ h1 (.inl hi)⟩
/-- Maps and logs. -/
def KL (o : Obj) : Prop := (∃ es n, o = .map es n) ∨ (∃ cs f, o = .cells cs 31 f) ∨ (∃ cs f, o = .cells cs 77 f)
theorem Fm.fr {base : Nat} {w w' : World} (h : Fm base w w') : Fr KL base w w' :=
  ⟨h.os, h.tape, h.output, h.size, fun b o hb ho => h.block b o hb (ho.imp_right fun hk es n e => hk (.inl ⟨es, n, e⟩))⟩

theorem Logs.fm {V : Nat → Value} {lg : Nat → List (Int × Nat)} (h : Logs base ws w V lg) {w' : World} (hm : Fm base w w') : Logs base ws w' V lg := by
  refine ⟨fun i hi => hm.block _ _ (h.cell i hi) (.inr (by simp)), h.low, fun i hi => ?_, h.apart⟩
  obtain ⟨h1, h2⟩ := h.row i hi
  refine ⟨h1, ?_⟩
  rcases h2 with h2 | ⟨g, cap, cur, hv, hb, hg, r⟩
  · exact .inl h2
  · exact .inr ⟨g, cap, cur, hv, hb, hm.block _ _ hg (.inr (by simp)), r⟩

theorem ownsRow_at {V : Value} {n : Nat} {xs : List Value} (h : w.ownsRow base 77 3 V n xs) {g : Nat} (hg : V.ownBlock = some g) : ∃ cur, w.heap[g]? = some (.cells cur 77 (0, 0)) := by
  rcases h.2 with ⟨rfl, _⟩ | ⟨g', cap, cur, rfl, _, hg', _⟩
  · cases hg
  · simp [Value.ownBlock] at hg
    subst hg
    exact ⟨cur, hg'⟩

/-- One watcher's slice has grown; all else stands. -/
theorem Logs.put {V : Nat → Value} {lg : Nat → List (Int × Nat)} (h : Logs base ws w V lg) {i : Nat} (hi : i ∈ ws) {w1 w2 : World} {v' : Value} {x : Int × Nat}
    (hg : w.grownBy w1 (V i).ownBlock) (hr : w1.ownsRow base 77 3 v' ((lg i).length + 1) ((lg i).flatMap evL ++ evL x)) (hat : v'.ownBlock = (V i).ownBlock ∨ ∀ g, v'.ownBlock = some g → w.heap.size ≤ g)
    (hw2 : w2 = w1.setCell ⟨i, 0, none⟩ v') :
    Logs base ws w2 (fun j => if j = i then v' else V j) (fun j => if j = i then lg i ++ [x] else lg j) ∧
      (w2.os = w.os ∧ w2.tape = w.tape ∧ w2.output = w.output ∧ w.heap.size ≤ w2.heap.size ∧ ∀ b, b < w.heap.size → b ≠ i → (V i).ownBlock ≠ some b → w2.heap[b]? = w.heap[b]?) := by
  have hne : ∀ j ∈ ws, ∀ k ∈ ws, ∀ g, (V j).ownBlock = some g → g ≠ k := by
    intro j hj k hk g hg' e
    obtain ⟨cur, hc⟩ := ownsRow_at (h.row j hj) hg'
    rw [e, h.cell k hk] at hc
    simp at hc
  have hlt : ∀ j ∈ ws, j < w.heap.size := fun j hj => (Array.getElem?_eq_some_iff.1 (h.cell j hj)).1
  have hc1 : ∀ j ∈ ws, w1.heap[j]? = some (.cells #[V j] 31 (0, 0)) := fun j hj => by
    rw [hg.block j (hlt j hj) (fun e => hne i hi j hj j e.symm rfl)]
    exact h.cell j hj
  have hset : ∀ b, b ≠ i → w2.heap[b]? = w1.heap[b]? := by
    intro b hb
    rw [hw2]
    exact Below.heap_setCell _ _ _ _ hb
  have hv' : ∀ g, v'.ownBlock = some g → g ≠ i ∧ (∀ j ∈ ws, j ≠ i → (V j).ownBlock ≠ some g) := by
    intro g hg'
    rcases hat with hat | hat
    · rw [hat] at hg'
      exact ⟨hne i hi i hi g hg', fun j hj hji => h.apart i hi j hj (fun e => hji e.symm) g hg'⟩
    · have := hat g hg'
      have h2 := hlt i hi
      refine ⟨by omega, fun j hj _ e => ?_⟩
      have := ((h.row j hj).lt g e).2
      omega
  have hrow : ∀ {wa wb : World} {v : Value} {n : Nat} {xs : List Value}, wa.ownsRow base 77 3 v n xs → (∀ g, v.ownBlock = some g → wb.heap[g]? = wa.heap[g]?) → wb.ownsRow base 77 3 v n xs := by
    intro wa wb v n xs h1 h2
    refine ⟨h1.1, ?_⟩
    rcases h1.2 with h3 | ⟨g, cap, cur, hv, hb, hg', r⟩
    · exact .inl h3
    · exact .inr ⟨g, cap, cur, hv, hb, (h2 g (by rw [hv]; rfl)).trans hg', r⟩
  have hsz2 : w2.heap.size = w1.heap.size := by rw [hw2]; simp [World.setCell]
  refine ⟨⟨fun j hj => ?_, h.low, fun j hj => ?_, fun j hj k hk hjk g hg' => ?_⟩, by rw [hw2]; exact hg.os, by rw [hw2]; exact hg.tape, by rw [hw2]; exact hg.output, by rw [hsz2]; exact hg.size, fun b hb hbi hbr => ?_⟩
  · by_cases e : j = i
    · subst e
      rw [if_pos rfl, hw2]
      have := hc1 j hj
      simp [World.setCell, Array.getElem?_modify, this]
    · rw [if_neg e, hset j e]
      exact hc1 j hj
  · by_cases e : j = i
    · subst e
      simp only [if_true]
      have e1 : (lg j ++ [x]).length = (lg j).length + 1 := by simp
      have e2 : (lg j ++ [x]).flatMap evL = (lg j).flatMap evL ++ evL x := by simp
      rw [e1, e2]
      exact hrow hr (fun g hg' => hset g (hv' g hg').1)
    · simp only [if_neg e]
      refine hrow (h.row j hj) (fun g hg' => ?_)
      rw [hset g (hne j hj i hi g hg'), hg.block g ((h.row j hj).lt g hg').2 (fun e' => h.apart i hi j hj (fun e2 => e e2.symm) g e'.symm hg')]
  · by_cases e1 : j = i <;> by_cases e2 : k = i
    · exact absurd (e1.trans e2.symm) hjk
    · simp only [if_pos e1] at hg'
      simp only [if_neg e2]
      exact (hv' g hg').2 k hk e2
    · simp only [if_neg e1] at hg'
      simp only [if_pos e2]
      intro e3
      exact (hv' g e3).2 j hj e1 hg'
    · simp only [if_neg e1] at hg'
      simp only [if_neg e2]
      exact h.apart j hj k hk hjk g hg'
  · rw [hset b hbi, hg.block b hb (fun e => hbr e.symm)]

theorem event_any (typ : Int) (p : Nat) (w : World) : Calls Yba.prog 32 #[.int .i32 typ, .string (path p)] w fun e w' => e = .returned (evA typ p) ∧ w' = w.alloc (.cells #[.int .i32 typ, .int .i32 3, .string (path p)] 77) := by
  go_enter Yba.func32, Yba.ntmps32
  go_wp2
  exact bodyPost_ret (v := evA typ p) (results_cell_row rfl _ _ w.heap.size 77 _ (0, 0) _ rfl (heap_alloc_new _ _) Yba.underlying77 rfl (by kernel_rfl)) rfl ⟨rfl, rfl⟩

theorem list10 {us : List Value} (h : us.length = 10) : ∃ u0 u1 u2 u3 u4 u5 u6 u7 u8 u9, us = [u0, u1, u2, u3, u4, u5, u6, u7, u8, u9] := by
  match us, h with
  | [u0, u1, u2, u3, u4, u5, u6, u7, u8, u9], _ => exact ⟨u0, u1, u2, u3, u4, u5, u6, u7, u8, u9, rfl⟩
theorem own_form {w : World} {base : Nat} {e : TypeId} {size : Nat} {v : Value} {n : Nat} {xs : List Value} (h : w.ownsRow base e size v n xs) (hn : 0 < n) :
    ∃ g cap, v = .slice (some ⟨g, 0, none⟩) n cap ∧ base ≤ g ∧ g < w.heap.size := by
  rcases h.2 with ⟨_, h0⟩ | ⟨g, cap, cur, hv, hb, hg, _⟩
  · omega
  · exact ⟨g, cap, hv, hb, (Array.getElem?_eq_some_iff.1 hg).1⟩

theorem wp_append_run {P : Program} {o : Oper} {a : Act} {w w' : World} {K : Act → World → Prop} {Q : Exit → Act → World → Prop} (s x : Operand) (t : TypeId)
    (ho : o.op = .call { callee := .builtin .append, args := #[s, x], argTypes := #[t, t] }) {v xv v' : Value} (hs : a.eval s = v) (hx : a.eval x = xv)
    (hr : (Builtin.append_ #[t, t] o.type #[v, xv]).run P w = .ok v' w') (h : K (a.put o.dst v') w') : o.wp P a w K Q := by
  unfold Oper.wp execOp
  simp only [ho, resolve, invoke, builtin, Sem.run_bind, Sem.run_pure, Result.andThen_ok, List.map_toArray, List.map_cons, List.map_nil, hs, hx, hr]
  exact h

set_option maxHeartbeats 1000000 in
set_option maxRecDepth 100000 in
theorem notify_any {V : Nat → Value} {lg : Nat → List (Int × Nat)} (h : Logs base ws w V lg) {i : Nat} (hi : i ∈ ws) (hl : (lg i).length ≤ 1) (hb : base ≤ w.heap.size) (typ : Int) (p : Nat) :
    Calls Yba.prog 70 #[.pointer (some ⟨i, 0, none⟩), evA typ p] w fun e w' => e = .returned (.tuple #[]) ∧
      (∃ V', Logs base ws w' V' (fun j => if j = i then lg i ++ [(typ, p)] else lg j) ∧ ∀ j g, (V' j).ownBlock = some g → (V j).ownBlock = some g ∨ w.heap.size ≤ g) ∧
      w'.os = w.os ∧ w'.tape = w.tape ∧ w'.output = w.output ∧ w.heap.size ≤ w'.heap.size ∧ ∀ b, b < w.heap.size → b ≠ i → (V i).ownBlock ≠ some b → w'.heap[b]? = w.heap[b]? := by
  unfold evA
  have hc := h.cell i hi
  have hlt : i < w.heap.size := (Array.getElem?_eq_some_iff.1 hc).1
  have hc0 : w.cell? ⟨i, 0, none⟩ = some (V i) := by simp [World.cell?, hc]
  have hf0 : w.frozen? ⟨i, 0, none⟩ = false := by simp [World.frozen?, hc]
  have HL : Hid (Logs base ws w V lg) := h
  clear h hc
  obtain ⟨w1, hw1⟩ : ∃ x, x = w.alloc (.cells #[.int .i32 typ, .int .i32 3, .string (path p)] 77) := ⟨_, rfl⟩
  have hbx : w1.heap[w.heap.size]? = some (.cells #[.int .i32 typ, .int .i32 3, .string (path p)] 77 (0, 0)) := by rw [hw1]; exact heap_alloc_new _ _
  have hsz1 : w1.heap.size = w.heap.size + 1 := by rw [hw1]; simp
  have hc1 : w1.cell? ⟨i, 0, none⟩ = some (V i) := by rw [hw1]; exact (World.cell?_alloc_past _ _ _ hlt).trans hc0
  have hf1 : w1.frozen? ⟨i, 0, none⟩ = false := by rw [hw1]; exact (World.frozen?_alloc_past _ _ _ hlt).trans hf0
  have hb0 : w1.cell? ⟨w.heap.size, 0, none⟩ = some (.int .i32 typ) := by simp [World.cell?, hbx]
  have hb1 : w1.cell? ⟨w.heap.size, 1, none⟩ = some (.int .i32 3) := by simp [World.cell?, hbx]
  have hb2 : w1.cell? ⟨w.heap.size, 2, none⟩ = some (.string (path p)) := by simp [World.cell?, hbx]
  -- the append
  obtain ⟨i0, ti, hz0, hz1, hz2⟩ := info_parts info77
  obtain ⟨w2, hw2⟩ : ∃ x, x = (w1.alloc (.cells #[.int .i32 typ, .int .i32 3, .string (path p)] 77)).drew := ⟨_, rfl⟩
  have hg2 : w.grownBy w2 none := by
    rw [hw2, hw1]
    exact ⟨rfl, rfl, rfl, by simp; omega, fun k hk _ => by
      show ((w.alloc _).alloc _).heap[k]? = _
      rw [Below.heap_alloc _ _ _ (by simp; omega)]
      exact Below.heap_alloc _ _ _ hk⟩
  have hbs2 : w2.heap[w.heap.size]? = some (.cells #[.int .i32 typ, .int .i32 3, .string (path p)] 77 (0, 0)) := by
    rw [hw2]
    show (w1.alloc _).heap[w.heap.size]? = _
    rw [Below.heap_alloc _ _ _ (by omega)]
    exact hbx
  have hbn2 : w2.heap[w.heap.size + 1]? = some (.cells #[.int .i32 typ, .int .i32 3, .string (path p)] 77 (0, 0)) := by
    rw [hw2, ← hsz1]
    exact heap_alloc_new w1 _
  have hsz2 : w2.heap.size = w.heap.size + 2 := by rw [hw2]; show (w1.alloc _).heap.size = _; simp [hsz1]
  have hnews : ∀ (j : Nat) (u : Value), (evL (typ, p))[j]? = some u → w2.cell? ((⟨w.heap.size + 1, 0, none⟩ : Addr).add j) = some u := by
    intro j u hu
    match j, hu with
    | 0, hu => simp [evL] at hu; subst hu; simp [Addr.add, World.cell?, hbn2]
    | 1, hu => simp [evL] at hu; subst hu; simp [Addr.add, World.cell?, hbn2]
    | 2, hu => simp [evL] at hu; subst hu; simp [Addr.add, World.cell?, hbn2]
    | j + 3, hu => simp [evL] at hu
  have hown2 : w2.ownsRow base 77 3 (V i) (lg i).length ((lg i).flatMap evL) := (HL.out.row i hi).kept hg2 (by cases hv : (V i).ownBlock <;> simp)
  obtain ⟨v', w3, hrun, hown3, hg3, _, hat⟩ := run_append_own_at (P := Yba.prog) w2 base 29 29 77 i0 _ 3 24 Yba.underlying29 ti hz0 hz1 hz2 rfl (by decide) (V i) (lg i).length _ hown2 ⟨w.heap.size + 1, 0, none⟩ 1 1 (evL (typ, p)) rfl hnews (by intro u hu; simp [evL] at hu; rcases hu with rfl | rfl | rfl <;> rfl) (by unfold maxLen; omega) (by omega) (by omega)
  clear i0 ti hz0 hz1 hz2
  obtain ⟨g5, cp5, rfl, _, _⟩ := own_form hown3 (by omega)
  have hown : ∀ g, (V i).ownBlock = some g → g ≠ i ∧ g < w.heap.size := by
    intro g hg
    refine ⟨fun e => ?_, ((HL.out.row i hi).lt g hg).2⟩
    obtain ⟨cur, hc⟩ := ownsRow_at (HL.out.row i hi) hg
    rw [e, HL.out.cell i hi] at hc
    simp at hc
  have hi3 : w3.heap[i]? = some (.cells #[V i] 31 (0, 0)) := by
    rw [hg3.block i (by omega) (fun e => (hown i e.symm).1 rfl), hg2.block i hlt (by simp)]
    exact HL.out.cell i hi
  have hx3 : w3.heap[w.heap.size]? = some (.cells #[.int .i32 typ, .int .i32 3, .string (path p)] 77 (0, 0)) := by
    rw [hg3.block _ (by omega) (fun e => by have := (hown _ e.symm).2; omega)]
    exact hbs2
  have hS3 : w3.cell? ⟨i, 0, none⟩ = some (V i) ∧ w3.cell? ⟨w.heap.size, 0, none⟩ = some (.int .i32 typ) ∧ w3.cell? ⟨w.heap.size, 1, none⟩ = some (.int .i32 3) ∧ w3.cell? ⟨w.heap.size, 2, none⟩ = some (.string (path p)) := by
    simp [World.cell?, hi3, hx3]
  have hf3 : w3.frozen? ⟨i, 0, none⟩ = false := by simp [World.frozen?, hi3]
  have hg03 : w.grownBy w3 (V i).ownBlock := ⟨hg3.os.trans hg2.os, hg3.tape.trans hg2.tape, hg3.output.trans hg2.output, Nat.le_trans hg2.size hg3.size, fun j hj hne => (hg3.block j (by have := hg2.size; omega) hne).trans (hg2.block j hj (by simp))⟩
  obtain ⟨hlog, hfr⟩ := HL.out.put hi (w2 := w3.setCell ⟨i, 0, none⟩ (.slice (some ⟨g5, 0, none⟩) ((lg i).length + 1) cp5)) hg03 hown3 (x := (typ, p)) (hat.imp_right (fun e g hg => by rw [e] at hg; cases hg; omega)) rfl
  have HE : Hid ((∃ V', Logs base ws (w3.setCell ⟨i, 0, none⟩ (.slice (some ⟨g5, 0, none⟩) ((lg i).length + 1) cp5)) V' (fun j => if j = i then lg i ++ [(typ, p)] else lg j) ∧ ∀ j g, (V' j).ownBlock = some g → (V j).ownBlock = some g ∨ w.heap.size ≤ g) ∧
      (w3.setCell ⟨i, 0, none⟩ (.slice (some ⟨g5, 0, none⟩) ((lg i).length + 1) cp5)).os = w.os ∧ (w3.setCell ⟨i, 0, none⟩ (.slice (some ⟨g5, 0, none⟩) ((lg i).length + 1) cp5)).tape = w.tape ∧ (w3.setCell ⟨i, 0, none⟩ (.slice (some ⟨g5, 0, none⟩) ((lg i).length + 1) cp5)).output = w.output ∧ w.heap.size ≤ (w3.setCell ⟨i, 0, none⟩ (.slice (some ⟨g5, 0, none⟩) ((lg i).length + 1) cp5)).heap.size ∧ ∀ b, b < w.heap.size → b ≠ i → (V i).ownBlock ≠ some b → (w3.setCell ⟨i, 0, none⟩ (.slice (some ⟨g5, 0, none⟩) ((lg i).length + 1) cp5)).heap[b]? = w.heap[b]?) := by
    refine ⟨⟨_, hlog, fun j g hg => ?_⟩, hfr⟩
    by_cases e : j = i
    · simp only [if_pos e] at hg
      rcases hat with hat | hat
      · rw [hat] at hg; rw [e]; exact .inl hg
      · rw [hat] at hg; cases hg; right; omega
    · simp only [if_neg e] at hg
      exact .inl hg
  have HS3 : Hid _ := hS3
  clear hlog hfr hg03 hat hg3 hown3 hown2 hg2 hnews hbn2 hbs2 hown hi3 hx3 hS3 hbx
  subst hw2
  subst hw1
  go_enter Yba.func70, Yba.ntmps70
  go_wp2
  refine wp_then (fun a0 a' w' => ∃ us : List Value, us.length = 10 ∧ a' = putAll a0 [4, 5, 6, 7, 8, 9, 10, 11, 12, 13] us ∧ w' = w3.setCell ⟨i, 0, none⟩ (.slice (some ⟨g5, 0, none⟩) ((lg i).length + 1) cp5)) ?_ ?_
  · intro a0 ha0
    have hsz : a0.tmps.size = 14 := by rw [ha0]; rfl
    have e0 : ∀ h : 0 < a0.tmps.size, a0.tmps[0]'h = .pointer (some ⟨i, 0, none⟩) := by rw [ha0]; intro h; rfl
    have e3 : ∀ h : 3 < a0.tmps.size, a0.tmps[3]'h = .pointer (some ⟨w.heap.size, 0, none⟩) := by rw [ha0]; intro h; rfl
    clear ha0
    go_light
    refine wp_region_T 10 (fun w' => w'.cell? ⟨i, 0, none⟩ = some (V i) ∧ w'.cell? ⟨w.heap.size, 0, none⟩ = some (.int .i32 typ) ∧ w'.cell? ⟨w.heap.size, 1, none⟩ = some (.int .i32 3) ∧ w'.cell? ⟨w.heap.size, 2, none⟩ = some (.string (path p)))  (by kernel_rfl) ⟨hc1, hb0, hb1, hb2⟩ (fun hS => ?_)
    refine wpAnyT_takeY (i := 0) (v := ?_) (by simp only [List.getElem?_toArray, List.getElem?_cons_zero]; rfl) (by decide +kernel) (by decide +kernel) (by decide +kernel) (by decide) (fun _ _ _ h => h) (Or.inl ⟨by rfl, ?_⟩) hS ?_
    rotate_left
    · intro w _
      go_simp
      try with_reducible rfl
    refine wpAnyT_takeY (i := 1) (v := ?_) (by simp only [List.getElem?_toArray, List.getElem?_cons_succ, List.getElem?_cons_zero]; rfl) (by decide +kernel) (by decide +kernel) (by decide +kernel) (by decide) (fun _ _ _ h => h) (Or.inl ⟨by rfl, ?_⟩) hS ?_
    rotate_left
    · intro w _
      go_simp
      try with_reducible rfl
    refine wpAnyT_takeY (i := 2) (v := ?_) (by simp only [List.getElem?_toArray, List.getElem?_cons_succ, List.getElem?_cons_zero]; rfl) (by decide +kernel) (by decide +kernel) (by decide +kernel) (by decide) (fun _ _ _ h => h) (Or.inl ⟨by rfl, ?_⟩) hS ?_
    rotate_left
    · intro w _
      go_simp
      try with_reducible rfl
    refine wpAnyT_takeY (i := 3) (v := ?_) (by simp only [List.getElem?_toArray, List.getElem?_cons_succ, List.getElem?_cons_zero]; rfl) (by decide +kernel) (by decide +kernel) (by decide +kernel) (by decide) (fun _ _ _ h => h) (Or.inl ⟨by rfl, ?_⟩) hS ?_
    rotate_left
    · intro w _
      go_simp
      try with_reducible rfl
    refine wpAnyT_take (i := 4) (v := ?_) (by simp only [List.getElem?_toArray, List.getElem?_cons_succ, List.getElem?_cons_zero]; rfl) (by decide +kernel) (by decide +kernel) (by decide +kernel) (by decide +kernel) (by decide) (by decide +kernel) (fun _ _ _ h => h) (Or.inl ⟨by rfl, ?_⟩) hS ?_
    rotate_left
    · intro w hSw
      obtain ⟨s1, s2, s3, s4⟩ := hSw
      go_simp
      try with_reducible rfl
    refine wpAnyT_take (i := 5) (v := ?_) (by simp only [List.getElem?_toArray, List.getElem?_cons_succ, List.getElem?_cons_zero]; rfl) (by decide +kernel) (by decide +kernel) (by decide +kernel) (by decide +kernel) (by decide) (by decide +kernel) (fun _ _ _ h => h) (Or.inl ⟨by rfl, ?_⟩) hS ?_
    rotate_left
    · intro w hSw
      obtain ⟨s1, s2, s3, s4⟩ := hSw
      go_simp
      try with_reducible rfl
    refine wpAnyT_only (i := 6) (by decide +kernel) (by simp only [List.getElem?_toArray, List.getElem?_cons_succ, List.getElem?_cons_zero]; rfl) rfl ?_
    go_simp
    refine wpAnyT_only (i := 7) (by decide +kernel) (by simp only [List.getElem?_toArray, List.getElem?_cons_succ, List.getElem?_cons_zero]; rfl) rfl ?_
    refine wp_append_run (.tmp 8) (.tmp 10) 29 rfl (v := V i) (xv := .slice (some ⟨w.heap.size + 1, 0, none⟩) 1 1) (by simp [Act.eval, hsz]) (by simp [Act.eval, hsz]) hrun ?_
    refine ⟨.inr HS3.out, ?_⟩
    obtain ⟨y1, y2, y3, y4⟩ := HS3.out
    clear hS hrun
    have hS : w3.cell? ⟨i, 0, none⟩ = some (V i) ∧ w3.cell? ⟨w.heap.size, 0, none⟩ = some (.int .i32 typ) ∧ w3.cell? ⟨w.heap.size, 1, none⟩ = some (.int .i32 3) ∧ w3.cell? ⟨w.heap.size, 2, none⟩ = some (.string (path p)) := HS3.out
    refine wpAnyT_takeY (i := 8) (v := ?_) (by simp only [List.getElem?_toArray, List.getElem?_cons_succ, List.getElem?_cons_zero]; rfl) (by decide +kernel) (by decide +kernel) (by decide +kernel) (by decide) (fun _ _ _ h => h) (Or.inl ⟨by rfl, ?_⟩) hS ?_
    rotate_left
    · intro w _
      go_simp
      try with_reducible rfl
    refine wpAnyT_takeY (i := 9) (v := ?_) (by simp only [List.getElem?_toArray, List.getElem?_cons_succ, List.getElem?_cons_zero]; rfl) (by decide +kernel) (by decide +kernel) (by decide +kernel) (by decide) (fun _ _ _ h => h) (Or.inl ⟨by rfl, ?_⟩) hS ?_
    rotate_left
    · intro w _
      go_simp
      try with_reducible rfl
    refine wpAnyT_only (i := 10) (by decide +kernel) (by simp only [List.getElem?_toArray, List.getElem?_cons_succ, List.getElem?_cons_zero]; rfl) rfl ?_
    go_simp
    refine wpAnyT_done (by decide +kernel) ?_ _
    exact ⟨[.pointer (some ⟨i, 0, none⟩), .pointer (some ⟨i, 0, none⟩), .pointer (some ⟨i, 0, none⟩), .pointer (some ⟨i, 0, none⟩), V i, .agg #[.int .i32 typ, .int .i32 3, .string (path p)], .slice (some ⟨w.heap.size + 1, 0, none⟩) 1 1, .slice (some ⟨g5, 0, none⟩) ((lg i).length + 1) cp5, .pointer (some ⟨i, 0, none⟩), .pointer (some ⟨i, 0, none⟩)], rfl, by simp only [putAll, Act.put], rfl⟩
  · rintro a0 a' w' ha0 ⟨us, hus, ha', hw'⟩
    obtain ⟨u0, u1, u2, u3, u4, u5, u6, u7, u8, u9, hus'⟩ := list10 hus
    rw [ha', ha0, hus', hw']
    clear ha' ha0 hw' hus hus' hrun
    simp only [putAll, Act.put, List.setIfInBounds_toArray, List.set_cons_succ, List.set_cons_zero]
    go_end0
    exact ⟨rfl, HE.out⟩
end Go.Proofs.Ybulkfbw.lawS0295AFires
