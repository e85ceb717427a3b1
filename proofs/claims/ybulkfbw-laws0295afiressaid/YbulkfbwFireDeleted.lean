/-
  LawS0295AFires: the walk of deleted. By an AI agent.
-/
import Derived.Test.YbulkfbwFireFire
import Derived.Test.YbulkfbwFirePath
import Derived.Test.YbulkfbwLocks
namespace Go.Proofs.Ybulkfbw.lawS0295AFires
open Go.ChangeShapes Go.WideShapes Go.RowKit Go.MuLone
open Go.ChangeMaps (setBlock)
set_option linter.unusedVariables false
set_option linter.unusedSimpArgs false
variable {base : Nat} {w : World} {blk : Role → Option Nat} {L : Role → List Ent} {c : Role → Nat} {ws : List Nat} {B : Bool → Bool → Nat}

/-- The tree's block: the lock's word, and the two tables. -/
structure Tree (tb : Nat) (B : Bool → Bool → Nat) (n : Int) (w : World) : Prop where
  shape : ∃ cs, w.heap[tb]? = some (.cells cs 72 (0, 0)) ∧ cs[25]? = some (.int .i32 n) ∧ cs[27]? = some (.map (some (B false false))) ∧ cs[28]? = some (.map (some (B true false))) ∧ cs[29]? = some (.map (some (B false true))) ∧ cs[30]? = some (.map (some (B true true)))

def KT (o : Obj) : Prop := KL o ∨ ∃ cs f, o = .cells cs 72 f
theorem Fr.kt {w' : World} (h : Fr KL base w w') : Fr KT base w w' := ⟨h.os, h.tape, h.output, h.size, fun b o hb ho => h.block b o hb (ho.imp_right fun hk hk' => hk (.inl hk'))⟩
theorem Tree.kept {tb : Nat} {n : Int} {w' : World} (h : Tree tb B n w) (hf : Fr KL base w w') : Tree tb B n w' := by
  obtain ⟨cs, hcs, r⟩ := h.shape
  exact ⟨cs, hf.block _ _ hcs (.inr (by rintro (⟨_, _, e⟩ | ⟨_, _, e⟩ | ⟨_, _, e⟩) <;> simp at e)), r⟩
theorem Tree.set {tb : Nat} {n m : Int} {SS : Bool → Bool → Nat → Nat → Bool} {V : Nat → Value} {lg : Nat → List (Int × Nat)} (h : Tree tb B n w) (htb : base ≤ tb) (hs : St base ws B w SS blk L c) (hl : Logs base ws w V lg) {w' : World} (hw : w' = w.setCell ⟨tb, 25, none⟩ (.int .i32 m)) :
    Tree tb B m w' ∧ Fr KT base w w' ∧ St base ws B w' SS blk L c ∧ Logs base ws w' V lg := by
  obtain ⟨cs, hcs, c25, c27, c28, c29, c30⟩ := h.shape
  have hne : ∀ b, b ≠ tb → w'.heap[b]? = w.heap[b]? := fun b hb => by rw [hw]; exact Below.heap_setCell _ _ _ _ hb
  have hsz : w'.heap.size = w.heap.size := by rw [hw]; simp [World.setCell]
  have hat : w'.heap[tb]? = some (.cells (cs.setIfInBounds 25 (.int .i32 m)) 72 (0, 0)) := by
    rw [hw]
    simp [World.setCell, Array.getElem?_modify, hcs]
  have hlt : 25 < cs.size := (Array.getElem?_eq_some_iff.1 c25).1
  have hkeep : ∀ (b : Nat) (o : Obj), w.heap[b]? = some o → (∀ cs f, o ≠ .cells cs 72 f) → w'.heap[b]? = some o := fun b o hb ho => by
    rw [hne b (fun e => by rw [e, hcs] at hb; cases hb; exact ho _ _ rfl)]
    exact hb
  have hlog : Logs base ws w' V lg := by
    refine ⟨fun i hi => hkeep _ _ (hl.cell i hi) (by simp), hl.low, fun i hi => ?_, hl.apart⟩
    obtain ⟨h1, h2⟩ := hl.row i hi
    refine ⟨h1, ?_⟩
    rcases h2 with h2 | ⟨g, cap, cur, hv, hb, hg, r⟩
    · exact .inl h2
    · exact .inr ⟨g, cap, cur, hv, hb, hkeep _ _ hg (by simp), r⟩
  refine ⟨⟨_, hat, ?_, ?_, ?_, ?_, ?_⟩, ⟨by rw [hw]; rfl, by rw [hw]; rfl, by rw [hw]; rfl, by omega, fun b o hb ho => ?_⟩, hs.stand (fun b es n hb => hkeep _ _ hb (by simp)) (by omega) (fun i hi => ⟨_, _, hlog.cell i hi⟩), hlog⟩
  · rw [Array.getElem?_setIfInBounds]; simp [hlt]
  · rw [Array.getElem?_setIfInBounds]; simpa using c27
  · rw [Array.getElem?_setIfInBounds]; simpa using c28
  · rw [Array.getElem?_setIfInBounds]; simpa using c29
  · rw [Array.getElem?_setIfInBounds]; simpa using c30
  · rw [hne b (fun e => by
      rcases ho with ho | ho
      · omega
      · rw [e, hcs] at hb; cases hb; exact ho (.inr ⟨_, _, rfl⟩))]
    exact hb

section
variable {P : Program} {ops : Array Oper} {Q : Exit → Act → World → Prop} {md : Region.Mode} {S : World → Prop} {m : Nat}
/-- One of two may come up. -/
theorem wpAnyT_two {i j : Nat} {o o' : Oper} {fuel : Nat} {listed : Array Bool} {a : Act} {w : World} (hr : Region.ready md ops listed = [i, j]) (ho : ops[i]? = some o) (ho' : ops[j]? = some o') (hg : o.guard = none) (hg' : o'.guard = none)
    (h : Oper.wp P o a w (fun a' w' => ((listed.setIfInBounds i true).getD m false = true ∨ S w') ∧ wpAnyT P md ops Q S m fuel (listed.setIfInBounds i true) a' w') Q)
    (h' : Oper.wp P o' a w (fun a' w' => ((listed.setIfInBounds j true).getD m false = true ∨ S w') ∧ wpAnyT P md ops Q S m fuel (listed.setIfInBounds j true) a' w') Q) : wpAnyT P md ops Q S m (fuel + 1) listed a w := by
  refine ⟨fun h0 => (by rw [hr] at h0; cases h0), ?_⟩
  rw [hr]
  intro l hl
  have hw : ∀ {o : Oper}, o.guard = none → Region.wanted o (yielded ops a.tmps) = true := fun hg => by simp [Region.wanted, hg]
  simp at hl
  rcases hl with rfl | rfl
  · unfold wpOp
    simp only [ho]
    rw [if_pos (hw hg)]
    exact .inl h
  · unfold wpOp
    simp only [ho']
    rw [if_pos (hw hg')]
    exact .inl h'
end

/-- What stands behind a fire: all but the logs and the maps is kept. -/
structure Mid (base : Nat) (ws : List Nat) (B : Bool → Bool → Nat) (w : World) (tb : Nat) (S : Bool → Nat → Nat → Bool) (lg : Nat → List (Int × Nat)) (w' : World) : Prop where
  fr : Fr KT base w w'
  tree : Tree tb B 1 w'
  st : ∃ blk L c V, St base ws B w' (mk S) blk L c ∧ Logs base ws w' V lg

theorem Mid.cells {tb : Nat} {S : Bool → Nat → Nat → Bool} {lg : Nat → List (Int × Nat)} {w' : World} (h : Mid base ws B w tb S lg w') :
    w'.cell? ⟨tb, 27, none⟩ = some (.map (some (B false false))) ∧ w'.cell? ⟨tb, 28, none⟩ = some (.map (some (B true false))) ∧ w'.cell? ⟨tb, 29, none⟩ = some (.map (some (B false true))) ∧ w'.cell? ⟨tb, 30, none⟩ = some (.map (some (B true true))) := by
  obtain ⟨cs, hcs, c25, c27, c28, c29, c30⟩ := h.tree.shape
  simp [World.cell?, hcs, c27, c28, c29, c30]
theorem Mid.lt {tb : Nat} {S : Bool → Nat → Nat → Bool} {lg : Nat → List (Int × Nat)} {w' : World} (h : Mid base ws B w tb S lg w') : tb < w'.heap.size := by
  obtain ⟨cs, hcs, _⟩ := h.tree.shape
  exact (Array.getElem?_eq_some_iff.1 hcs).1
/-- A fire over the tables ts, of which a slice has just been laid. -/
theorem Mid.fire {tb : Nat} {S : Bool → Nat → Nat → Bool} {lg : Nat → List (Int × Nat)} {w1 : World} (h : Mid base ws B w tb S lg w1) (hlg : ∀ i, (lg i).length ≤ 1) {k : Nat} (hk : k < 5) (typ : Int) (ts : List Bool) (hts : ts.length ≤ 2) {cs : Array Value}
    (hcs : ∀ (j : Nat) (t : Bool), ts[j]? = some t → cs[j * 2]? = some (.map (some (B false t))) ∧ cs[j * 2 + 1]? = some (.map (some (B true t)))) {n : Nat} (hn : n = ts.length) :
    Calls Yba.prog 23 #[.int .i32 typ, .string (path k), .slice (some ⟨w1.heap.size, 0, none⟩) n n] (w1.alloc (.cells cs 70)).drew fun e w' => e = .returned (.tuple #[]) ∧
      Mid base ws B w tb (clearTs S ts k) (fun i => if ts.any (fun t => S t i k) then lg i ++ [(typ, k)] else lg i) w' := by
  obtain ⟨blk, L, c, V, hst, hlog⟩ := h.st
  have hm : Fm base w1 (w1.alloc (.cells cs 70)).drew := (Fm.alloc _ _).trans (Fm.drew _)
  subst hn
  refine (fire_any (hst.alloc _).drew (hlog.fm hm) hlg hk typ ts hts w1.heap.size cs (heap_alloc_new w1 _) hcs).mono ?_
  rintro e w' ⟨rfl, hfr, blk', L', c', V', hst', hlog'⟩
  have hfr' := hm.fr.trans hfr
  exact ⟨rfl, h.fr.trans hfr'.kt, h.tree.kept hfr', blk', L', c', V', hst', hlog'⟩
def lgD (S : Bool → Nat → Nat → Bool) (k : Nat) (i : Nat) : List (Int × Nat) := (if S false i k || S true i k then [(2, k)] else []) ++ (if S true i (par k) then [(4, par k)] else [])
theorem list11 {us : List Value} (h : us.length = 11) : ∃ u0 u1 u2 u3 u4 u5 u6 u7 u8 u9 u10, us = [u0, u1, u2, u3, u4, u5, u6, u7, u8, u9, u10] := by
  match us, h with
  | [u0, u1, u2, u3, u4, u5, u6, u7, u8, u9, u10], _ => exact ⟨u0, u1, u2, u3, u4, u5, u6, u7, u8, u9, u10, rfl⟩
theorem list8 {us : List Value} (h : us.length = 8) : ∃ u0 u1 u2 u3 u4 u5 u6 u7, us = [u0, u1, u2, u3, u4, u5, u6, u7] := by
  match us, h with
  | [u0, u1, u2, u3, u4, u5, u6, u7], _ => exact ⟨u0, u1, u2, u3, u4, u5, u6, u7, rfl⟩
theorem par_lt (k : Nat) : par k < 5 := by unfold par; split <;> omega
theorem par_ne {k : Nat} (hk : k < 4) : par k ≠ k := by
  match k, hk with
  | 0, _ => decide
  | 1, _ => decide
  | 2, _ => decide
  | 3, _ => decide
theorem lgD_eq (S : Bool → Nat → Nat → Bool) {k : Nat} (hk : k < 4) : (fun i => if [true].any (fun t => clearTs S [false, true] k t i (par k)) then (if [false, true].any (fun t => S t i k) then [] ++ [((2 : Int), k)] else []) ++ [((4 : Int), par k)] else (if [false, true].any (fun t => S t i k) then [] ++ [((2 : Int), k)] else [])) = lgD S k := by
  funext i
  have hp := par_ne hk
  simp only [List.any_cons, List.any_nil, Bool.or_false, clearTs, hp, and_false, if_false, lgD, List.nil_append]
  cases S true i (par k) <;> simp

set_option maxHeartbeats 2000000 in
set_option maxRecDepth 100000 in
theorem deleted_any {S : Bool → Nat → Nat → Bool} {V : Nat → Value} {tb : Nat} (h : St base ws B w (mk S) blk L c) (hl : Logs base ws w V (fun _ => [])) (ht : Tree tb B 0 w) (htb : base ≤ tb) {k : Nat} (hk : k < 4) :
    Calls Yba.prog 12 #[.pointer (some ⟨tb, 0, none⟩), .string (path k)] w fun e w' => e = .returned (.tuple #[]) ∧ Fr KT base w w' ∧ Tree tb B 0 w' ∧
      ∃ blk' L' c' V', St base ws B w' (mk (clearTs (clearTs S [false, true] k) [true] (par k))) blk' L' c' ∧ Logs base ws w' V' (lgD S k) := by
  obtain ⟨cs, hcs, c25, c27, c28, c29, c30⟩ := ht.shape
  have k25 : w.cell? ⟨tb, 25, none⟩ = some (.int .i32 0) := by simp [World.cell?, hcs, c25]
  have f25 : w.frozen? ⟨tb, 25, none⟩ = false := by simp [World.frozen?, hcs]
  obtain ⟨w1, hw1⟩ : ∃ x, x = w.setCell ⟨tb, 25, none⟩ (.int .i32 1) := ⟨_, rfl⟩
  obtain ⟨ht1, hf1, hs1, hl1⟩ := ht.set htb h hl hw1
  have HM : Hid (Mid base ws B w tb S (fun _ => []) w1) := ⟨hf1, ht1, _, _, _, _, hs1, hl1⟩
  clear ht1 hf1 hs1 hl1 hcs c25 c27 c28 c29 c30 cs h hl ht
  have hpo := fun w => parentOf_any k hk w
  have HPO : Hid _ := hpo
  clear hpo
  go_enter_defers Yba.func12, Yba.ntmps12
  go_wp2_with (go_at_call 21; refine (lock_free lockLib ⟨tb, 25, none⟩ _ k25 f25).mono ?_; rintro e w' ⟨rfl, rfl⟩)
  rw [← hw1]
  clear hw1 k25 f25
  obtain ⟨x27, x28, x29, x30⟩ := HM.out.cells
  have hlt1 := HM.out.lt
  obtain ⟨M1, hM1⟩ : ∃ M : World → Prop, Hid (∀ w', M w' ↔ Mid base ws B w tb (clearTs S [false, true] k) (fun i => if [false, true].any (fun t => S t i k) then [] ++ [(2, k)] else []) w') := ⟨_, fun _ => Iff.rfl⟩
  refine wp_then (fun a0 a' w' => ∃ us : List Value, us.length = 11 ∧ a' = putAll a0 [11, 12, 13, 14, 15, 16, 17, 18, 19, 20, 21] us ∧ M1 w') ?_ ?_
  · intro a0 ha0
    have hsz : a0.tmps.size = 30 := by rw [ha0]; rfl
    have e0 : ∀ h : 0 < a0.tmps.size, a0.tmps[0]'h = .pointer (some ⟨tb, 0, none⟩) := by rw [ha0]; intro h; rfl
    have e1 : ∀ h : 1 < a0.tmps.size, a0.tmps[1]'h = .string (path k) := by rw [ha0]; intro h; rfl
    clear ha0
    go_light
    refine wp_region_T 9 (fun w' => w'.cell? ⟨tb, 27, none⟩ = some (.map (some (B false false))) ∧ w'.cell? ⟨tb, 28, none⟩ = some (.map (some (B true false))) ∧ w'.cell? ⟨tb, 29, none⟩ = some (.map (some (B false true))) ∧ w'.cell? ⟨tb, 30, none⟩ = some (.map (some (B true true)))) (by kernel_rfl) ⟨x27, x28, x29, x30⟩ (fun hS => ?_)
    refine wpAnyT_takeY (i := 0) (v := ?_) (by simp only [List.getElem?_toArray, List.getElem?_cons_zero]; rfl) (by decide +kernel) (by decide +kernel) (by decide +kernel) (by decide) (fun _ _ _ h => h) (Or.inl ⟨by rfl, ?_⟩) hS ?_
    rotate_left
    · intro w _
      go_simp
      try with_reducible rfl
    refine wpAnyT_takeY (i := 1) (v := ?_) (by simp only [List.getElem?_toArray, List.getElem?_cons_succ, List.getElem?_cons_zero]; rfl) (by decide +kernel) (by decide +kernel) (by decide +kernel) (by decide) (fun _ _ _ h => h) (Or.inl ⟨by rfl, ?_⟩) hS ?_
    rotate_left
    · intro w _
      go_simp
      try with_reducible rfl
    refine wpAnyT_takeY (i := 2) (v := ?_) (by simp only [List.getElem?_toArray, List.getElem?_cons_succ, List.getElem?_cons_zero]; rfl) (by decide +kernel) (by decide +kernel) (by decide +kernel) (by decide) (fun _ _ _ h => h) (Or.inl ⟨by rfl, ?_⟩) hS ?_
    rotate_left
    · intro w _
      go_simp
      try with_reducible rfl
    refine wpAnyT_takeY (i := 3) (v := ?_) (by simp only [List.getElem?_toArray, List.getElem?_cons_succ, List.getElem?_cons_zero]; rfl) (by decide +kernel) (by decide +kernel) (by decide +kernel) (by decide) (fun _ _ _ h => h) (Or.inl ⟨by rfl, ?_⟩) hS ?_
    rotate_left
    · intro w _
      go_simp
      try with_reducible rfl
    refine wpAnyT_take (i := 4) (v := ?_) (by simp only [List.getElem?_toArray, List.getElem?_cons_succ, List.getElem?_cons_zero]; rfl) (by decide +kernel) (by decide +kernel) (by decide +kernel) (by decide +kernel) (by decide) (by decide +kernel) (fun _ _ _ h => h) (Or.inl ⟨by rfl, ?_⟩) hS ?_
    rotate_left
    · intro w hSw
      obtain ⟨s1, s2, s3, s4⟩ := hSw
      go_simp
      try with_reducible rfl
    refine wpAnyT_takeY (i := 5) (v := ?_) (by simp only [List.getElem?_toArray, List.getElem?_cons_succ, List.getElem?_cons_zero]; rfl) (by decide +kernel) (by decide +kernel) (by decide +kernel) (by decide) (fun _ _ _ h => h) (Or.inl ⟨by rfl, ?_⟩) hS ?_
    rotate_left
    · intro w _
      go_simp
      try with_reducible rfl
    refine wpAnyT_takeY (i := 6) (v := ?_) (by simp only [List.getElem?_toArray, List.getElem?_cons_succ, List.getElem?_cons_zero]; rfl) (by decide +kernel) (by decide +kernel) (by decide +kernel) (by decide) (fun _ _ _ h => h) (Or.inl ⟨by rfl, ?_⟩) hS ?_
    rotate_left
    · intro w _
      go_simp
      try with_reducible rfl
    refine wpAnyT_takeY (i := 7) (v := ?_) (by simp only [List.getElem?_toArray, List.getElem?_cons_succ, List.getElem?_cons_zero]; rfl) (by decide +kernel) (by decide +kernel) (by decide +kernel) (by decide) (fun _ _ _ h => h) (Or.inl ⟨by rfl, ?_⟩) hS ?_
    rotate_left
    · intro w _
      go_simp
      try with_reducible rfl
    refine wpAnyT_take (i := 8) (v := ?_) (by simp only [List.getElem?_toArray, List.getElem?_cons_succ, List.getElem?_cons_zero]; rfl) (by decide +kernel) (by decide +kernel) (by decide +kernel) (by decide +kernel) (by decide) (by decide +kernel) (fun _ _ _ h => h) (Or.inl ⟨by rfl, ?_⟩) hS ?_
    rotate_left
    · intro w hSw
      obtain ⟨s1, s2, s3, s4⟩ := hSw
      go_simp
      try with_reducible rfl
    refine wpAnyT_only (i := 9) (by decide +kernel) (by simp only [List.getElem?_toArray, List.getElem?_cons_succ, List.getElem?_cons_zero]; rfl) rfl ?_
    go_simp
    refine wpAnyT_only (i := 10) (by decide +kernel) (by simp only [List.getElem?_toArray, List.getElem?_cons_succ, List.getElem?_cons_zero]; rfl) rfl ?_
    go_simp
    refine (HM.out.fire (fun _ => by simp) (show k < 5 by omega) 2 [false, true] (by simp) ?_ rfl).mono ?_
    · intro j t hj
      match j, hj with
      | 0, hj => simp at hj; subst hj; exact ⟨rfl, rfl⟩
      | 1, hj => simp at hj; subst hj; exact ⟨rfl, rfl⟩
      | j + 2, hj => simp at hj
    rintro e w' ⟨rfl, hM⟩
    have hM' := (hM1.out w').2 hM
    refine wpAnyT_done (by decide +kernel) ?_ _
    exact ⟨[.string (path k), .pointer (some ⟨tb, 0, none⟩), .pointer (some ⟨tb, 0, none⟩), .pointer (some ⟨tb, 27, none⟩), .agg #[.map (some (B false false)), .map (some (B true false))], .pointer (some ⟨tb, 0, none⟩), .pointer (some ⟨tb, 0, none⟩), .pointer (some ⟨tb, 29, none⟩), .agg #[.map (some (B false true)), .map (some (B true true))], .slice (some ⟨w1.heap.size, 0, none⟩) 2 2, .tuple #[]], rfl, by simp only [putAll, Act.put], hM'⟩
  · rintro a0 a' w2 ha0 ⟨us, hus, ha', hm2⟩
    obtain ⟨u0, u1, u2, u3, u4, u5, u6, u7, u8, u9, u10, hus'⟩ := list11 hus
    rw [ha', ha0, hus']
    have HM2 : Hid _ := (hM1.out w2).1 hm2
    clear ha' ha0 hus hus' hm2 hM1 M1 HM x27 x28 x29 x30 hlt1
    simp only [putAll, Act.put, List.setIfInBounds_toArray, List.set_cons_succ, List.set_cons_zero]
    obtain ⟨x27, x28, x29, x30⟩ := HM2.out.cells
    have hlt1 := HM2.out.lt
    go_wp2
    obtain ⟨M1, hM1⟩ : ∃ M : World → Prop, Hid (∀ w', M w' ↔ Mid base ws B w tb (clearTs (clearTs S [false, true] k) [true] (par k)) (lgD S k) w') := ⟨_, fun _ => Iff.rfl⟩
    refine wp_then (fun a0 a' w' => ∃ us : List Value, us.length = 8 ∧ a' = putAll a0 [22, 24, 25, 26, 27, 23, 28, 29] us ∧ M1 w') ?_ ?_
    · intro a0 ha0
      have hsz : a0.tmps.size = 30 := by rw [ha0]; rfl
      have e0 : ∀ h : 0 < a0.tmps.size, a0.tmps[0]'h = .pointer (some ⟨tb, 0, none⟩) := by rw [ha0]; intro h; rfl
      have e1 : ∀ h : 1 < a0.tmps.size, a0.tmps[1]'h = .string (path k) := by rw [ha0]; intro h; rfl
      clear ha0
      go_light
      have hfire := HM2.out.fire (fun i => by split <;> simp) (par_lt k) 4 [true] (by simp) (cs := #[.map (some (B false true)), .map (some (B true true))]) (n := 1) (by
        intro j t hj
        match j, hj with
        | 0, hj => simp at hj; subst hj; exact ⟨rfl, rfl⟩
        | j + 1, hj => simp at hj) rfl
      rw [lgD_eq S hk] at hfire
      have HF : Hid _ := hfire
      clear hfire
      refine wp_region_T 6 (fun w' => w'.cell? ⟨tb, 29, none⟩ = some (.map (some (B false true))) ∧ w'.cell? ⟨tb, 30, none⟩ = some (.map (some (B true true)))) (by kernel_rfl) ⟨x29, x30⟩ (fun hS => ?_)
      refine wpAnyT_takeY (i := 0) (v := ?_) (by simp only [List.getElem?_toArray, List.getElem?_cons_zero]; rfl) (by decide +kernel) (by decide +kernel) (by decide +kernel) (by decide) (fun _ _ _ h => h) (Or.inl ⟨by rfl, ?_⟩) hS ?_
      rotate_left
      · intro w _
        go_simp
        try with_reducible rfl
      refine wpAnyT_takeY (i := 2) (v := ?_) (by simp only [List.getElem?_toArray, List.getElem?_cons_succ, List.getElem?_cons_zero]; rfl) (by decide +kernel) (by decide +kernel) (by decide +kernel) (by decide) (fun _ _ _ h => h) (Or.inl ⟨by rfl, ?_⟩) hS ?_
      rotate_left
      · intro w _
        go_simp
        try with_reducible rfl
      refine wpAnyT_takeY (i := 3) (v := ?_) (by simp only [List.getElem?_toArray, List.getElem?_cons_succ, List.getElem?_cons_zero]; rfl) (by decide +kernel) (by decide +kernel) (by decide +kernel) (by decide) (fun _ _ _ h => h) (Or.inl ⟨by rfl, ?_⟩) hS ?_
      rotate_left
      · intro w _
        go_simp
        try with_reducible rfl
      refine wpAnyT_takeY (i := 4) (v := ?_) (by simp only [List.getElem?_toArray, List.getElem?_cons_succ, List.getElem?_cons_zero]; rfl) (by decide +kernel) (by decide +kernel) (by decide +kernel) (by decide) (fun _ _ _ h => h) (Or.inl ⟨by rfl, ?_⟩) hS ?_
      rotate_left
      · intro w _
        go_simp
        try with_reducible rfl
      refine wpAnyT_take (i := 5) (v := ?_) (by simp only [List.getElem?_toArray, List.getElem?_cons_succ, List.getElem?_cons_zero]; rfl) (by decide +kernel) (by decide +kernel) (by decide +kernel) (by decide +kernel) (by decide) (by decide +kernel) (fun _ _ _ h => h) (Or.inl ⟨by rfl, ?_⟩) hS ?_
      rotate_left
      · intro w hSw
        obtain ⟨s1, s2⟩ := hSw
        go_simp
        try with_reducible rfl
      refine wpAnyT_two (i := 1) (j := 6) (by decide +kernel) (by simp only [List.getElem?_toArray, List.getElem?_cons_succ, List.getElem?_cons_zero]; rfl) (by simp only [List.getElem?_toArray, List.getElem?_cons_succ, List.getElem?_cons_zero]; rfl) rfl rfl ?_ ?_
      · go_simp
        refine (HPO.out _).mono ?_
        rintro e w' ⟨rfl, rfl⟩
        refine ⟨hS, ?_⟩
        refine wpAnyT_only (i := 6) (by decide +kernel) (by simp only [List.getElem?_toArray, List.getElem?_cons_succ, List.getElem?_cons_zero]; rfl) rfl ?_
        go_simp
        refine wpAnyT_only (i := 7) (by decide +kernel) (by simp only [List.getElem?_toArray, List.getElem?_cons_succ, List.getElem?_cons_zero]; rfl) rfl ?_
        go_simp
        refine Calls.mono HF.out ?_
        rintro e w' ⟨rfl, hM⟩
        have hM' := (hM1.out w').2 hM
        refine wpAnyT_done (by decide +kernel) ?_ _
        exact ⟨[.string (path k), .pointer (some ⟨tb, 0, none⟩), .pointer (some ⟨tb, 0, none⟩), .pointer (some ⟨tb, 29, none⟩), .agg #[.map (some (B false true)), .map (some (B true true))], .string (path (par k)), .slice (some ⟨w2.heap.size, 0, none⟩) 1 1, .tuple #[]], rfl, by simp only [putAll, Act.put], hM'⟩
      · go_simp
        refine wpAnyT_only (i := 1) (by decide +kernel) (by simp only [List.getElem?_toArray, List.getElem?_cons_succ, List.getElem?_cons_zero]; rfl) rfl ?_
        go_simp
        refine (HPO.out _).mono ?_
        rintro e w' ⟨rfl, rfl⟩
        refine wpAnyT_only (i := 7) (by decide +kernel) (by simp only [List.getElem?_toArray, List.getElem?_cons_succ, List.getElem?_cons_zero]; rfl) rfl ?_
        go_simp
        refine Calls.mono HF.out ?_
        rintro e w' ⟨rfl, hM⟩
        have hM' := (hM1.out w').2 hM
        refine wpAnyT_done (by decide +kernel) ?_ _
        exact ⟨[.string (path k), .pointer (some ⟨tb, 0, none⟩), .pointer (some ⟨tb, 0, none⟩), .pointer (some ⟨tb, 29, none⟩), .agg #[.map (some (B false true)), .map (some (B true true))], .string (path (par k)), .slice (some ⟨w2.heap.size, 0, none⟩) 1 1, .tuple #[]], rfl, by simp only [putAll, Act.put]; rw [Array.setIfInBounds_comm (i := 28) (j := 23) _ _ (by decide)], hM'⟩
    · rintro a0 a' w3 ha0 ⟨us, hus, ha', hm3⟩
      obtain ⟨u0', u1', u2', u3', u4', u5', u6', u7', hus'⟩ := list8 hus
      rw [ha', ha0, hus']
      have HM3 : Hid _ := (hM1.out w3).1 hm3
      clear ha' ha0 hus hus' hm3 hM1 M1 HM2 x27 x28 x29 x30 hlt1 HPO
      simp only [putAll, Act.put, List.setIfInBounds_toArray, List.set_cons_succ, List.set_cons_zero]
      go_wp2
      obtain ⟨blk', L', c', V', hst, hlog⟩ := HM3.out.st
      obtain ⟨cs, hcs, c25, _⟩ := HM3.out.tree.shape
      have k25 : w3.cell? ⟨tb, 25, none⟩ = some (.int .i32 1) := by simp [World.cell?, hcs, c25]
      have f25 : w3.frozen? ⟨tb, 25, none⟩ = false := by simp [World.frozen?, hcs]
      obtain ⟨ht4, hf4, hs4, hl4⟩ := HM3.out.tree.set htb hst hlog (m := 0) rfl
      refine leaves_cons (f := 22) (args := #[.pointer (some ⟨tb, 25, none⟩)]) (by simp) (by simp [go_sem]) ?_
      refine (unlock_deferred lockLib ⟨tb, 25, none⟩ .returning _ k25 f25).mono ?_
      rintro e u' w'' ⟨rfl, rfl, rfl⟩
      exact ⟨_, results_none rfl _ _ _, rfl, HM3.out.fr.trans hf4, ht4, blk', L', c', V', hs4, hl4⟩
end Go.Proofs.Ybulkfbw.lawS0295AFires
