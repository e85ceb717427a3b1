/-
  LawS0295AFires: maps over numbered keys (a path by its index, a watcher by its block): what the operations do. By an AI agent.
-/
import Derived.Test.YbulkfbwRows
import Derived.Maps.RangeRun
import Derived.Maps.OwnSet
import Derived.LaidEql
import Derived.WalkKit
namespace Go.Proofs.Ybulkfbw.lawS0295AFires
open Go.ChangeShapes Go.WideShapes Go.RowKit
open Go.ChangeMaps (setBlock)
set_option linter.unusedVariables false
set_option linter.unusedSimpArgs false

structure Ent where
  k : Nat
  v : Value
  b : Nat
def ent (enc : Nat → Value) (e : Ent) : MapEntry := { key := enc e.k, val := e.v, born := e.b }
def mapObj (enc : Nat → Value) (L : List Ent) (c : Nat) : Obj := .map (L.map (ent enc)).toArray c
def look : List Ent → Nat → Nat → Option (Nat × Value)
  | [], _, _ => none
  | e :: es, k, i => if e.k = k then some (i, e.v) else look es k (i + 1)
def get : List Ent → Nat → Option Value
  | [], _ => none
  | e :: es, k => if e.k = k then some e.v else get es k
def del (L : List Ent) (k : Nat) : List Ent := L.filter (fun e => !(e.k == k))
structure WF (L : List Ent) (c : Nat) : Prop where
  keys : L.Pairwise (fun x y => x.k ≠ y.k)
  borns : L.Pairwise (fun x y => x.b ≠ y.b)
  lt : ∀ e ∈ L, e.b < c

/-- What is asked of a kind of keys: in a world where the keys are good, each may be a key, and a search finds by number. -/
structure KeyLaw (P : Program) (kt : TypeId) (enc : Nat → Value) (good : World → Nat → Prop) : Prop where
  check : ∀ (e : Bool) (w : World) (k : Nat), good w k → (Instr.checkKey e 10000 kt (enc k)).run P w = .ok () w
  find : ∀ (w : World) (k : Nat) (L : List Ent), good w k → (∀ e ∈ L, good w e.k) → (Instr.findKey kt (enc k) (L.map (ent enc))).run P w = .ok (look L k 0) w
  bits : ∀ k, Instr.sameBits 10000 (enc k) (enc k) = true

/-! ### paths -/
def path (i : Nat) : ByteArray := match i with
  | 0 => ⟨#[47, 97]⟩ | 1 => ⟨#[47, 97, 47, 98]⟩ | 2 => ⟨#[47, 98]⟩ | 3 => ⟨#[47, 97, 47, 98, 47, 99]⟩ | _ => ⟨#[47]⟩
def encP (i : Nat) : Value := .string (path i)
def goodP (_ : World) (i : Nat) : Prop := i < 5
theorem path_eq : ∀ i, i < 5 → ∀ j, j < 5 → (path i == path j) = decide (j = i) := by
  intro i hi j hj
  match i, hi, j, hj with
  | 0, _, 0, _ => rfl | 0, _, 1, _ => rfl | 0, _, 2, _ => rfl | 0, _, 3, _ => rfl | 0, _, 4, _ => rfl
  | 1, _, 0, _ => rfl | 1, _, 1, _ => rfl | 1, _, 2, _ => rfl | 1, _, 3, _ => rfl | 1, _, 4, _ => rfl
  | 2, _, 0, _ => rfl | 2, _, 1, _ => rfl | 2, _, 2, _ => rfl | 2, _, 3, _ => rfl | 2, _, 4, _ => rfl
  | 3, _, 0, _ => rfl | 3, _, 1, _ => rfl | 3, _, 2, _ => rfl | 3, _, 3, _ => rfl | 3, _, 4, _ => rfl
  | 4, _, 0, _ => rfl | 4, _, 1, _ => rfl | 4, _, 2, _ => rfl | 4, _, 3, _ => rfl | 4, _, 4, _ => rfl
theorem findNow_path (k : Nat) (hk : k < 5) : ∀ (L : List Ent) (i : Nat), (∀ e ∈ L, e.k < 5) → Instr.findNow .string (encP k) (L.map (ent encP)) i = some (look L k i)
  | [], i, _ => rfl
  | e :: es, i, h => by
    have he := h e (List.mem_cons_self ..)
    have ih := findNow_path k hk es (i + 1) (fun x hx => h x (List.mem_cons_of_mem _ hx))
    have hs : Instr.sameNow .string (encP k) (ent encP e).key = some (decide (e.k = k)) := by
      show some (path k == path e.k) = _
      rw [path_eq k hk e.k he]
    rw [List.map_cons, Instr.findNow, hs, look]
    by_cases hek : e.k = k
    · simp [hek, ent]
    · simp only [hek, decide_false, if_false]
      exact ih
theorem lawP : KeyLaw Yba.prog 9 encP goodP where
  check e w k hk := by
    show (Instr.checkKey e (9999 + 1) 9 (encP k)).run Yba.prog w = .ok () w
    rw [Instr.checkKey]
    simp [run_underlying Yba.underlying9, encP, Result.andThen]
  find w k L hk hL := by
    simp [Instr.findKey, run_underlying Yba.underlying9, findNow_path k hk L 0 hL, Result.andThen]
  bits k := by
    show (path k == path k) = true
    unfold path
    split <;> rfl

/-! ### watchers -/
def encW (b : Nat) : Value := .iface 28 (.pointer (some ⟨b, 0, none⟩))
def goodW (w : World) (b : Nat) : Prop := ∃ c t, w.heap[b]? = some (.cells c t (0, 0))
theorem info28 : ∃ i, Yba.prog.info? 28 = some i ∧ i.comparable = true := by
  have h : (Yba.prog.info? 28).map (·.comparable) = some true := by kernel_rfl
  obtain ⟨i, hi, hc⟩ := Option.map_eq_some_iff.1 h
  exact ⟨i, hi, hc⟩
theorem info31 : ∃ i, Yba.prog.info? 31 = some i ∧ i.size ≠ 0 := by
  have h : (Yba.prog.info? 31).map (·.size) = some 1 := by kernel_rfl
  obtain ⟨i, hi, hc⟩ := Option.map_eq_some_iff.1 h
  exact ⟨i, hi, by omega⟩
theorem run_equal_w (w : World) (a b : Nat) (ha : goodW w a) (hb : goodW w b) : (Op.equal 121 (encW a) (encW b)).run Yba.prog w = .ok (decide (b = a)) w := by
  obtain ⟨i, hi, hc⟩ := info28
  obtain ⟨j, hj, hs⟩ := info31
  show (Op.equalIn (9998 + 2) 121 (encW a) (encW b)).run Yba.prog w = _
  by_cases hab : b = a
  · subst hab
    rw [decide_eq_true rfl]
    exact run_equalIn_iface_ptr_same w 9998 ⟨b, 0, none⟩ Yba.underlying121 Yba.underlying28 hi hc hj
  · obtain ⟨ca, ta, ha⟩ := ha
    obtain ⟨cb, tb, hb⟩ := hb
    rw [decide_eq_false hab]
    exact run_equalIn_iface_ptr_other w 9998 Yba.underlying121 Yba.underlying28 hi hc hj hs (a := ⟨a, 0, none⟩) (b := ⟨b, 0, none⟩) (fun e => hab (by cases e; rfl)) ha hb
theorem run_findAsking_w (w : World) (k : Nat) (hk : goodW w k) : ∀ (L : List Ent) (i : Nat), (∀ e ∈ L, goodW w e.k) → (Instr.findAsking 121 (encW k) (L.map (ent encW)) i).run Yba.prog w = .ok (look L k i) w
  | [], i, _ => by simp [Instr.findAsking, look]
  | e :: es, i, h => by
    have he := h e (List.mem_cons_self ..)
    have ih := run_findAsking_w w k hk es (i + 1) (fun x hx => h x (List.mem_cons_of_mem _ hx))
    have hq := run_equal_w w k e.k hk he
    rw [List.map_cons, Instr.findAsking, look]
    show ((Op.equal 121 (encW k) (encW e.k) >>= fun b => if b = true then pure (some (i, e.v)) else Instr.findAsking 121 (encW k) (es.map (ent encW)) (i + 1)) : Sem _).run Yba.prog w = _
    rw [Sem.run_bind, hq]
    by_cases hek : e.k = k
    · simp [hek, Result.andThen]
    · simp only [hek, decide_false, Result.andThen, Bool.false_eq_true, if_false]
      exact ih
theorem lawW : KeyLaw Yba.prog 121 encW goodW where
  check e w k hk := by
    obtain ⟨i, hi, hc⟩ := info28
    show (Instr.checkKey e (9998 + 1 + 1) 121 (encW k)).run Yba.prog w = .ok () w
    rw [Instr.checkKey]
    simp [run_underlying Yba.underlying121, encW, Result.andThen, typeInfo, hi, hc]
    rw [Instr.checkKey]
    simp [run_underlying Yba.underlying28, Result.andThen]
  find w k L hk hL := by
    have hf := run_findAsking_w w k hk L 0 hL
    cases L with
    | nil => simp [Instr.findKey, run_underlying Yba.underlying121, Instr.findNow, look, Result.andThen]
    | cons e es =>
      have hn : Instr.findNow (.interface #[("Notify", 139)]) (encW k) ((e :: es).map (ent encW)) 0 = none := rfl
      simp only [Instr.findKey, Sem.run_bind, run_underlying Yba.underlying121, Result.andThen, hn]
      exact hf
  bits k := by simp [encW, Instr.sameBits]

/-! ### the plain laws of the lists -/
theorem look_get (k : Nat) : ∀ (L : List Ent) (i : Nat), (look L k i).map (·.2) = get L k
  | [], _ => rfl
  | e :: es, i => by
    rw [look, get]
    split
    · rfl
    · exact look_get k es (i + 1)
theorem look_none {k : Nat} : ∀ {L : List Ent} {i : Nat}, look L k i = none → ∀ e ∈ L, e.k ≠ k
  | [], _, _ => by simp
  | x :: xs, i, h => by
    rw [look] at h
    split at h
    · cases h
    · intro e he
      rcases List.mem_cons.1 he with rfl | he
      · assumption
      · exact look_none h e he
theorem look_some {k : Nat} : ∀ {L : List Ent} {i j : Nat} {v : Value}, look L k i = some (j, v) → i ≤ j ∧ ∃ e, L[j - i]? = some e ∧ e.k = k ∧ e.v = v
  | [], _, _, _, h => by cases h
  | x :: xs, i, j, v, h => by
    rw [look] at h
    split at h
    · rename_i hx
      simp only [Option.some.injEq, Prod.mk.injEq] at h
      obtain ⟨rfl, rfl⟩ := h
      exact ⟨Nat.le_refl _, x, by simp, hx, rfl⟩
    · obtain ⟨h1, e, h2, h3, h4⟩ := look_some h
      refine ⟨by omega, e, ?_, h3, h4⟩
      rw [show j - i = (j - (i + 1)) + 1 by omega, List.getElem?_cons_succ]
      exact h2
theorem get_eq_none {L : List Ent} {k : Nat} : get L k = none ↔ ∀ e ∈ L, e.k ≠ k := by
  induction L with
  | nil => simp [get]
  | cons x xs ih =>
    rw [get]
    split
    · rename_i h; simp [h]
    · rename_i h; simp [h, ih]
theorem get_of_mem {L : List Ent} (hk : L.Pairwise (fun x y => x.k ≠ y.k)) {e : Ent} (he : e ∈ L) : get L e.k = some e.v := by
  induction L with
  | nil => cases he
  | cons x xs ih =>
    obtain ⟨h1, h2⟩ := List.pairwise_cons.1 hk
    rw [get]
    rcases List.mem_cons.1 he with rfl | he'
    · simp
    · rw [if_neg (h1 e he')]
      exact ih h2 he'
theorem get_mem {L : List Ent} {k : Nat} {v : Value} (h : get L k = some v) : ∃ e ∈ L, e.k = k ∧ e.v = v := by
  induction L with
  | nil => cases h
  | cons x xs ih =>
    rw [get] at h
    split at h
    · rename_i hx
      exact ⟨x, List.mem_cons_self .., hx, by simpa using h⟩
    · obtain ⟨e, he, r⟩ := ih h
      exact ⟨e, List.mem_cons_of_mem _ he, r⟩
theorem get_append_new {L : List Ent} {k c : Nat} {v : Value} (h : get L k = none) (j : Nat) : get (L ++ [⟨k, v, c⟩]) j = if j = k then some v else get L j := by
  induction L with
  | nil => simp [get]; split <;> (rename_i h1; simp [h1, eq_comm]) <;> omega
  | cons x xs ih =>
    rw [get] at h
    split at h
    · cases h
    · rename_i hx
      rw [List.cons_append, get, ih h]
      by_cases hj : j = k
      · subst hj; simp [hx]
      · simp [hj, get]
theorem get_del (L : List Ent) (k j : Nat) : get (del L k) j = if j = k then none else get L j := by
  induction L with
  | nil => simp [del, get]
  | cons x xs ih =>
    have e : del (x :: xs) k = if x.k = k then del xs k else x :: del xs k := by
      unfold del
      rw [List.filter_cons]
      by_cases hx : x.k = k <;> simp [hx]
    rw [e]
    by_cases hx : x.k = k
    · rw [if_pos hx, ih, get]
      by_cases hj : j = k
      · simp [hj]
      · simp only [hj, if_false]
        rw [if_neg (fun e => hj (by omega))]
    · rw [if_neg hx, get, ih, get]
      by_cases hj : j = k
      · subst hj; simp [hx]
      · simp [hj]
theorem WF.new {L : List Ent} {c : Nat} (h : WF L c) {k : Nat} (hk : get L k = none) (v : Value) : WF (L ++ [⟨k, v, c⟩]) (c + 1) := by
  have hne := get_eq_none.1 hk
  refine ⟨List.pairwise_append.2 ⟨h.keys, by simp, fun x hx y hy => ?_⟩, List.pairwise_append.2 ⟨h.borns, by simp, fun x hx y hy => ?_⟩, fun e he => ?_⟩
  · simp at hy; subst hy; exact hne x hx
  · simp at hy; subst hy; exact Nat.ne_of_lt (h.lt x hx)
  · rcases List.mem_append.1 he with he | he
    · have := h.lt e he; omega
    · simp at he; subst he; show c < c + 1; omega
theorem WF.del {L : List Ent} {c : Nat} (h : WF L c) (k : Nat) : WF (del L k) c :=
  ⟨h.keys.filter _, h.borns.filter _, fun e he => h.lt e (List.mem_filter.1 he).1⟩
theorem WF.nil (c : Nat) : WF [] c := ⟨.nil, .nil, by simp⟩
theorem del_erase {k : Nat} : ∀ {L : List Ent} {i : Nat} {e : Ent}, L.Pairwise (fun x y => x.k ≠ y.k) → L[i]? = some e → e.k = k → L.eraseIdx i = del L k
  | [], i, e, _, h, _ => by simp at h
  | x :: xs, 0, e, hp, h, hk => by
    obtain ⟨h1, h2⟩ := List.pairwise_cons.1 hp
    simp at h
    subst h
    unfold del
    rw [List.filter_cons]
    simp only [hk, beq_self_eq_true, Bool.not_true, Bool.false_eq_true, if_false, List.eraseIdx_cons_zero]
    exact (List.filter_eq_self.2 (fun y hy => by simpa using fun e => h1 y hy (by omega))).symm
  | x :: xs, i + 1, e, hp, h, hk => by
    obtain ⟨h1, h2⟩ := List.pairwise_cons.1 hp
    rw [List.getElem?_cons_succ] at h
    have hx : x.k ≠ k := fun e' => h1 e (List.mem_of_getElem? h) (by omega)
    have ih := del_erase h2 h hk
    unfold del at ih ⊢
    rw [List.filter_cons, List.eraseIdx_cons_succ, ih]
    simp [hx]

/-! ### the operations -/
section
variable {P : Program} {kt : TypeId} {enc : Nat → Value} {good : World → Nat → Prop} {w : World} {b c k : Nat} {L : List Ent} {t e : TypeId}
theorem run_map_obj (hb : w.heap[b]? = some (mapObj enc L c)) : (getObj b).run P w = .ok (.map (L.map (ent enc)).toArray c) w := MapKept.run_getObj_map hb
theorem run_lookup_map (K : KeyLaw P kt enc good) (ht : P.underlying t = some (.map kt e)) (hb : w.heap[b]? = some (mapObj enc L c)) (hg : ∀ x ∈ L, good w x.k) (hk : good w k) {z : Value} (hz : (zeroValue e).run P w = .ok z w) :
    (Instr.lookup t (.map (some b)) (enc k) false).run P w = .ok ((get L k).getD z) w := by
  have hf := K.find w k L hk hg
  have hl := look_get k L 0
  simp only [Instr.lookup, Sem.run_bind, run_underlying ht, Result.andThen, run_map_obj hb]
  cases h : look L k 0 with
  | none => rw [h] at hl hf; simp at hl; simp [← hl, hz, Result.andThen, K.check _ w k hk, hf]
  | some p => rw [h] at hl hf; simp at hl; simp [← hl, Result.andThen, K.check _ w k hk, hf]
theorem run_lookup_ok (K : KeyLaw P kt enc good) (ht : P.underlying t = some (.map kt e)) (hb : w.heap[b]? = some (mapObj enc L c)) (hg : ∀ x ∈ L, good w x.k) (hk : good w k) {z : Value} (hz : (zeroValue e).run P w = .ok z w) :
    (Instr.lookup t (.map (some b)) (enc k) true).run P w = .ok (.tuple #[(get L k).getD z, .bool (get L k).isSome]) w := by
  have hf := K.find w k L hk hg
  have hl := look_get k L 0
  simp only [Instr.lookup, Sem.run_bind, run_underlying ht, Result.andThen, run_map_obj hb]
  cases h : look L k 0 with
  | none => rw [h] at hl hf; simp at hl; simp [← hl, hz, Result.andThen, K.check _ w k hk, hf]
  | some p => rw [h] at hl hf; simp at hl; simp [← hl, Result.andThen, K.check _ w k hk, hf]
theorem run_lookup_nil_ok (K : KeyLaw P kt enc good) (ht : P.underlying t = some (.map kt e)) (hk : good w k) {z : Value} (hz : (zeroValue e).run P w = .ok z w) :
    (Instr.lookup t (.map none) (enc k) true).run P w = .ok (.tuple #[z, .bool false]) w := by
  have hf := K.find w k [] hk (by simp)
  simp only [List.map_nil, look] at hf
  simp only [Instr.lookup, Sem.run_bind, run_underlying ht, Result.andThen, K.check _ w k hk]
  simp [K.check _ w k hk, hf, hz, Result.andThen]
theorem run_update_new (K : KeyLaw P kt enc good) (ht : P.underlying t = some (.map kt e)) (hb : w.heap[b]? = some (mapObj enc L c)) (hg : ∀ x ∈ L, good w x.k) (hk : good w k) (hn : get L k = none) (v : Value) :
    (Instr.mapUpdate t (.map (some b)) (enc k) v).run P w = .ok () (setBlock w b (mapObj enc (L ++ [⟨k, v, c⟩]) (c + 1))) := by
  have hf := K.find w k L hk hg
  have hl := look_get k L 0
  rw [hn] at hl
  have h0 : look L k 0 = none := by simpa using hl
  simp only [Instr.mapUpdate, Sem.run_bind, run_underlying ht, Result.andThen, run_map_obj hb, K.check _ w k hk, hf, h0, MapKept.run_setObj_map _ hb]
  simp [setBlock, mapObj, ent]
theorem run_update_same (K : KeyLaw P kt enc good) (ht : P.underlying t = some (.map kt e)) (hb : w.heap[b]? = some (mapObj enc L c)) (hg : ∀ x ∈ L, good w x.k) (hk : good w k) {v : Value} (hn : get L k = some v) :
    (Instr.mapUpdate t (.map (some b)) (enc k) v).run P w = .ok () (setBlock w b (mapObj enc L c)) := by
  have hf := K.find w k L hk hg
  have hl := look_get k L 0
  rw [hn] at hl
  obtain ⟨⟨j, v'⟩, h0, hv⟩ := Option.map_eq_some_iff.1 hl
  simp at hv
  subst hv
  obtain ⟨_, x, hx, hxk, hxv⟩ := look_some h0
  simp only [Nat.sub_zero] at hx
  have hkey : (((L.map (ent enc)).toArray[j]?).map (·.key)).getD (enc k) = enc k := by simp [hx, ent, hxk]
  have hmod : (L.map (ent enc)).toArray.modify j (fun e => { e with key := enc k, val := v' }) = (L.map (ent enc)).toArray := by
    apply Array.ext
    · simp
    · intro i h1 h2
      rw [Array.getElem_modify]
      split
      · rename_i hij
        subst hij
        have hj : j < L.length := (List.getElem?_eq_some_iff.1 hx).1
        have hxe : L[j] = x := (List.getElem?_eq_some_iff.1 hx).2
        simp [ent, hxe, hxk, hxv]
      · rfl
  simp only [Instr.mapUpdate, Sem.run_bind, run_underlying ht, Result.andThen, run_map_obj hb, K.check _ w k hk, hf, h0, hkey, Instr.keyThatStays, K.bits, if_true]
  simp [MapKept.run_setObj_map _ hb, hmod, setBlock, mapObj]
theorem run_delete_map (K : KeyLaw P kt enc good) (ht : P.underlying t = some (.map kt e)) (hb : w.heap[b]? = some (mapObj enc L c)) (hL : WF L c) (hg : ∀ x ∈ L, good w x.k) (hk : good w k) (ty : TypeId) :
    (Builtin.delete_ #[t, kt] ty #[.map (some b), enc k]).run P w = .ok (.tuple #[]) (setBlock w b (mapObj enc (del L k) c)) := by
  have hf := K.find w k L hk hg
  cases h : look L k 0 with
  | none =>
    have hd : del L k = L := List.filter_eq_self.2 (fun x hx => by simpa using look_none h x hx)
    simp [Builtin.delete_, Sem.run_bind, run_underlying ht, Result.andThen, run_map_obj hb, K.check _ w k hk, hf, h, MapKept.run_setObj_map _ hb, setBlock, mapObj, hd]
  | some p =>
    obtain ⟨j, v'⟩ := p
    obtain ⟨_, x, hx, hxk, hxv⟩ := look_some h
    simp only [Nat.sub_zero] at hx
    simp [Builtin.delete_, Sem.run_bind, run_underlying ht, Result.andThen, run_map_obj hb, K.check _ w k hk, hf, h, MapKept.run_setObj_map _ hb, setBlock, mapObj]
    rw [← ChangeMaps.map_eraseIdx, del_erase hL.keys hx hxk]
theorem run_len_map (ht : P.underlying t = some (.map kt e)) (hb : w.heap[b]? = some (mapObj enc L c)) (ty : TypeId) : (Builtin.len_ #[t] ty #[.map (some b)]).run P w = .ok (.int .i64 L.length) w := by
  simp [Builtin.len_, run_underlying ht, run_map_obj hb, goInt, Result.andThen]
end

theorem grown_setBlock {w : World} {b : Nat} {o o' : Obj} (hb : w.heap[b]? = some o) : w.grownBy (setBlock w b o') (some b) :=
  ⟨rfl, rfl, rfl, by simp [setBlock], fun i hi hne => by
    show (w.heap.setIfInBounds b o')[i]? = w.heap[i]?
    rw [Array.getElem?_setIfInBounds]
    rw [if_neg (fun e => hne (by rw [e]))]⟩
theorem heap_setBlock_at {w : World} {b : Nat} {o : Obj} (hb : w.heap[b]? = some o) (o' : Obj) : (setBlock w b o').heap[b]? = some o' := by
  have := (Array.getElem?_eq_some_iff.1 hb).1
  show (w.heap.setIfInBounds b o')[b]? = _
  rw [Array.getElem?_setIfInBounds]
  simp [this]
theorem heap_setBlock_ne {w : World} {b i : Nat} (h : i ≠ b) (o' : Obj) : (setBlock w b o').heap[i]? = w.heap[i]? := by
  show (w.heap.setIfInBounds b o')[i]? = w.heap[i]?
  rw [Array.getElem?_setIfInBounds, if_neg (fun e => h e.symm)]
theorem size_setBlock (w : World) (b : Nat) (o' : Obj) : (setBlock w b o').heap.size = w.heap.size := by simp [setBlock]

/-- A range's step over a map into which nothing was laid since the loop began. -/
theorem run_next_map {P : Program} {enc : Nat → Value} {w : World} {b c r since c0 : Nat} {seen : Array Nat} {L : List Ent} (hr : w.heap[r]? = some (.mapIter (some b) since seen c0)) (hb : w.heap[b]? = some (mapObj enc L c)) (hL : WF L c) (hold : ∀ e ∈ L, e.b < since) (h1 : since ≤ c0) (ty : TypeId) :
    ((∀ e ∈ L, seen.contains e.b = true) ∧ (Instr.next (.pointer (some ⟨r, 0, none⟩)) false ty).run P w = .ok (.tuple #[.bool false]) w) ∨
    ∃ e ∈ L, seen.contains e.b = false ∧ ∃ w', (Instr.next (.pointer (some ⟨r, 0, none⟩)) false ty).run P w = .ok (.tuple #[.bool true, enc e.k, e.v]) w' ∧
      w'.heap[r]? = some (.mapIter (some b) since (seen.push e.b) c) ∧ w.grownBy w' (some r) ∧ w'.heap.size = w.heap.size ∧ (Instr.entry (.pointer (some ⟨r, 0, none⟩))).run P w' = .ok (.tuple #[enc e.k, e.v]) w' := by
  have hbo : w.heap[b]? = some (.map (L.map (ent enc)).toArray c) := hb
  have hne : b ≠ r := by
    intro h
    rw [h, hr] at hbo
    cases hbo
  rcases run_next_at (P := P) w ty r b since c0 seen _ c hr hbo (by
    intro x hx
    obtain ⟨y, hy, rfl⟩ := List.mem_map.1 (by simpa using hx)
    exact hold y hy) h1 with ⟨h0, hrun⟩ | ⟨x, hx, w1, hw1, hrun⟩
  · left
    refine ⟨fun e he => ?_, hrun⟩
    cases hc : seen.contains e.b with
    | true => rfl
    | false =>
      have hm : ent enc e ∈ leftOf (L.map (ent enc)).toArray seen := by
        unfold leftOf
        rw [Array.mem_filter]
        exact ⟨by simpa using ⟨e, he, rfl⟩, by show (!seen.contains e.b) = true; rw [hc]; rfl⟩
      have := Array.size_pos_of_mem hm
      omega
  · right
    have hx' : x ∈ leftOf (L.map (ent enc)).toArray seen := by simpa using hx
    unfold leftOf at hx'
    rw [Array.mem_filter] at hx'
    obtain ⟨hx1, hx2⟩ := hx'
    obtain ⟨e, he, rfl⟩ : ∃ e ∈ L, ent enc e = x := by
      have h := hx1
      simp at h
      exact h
    have hsee : seen.contains e.b = false := by
      have h : (!seen.contains e.b) = true := hx2
      simpa using h
    have hr1 : w1.heap[r]? = some (.mapIter (some b) since seen c0) := by rcases hw1 with rfl | rfl <;> exact hr
    have hb1 : w1.heap[b]? = some (.map (L.map (ent enc)).toArray c) := by rcases hw1 with rfl | rfl <;> exact hbo
    have hg1 : w.grownBy w1 (some r) := by rcases hw1 with rfl | rfl <;> exact ⟨rfl, rfl, rfl, Nat.le_refl _, fun _ _ _ => rfl⟩
    have hs1 : w1.heap.size = w.heap.size := by rcases hw1 with rfl | rfl <;> rfl
    refine ⟨e, he, hsee, _, hrun, heap_setBlock_at hr1 _, ?_, ?_, ?_⟩
    · have h2 := grown_setBlock (o' := .mapIter (some b) since (seen.push (ent enc e).born) c) hr1
      exact ⟨h2.os.trans hg1.os, h2.tape.trans hg1.tape, h2.output.trans hg1.output, by rw [size_setBlock, hs1]; exact Nat.le_refl _, fun i hi hn => (h2.block i (by omega) hn).trans (hg1.block i hi hn)⟩
    · rw [size_setBlock, hs1]
    · refine run_entry_at _ r b since seen _ c (ent enc e) (heap_setBlock_at hr1 _) ((heap_setBlock_ne hne _).trans hb1) (by simpa using ⟨e, he, rfl⟩) ?_
      have h := hL.borns
      simp only [List.map_map]
      rw [List.nodup_iff_pairwise_ne, List.pairwise_map]
      exact h
theorem run_next_nil {P : Program} {w : World} {r since c0 : Nat} {seen : Array Nat} (hr : w.heap[r]? = some (.mapIter none since seen c0)) (ty : TypeId) : (Instr.next (.pointer (some ⟨r, 0, none⟩)) false ty).run P w = .ok (.tuple #[.bool false]) w := by
  simp [Instr.next, getObj, Sem.run_bind, Sem.run, hr, Result.andThen]
theorem run_range_nil {P : Program} (w : World) {t kt e : TypeId} (ht : P.underlying t = some (.map kt e)) : (Instr.range t (.map none)).run P w = .ok (.pointer (some ⟨w.heap.size, 0, none⟩)) (w.alloc (.mapIter none 0 #[] 0)) := by
  simp [Instr.range, run_underlying ht, Result.andThen]
theorem run_range_obj {P : Program} {enc : Nat → Value} {w : World} {b c : Nat} {L : List Ent} {t kt e : TypeId} (ht : P.underlying t = some (.map kt e)) (hb : w.heap[b]? = some (mapObj enc L c)) :
    (Instr.range t (.map (some b))).run P w = .ok (.pointer (some ⟨w.heap.size, 0, none⟩)) (w.alloc (.mapIter (some b) c #[] c)) := run_range_map w t kt e b _ c ht hb
end Go.Proofs.Ybulkfbw.lawS0295AFires
