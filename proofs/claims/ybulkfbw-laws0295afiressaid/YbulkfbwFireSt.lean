/-
  LawS0295AFires: the two watch tables as a family of maps, and what the operations do to it. By an AI agent.
-/
import Derived.Test.YbulkfbwFireMaps
import Derived.Below
namespace Go.Proofs.Ybulkfbw.lawS0295AFires
open Go.ChangeShapes Go.WideShapes Go.RowKit
open Go.ChangeMaps (setBlock)
set_option linter.unusedVariables false
set_option linter.unusedSimpArgs false

/-- The map blocks: the outer map of side s (false: by path; true: by watcher) of table t (false: data; true: child); the inner maps; the set that 'fire' gathers. -/
inductive Role where
  | o (s t : Bool)
  | i (s t : Bool) (k : Nat)
  | x
  deriving DecidableEq
def encK : Bool → Nat → Value
  | false => encP
  | true => encW
def encR : Role → Nat → Value
  | .o s _ => encK s
  | .i s _ _ => encK (!s)
  | .x => encW
def unit : Value := .agg #[]
def gk (ws : List Nat) : Bool → Nat → Prop
  | false, k => k < 5
  | true, k => k ∈ ws
def gw : Bool → World → Nat → Prop
  | false => goodP
  | true => goodW
def kt : Bool → TypeId
  | false => 9
  | true => 121
def tO : Bool → TypeId
  | false => 67
  | true => 68
def tI : Bool → TypeId
  | false => 80
  | true => 79
theorem lawK : ∀ s, KeyLaw Yba.prog (kt s) (encK s) (gw s)
  | false => lawP
  | true => lawW
theorem undO : ∀ s, Yba.prog.underlying (tO s) = some (.map (kt s) (tI s))
  | false => Yba.underlying67
  | true => Yba.underlying68
theorem undI : ∀ s, Yba.prog.underlying (tI s) = some (.map (kt (!s)) 35)
  | false => Yba.underlying80
  | true => Yba.underlying79
theorem zeroI (s : Bool) (w : World) : (zeroValue (tI s)).run Yba.prog w = .ok (.map none) w := by
  cases s <;> kernel_rfl
theorem zeroU (w : World) : (zeroValue 35).run Yba.prog w = .ok unit w := by kernel_rfl

def upd {α : Type} (f : Role → α) (r : Role) (a : α) : Role → α := fun r' => if r' = r then a else f r'
theorem upd_same {α : Type} (f : Role → α) (r : Role) (a : α) : upd f r a r = a := by simp [upd]
theorem upd_other {α : Type} (f : Role → α) {r r' : Role} (h : r' ≠ r) (a : α) : upd f r a r' = f r' := by simp [upd, h]

/-- A family of maps in memory. -/
structure Fam (base : Nat) (w : World) (blk : Role → Option Nat) (L : Role → List Ent) (c : Role → Nat) : Prop where
  inj : ∀ r r' b, blk r = some b → blk r' = some b → r = r'
  low : ∀ r b, blk r = some b → base ≤ b
  hold : ∀ r b, blk r = some b → w.heap[b]? = some (mapObj (encR r) (L r) (c r)) ∧ WF (L r) (c r)

/-- What is kept: all that lies below 'base', and every block that is no map. -/
structure Fm (base : Nat) (w w' : World) : Prop where
  os : w'.os = w.os
  tape : w'.tape = w.tape
  output : w'.output = w.output
  size : w.heap.size ≤ w'.heap.size
  block : ∀ b o, w.heap[b]? = some o → (b < base ∨ ∀ es n, o ≠ .map es n) → w'.heap[b]? = some o
theorem Fm.refl (base : Nat) (w : World) : Fm base w w := ⟨rfl, rfl, rfl, Nat.le_refl _, fun _ _ h _ => h⟩
theorem Fm.trans {base : Nat} {a b c : World} (h : Fm base a b) (k : Fm base b c) : Fm base a c :=
  ⟨k.os.trans h.os, k.tape.trans h.tape, k.output.trans h.output, Nat.le_trans h.size k.size, fun i o hi ho => k.block i o (h.block i o hi ho) ho⟩
theorem Fm.below {base : Nat} {w w' : World} (h : Fm base w w') (hb : base ≤ w.heap.size) : Below base w w' :=
  ⟨h.os, h.tape, h.output, h.size, fun i hi => by
    have hl : i < w.heap.size := by omega
    have h1 : w.heap[i]? = some w.heap[i] := Array.getElem?_eq_getElem hl
    rw [h1]
    exact h.block i _ h1 (.inl hi)⟩
theorem Fm.alloc {base : Nat} (w : World) (o : Obj) : Fm base w (w.alloc o) :=
  ⟨rfl, rfl, rfl, by simp, fun b o' hb _ => by
    rw [Below.heap_alloc _ _ _ (Array.getElem?_eq_some_iff.1 hb).1]; exact hb⟩
theorem Fm.drew {base : Nat} (w : World) : Fm base w w.drew := ⟨rfl, rfl, rfl, Nat.le_refl _, fun _ _ h _ => h⟩
theorem Fm.set {base : Nat} {w : World} {b : Nat} {es : Array MapEntry} {n : Nat} (hb : w.heap[b]? = some (.map es n)) (hl : base ≤ b) (o : Obj) : Fm base w (setBlock w b o) :=
  ⟨rfl, rfl, rfl, by rw [size_setBlock]; exact Nat.le_refl _, fun i o' hi ho => by
    by_cases e : i = b
    · subst e
      rw [hb] at hi
      cases hi
      rcases ho with h | h
      · omega
      · exact absurd rfl (h _ _)
    · rw [heap_setBlock_ne e]; exact hi⟩
theorem Fm.step {base : Nat} {w wr w' : World} {it : Nat} (h : Fm base w wr) (hg : wr.grownBy w' (some it)) (hit : w.heap.size ≤ it) : Fm base w w' :=
  ⟨hg.os.trans h.os, hg.tape.trans h.tape, hg.output.trans h.output, Nat.le_trans h.size hg.size, fun b o hb ho => by
    have hl := (Array.getElem?_eq_some_iff.1 hb).1
    have hs := h.size
    rw [hg.block b (by omega) (by simp; omega)]
    exact h.block b o hb ho⟩
theorem Fm.good {base : Nat} {w w' : World} (h : Fm base w w') {i : Nat} (hi : goodW w i) : goodW w' i := by
  obtain ⟨c, t, hc⟩ := hi
  exact ⟨c, t, h.block i _ hc (.inr (by simp))⟩

variable {base : Nat} {w : World} {blk : Role → Option Nat} {L : Role → List Ent} {c : Role → Nat}
theorem Fam.lt (h : Fam base w blk L c) {r : Role} {b : Nat} (hr : blk r = some b) : b < w.heap.size := (Array.getElem?_eq_some_iff.1 (h.hold r b hr).1).1
theorem Fam.set (h : Fam base w blk L c) {r : Role} {b : Nat} (hr : blk r = some b) {L' : List Ent} {c' : Nat} (hw : WF L' c') :
    Fam base (setBlock w b (mapObj (encR r) L' c')) blk (upd L r L') (upd c r c') ∧ Fm base w (setBlock w b (mapObj (encR r) L' c')) := by
  refine ⟨⟨h.inj, h.low, fun r' b' hb' => ?_⟩, Fm.set (h.hold r b hr).1 (h.low r b hr) _⟩
  by_cases e : r' = r
  · subst e
    rw [hr] at hb'
    cases hb'
    rw [upd_same, upd_same]
    exact ⟨heap_setBlock_at (h.hold _ _ hr).1 _, hw⟩
  · rw [upd_other _ e, upd_other _ e, heap_setBlock_ne (fun e' => e (h.inj _ _ b' hb' (by rw [e']; exact hr)))]
    exact h.hold r' b' hb'
theorem Fam.new (h : Fam base w blk L c) (hb : base ≤ w.heap.size) (r : Role) :
    Fam base (w.alloc (.map #[] 0)) (upd blk r (some w.heap.size)) (upd L r []) (upd c r 0) := by
  refine ⟨fun r1 r2 b h1 h2 => ?_, fun r1 b h1 => ?_, fun r1 b h1 => ?_⟩
  · by_cases e1 : r1 = r <;> by_cases e2 : r2 = r
    · rw [e1, e2]
    · subst e1
      rw [upd_same] at h1
      rw [upd_other _ e2] at h2
      cases h1
      have := h.lt h2
      omega
    · subst e2
      rw [upd_same] at h2
      rw [upd_other _ e1] at h1
      cases h2
      have := h.lt h1
      omega
    · rw [upd_other _ e1] at h1
      rw [upd_other _ e2] at h2
      exact h.inj _ _ b h1 h2
  · by_cases e1 : r1 = r
    · subst e1
      rw [upd_same] at h1
      cases h1
      exact hb
    · rw [upd_other _ e1] at h1
      exact h.low _ _ h1
  · by_cases e1 : r1 = r
    · subst e1
      rw [upd_same] at h1
      cases h1
      rw [upd_same, upd_same]
      exact ⟨heap_alloc_new w _, WF.nil 0⟩
    · rw [upd_other _ e1] at h1
      rw [upd_other _ e1, upd_other _ e1, Below.heap_alloc _ _ _ (h.lt h1)]
      exact h.hold _ _ h1
/-- The family stays while nothing but other blocks turns. -/
theorem Fam.kept (h : Fam base w blk L c) {w' : World} {row : Option Nat} (hg : w.grownBy w' row) (hr : ∀ r b, blk r = some b → some b ≠ row) : Fam base w' blk L c :=
  ⟨h.inj, h.low, fun r b hb => ⟨(hg.block b (h.lt hb) (hr r b hb)).trans (h.hold r b hb).1, (h.hold r b hb).2⟩⟩
theorem Fam.alloc (h : Fam base w blk L c) (o : Obj) : Fam base (w.alloc o) blk L c := h.kept (World.grownBy_alloc w o none) (by simp)
theorem Fam.not_cells (h : Fam base w blk L c) {b : Nat} {cs : Array Value} {t : TypeId} {f : Nat × Nat} (hb : w.heap[b]? = some (.cells cs t f)) : ∀ r b', blk r = some b' → some b' ≠ some b := by
  intro r b' hr e
  cases e
  rw [(h.hold r b hr).1] at hb
  cases hb

/-- The tables: what watcher waits on what path, in each table, by each side. -/
structure St (base : Nat) (ws : List Nat) (B : Bool → Bool → Nat) (w : World) (SS : Bool → Bool → Nat → Nat → Bool) (blk : Role → Option Nat) (L : Role → List Ent) (c : Role → Nat) : Prop where
  fam : Fam base w blk L c
  outer : ∀ s t, blk (.o s t) = some (B s t)
  keyO : ∀ s t e, e ∈ L (.o s t) → gk ws s e.k ∧ ∃ b, blk (.i s t e.k) = some b ∧ e.v = .map (some b)
  keyI : ∀ s t k e, e ∈ L (.i s t k) → gk ws (!s) e.k ∧ e.v = unit
  keyX : ∀ e, e ∈ L .x → gk ws true e.k ∧ e.v = unit
  good : ∀ i, i ∈ ws → goodW w i
  rel : ∀ s t k i, SS s t k i = true ↔ (get (L (.o s t)) k).isSome = true ∧ (get (L (.i s t k)) i).isSome = true
  low : base ≤ w.heap.size
variable {ws : List Nat} {B : Bool → Bool → Nat} {SS : Bool → Bool → Nat → Nat → Bool}
theorem St.gws (h : St base ws B w SS blk L c) {s : Bool} {k : Nat} (hk : gk ws s k) : gw s w k := by
  cases s
  · exact hk
  · exact h.good k hk
theorem St.gO (h : St base ws B w SS blk L c) (s t : Bool) : ∀ e ∈ L (.o s t), gw s w e.k := fun e he => h.gws (h.keyO s t e he).1
theorem St.gI (h : St base ws B w SS blk L c) (s t : Bool) (k : Nat) : ∀ e ∈ L (.i s t k), gw (!s) w e.k := fun e he => h.gws (h.keyI s t k e he).1
/-- A world in which neither the maps nor the watchers' kinds have turned. -/
theorem St.kept (h : St base ws B w SS blk L c) {w' : World} {row : Option Nat} (hg : w.grownBy w' row) (hr : ∀ r b, blk r = some b → some b ≠ row) (hgd : ∀ i ∈ ws, goodW w' i) : St base ws B w' SS blk L c :=
  ⟨h.fam.kept hg hr, h.outer, h.keyO, h.keyI, h.keyX, hgd, h.rel, Nat.le_trans h.low hg.size⟩
theorem St.alloc (h : St base ws B w SS blk L c) (o : Obj) : St base ws B (w.alloc o) SS blk L c :=
  h.kept (World.grownBy_alloc w o none) (by simp) (fun i hi => (Fm.alloc (base := base) w o).good (h.good i hi))
theorem St.drew (h : St base ws B w SS blk L c) : St base ws B w.drew SS blk L c :=
  h.kept (w' := w.drew) (row := none) ⟨rfl, rfl, rfl, Nat.le_refl _, fun _ _ _ => rfl⟩ (by simp) h.good

/-- 'm[k]' at an outer map. -/
theorem St.lookO (h : St base ws B w SS blk L c) (s t : Bool) {k : Nat} (hk : gk ws s k) :
    (Instr.lookup (tO s) (.map (some (B s t))) (encK s k) false).run Yba.prog w = .ok ((get (L (.o s t)) k).getD (.map none)) w :=
  run_lookup_map (lawK s) (undO s) (h.fam.hold _ _ (h.outer s t)).1 (h.gO s t) (h.gws hk) (zeroI s w)
theorem St.at_ (h : St base ws B w SS blk L c) {s t : Bool} {k : Nat} {v : Value} (hv : get (L (.o s t)) k = some v) : ∃ b, blk (.i s t k) = some b ∧ v = .map (some b) := by
  obtain ⟨e, he, rfl, rfl⟩ := get_mem hv
  exact (h.keyO s t e he).2
/-- '_, ok := m[k]' at an inner map. -/
theorem St.lookI (h : St base ws B w SS blk L c) {s t : Bool} {k b i : Nat} (hb : blk (.i s t k) = some b) (hi : gk ws (!s) i) :
    (Instr.lookup (tI s) (.map (some b)) (encK (!s) i) true).run Yba.prog w = .ok (.tuple #[unit, .bool (get (L (.i s t k)) i).isSome]) w := by
  have hr := run_lookup_ok (k := i) (lawK (!s)) (undI s) (h.fam.hold _ _ hb).1 (h.gI s t k) (h.gws hi) (zeroU w)
  rw [hr]
  cases hg : get (L (.i s t k)) i with
  | none => rfl
  | some v =>
    obtain ⟨e, he, _, rfl⟩ := get_mem hg
    rw [(h.keyI s t k e he).2]
    rfl

def setS (SS : Bool → Bool → Nat → Nat → Bool) (s t : Bool) (k i : Nat) (v : Bool) : Bool → Bool → Nat → Nat → Bool := fun s' t' k' i' => if s' = s ∧ t' = t ∧ k' = k ∧ i' = i then v else SS s' t' k' i'
theorem get_isSome {L : List Ent} {k : Nat} : (get L k).isSome = true ↔ ∃ e ∈ L, e.k = k := by
  constructor
  · intro h
    obtain ⟨v, hv⟩ := Option.isSome_iff_exists.1 h
    obtain ⟨e, he, hk, _⟩ := get_mem hv
    exact ⟨e, he, hk⟩
  · rintro ⟨e, he, hk⟩
    cases hg : get L k with
    | some v => rfl
    | none => exact absurd hk (get_eq_none.1 hg e he)

theorem St.newO (h : St base ws B w SS blk L c) (s t : Bool) {k : Nat} (hk : gk ws s k) (hn : get (L (.o s t)) k = none) :
    ∃ w2, (Instr.mapUpdate (tO s) (.map (some (B s t))) (encK s k) (.map (some w.heap.size))).run Yba.prog (w.alloc (.map #[] 0)) = .ok () w2 ∧ Fm base w w2 ∧
      ∃ L' c', St base ws B w2 SS (upd blk (.i s t k) (some w.heap.size)) L' c' ∧ get (L' (.o s t)) k = some (.map (some w.heap.size)) ∧ (∀ r, r ≠ .i s t k → r ≠ .o s t → L' r = L r) := by
  have hF := h.fam.new h.low (.i s t k)
  have hne : Role.o s t ≠ Role.i s t k := by simp
  have ho : upd blk (.i s t k) (some w.heap.size) (.o s t) = some (B s t) := by rw [upd_other _ hne]; exact h.outer s t
  have hold := hF.hold _ _ ho
  rw [upd_other _ hne, upd_other _ hne] at hold
  have h1 := h.alloc (.map #[] 0)
  have hrun := run_update_new (k := k) (lawK s) (undO s) hold.1 (h1.gO s t) (h1.gws hk) hn (.map (some w.heap.size))
  obtain ⟨hF2, hm2⟩ := hF.set ho (hold.2.new hn (.map (some w.heap.size)))
  refine ⟨_, hrun, (Fm.alloc w _).trans hm2, _, _, ⟨hF2, ?_, ?_, ?_, ?_, ?_, ?_, ?_⟩, ?_, ?_⟩
  · intro s' t'
    rw [upd_other _ (by simp)]
    exact h.outer s' t'
  · intro s' t' e he
    by_cases hr : Role.o s' t' = Role.o s t
    · rw [hr, upd_same] at he
      simp only [Role.o.injEq] at hr
      obtain ⟨rfl, rfl⟩ := hr
      rcases List.mem_append.1 he with he | he
      · obtain ⟨g1, b, g2, g3⟩ := h.keyO _ _ e he
        have hek : e.k ≠ k := get_eq_none.1 hn e he
        exact ⟨g1, b, by rw [upd_other _ (by simp [hek])]; exact g2, g3⟩
      · simp at he
        subst he
        exact ⟨hk, _, upd_same _ _ _, rfl⟩
    · rw [upd_other _ hr, upd_other _ (by simp)] at he
      obtain ⟨g1, b, g2, g3⟩ := h.keyO _ _ e he
      refine ⟨g1, b, ?_, g3⟩
      rw [upd_other _ (by
        intro e1
        simp only [Role.i.injEq] at e1
        exact hr (by rw [e1.1, e1.2.1]))]
      exact g2
  · intro s' t' k' e he
    rw [upd_other _ (by simp)] at he
    by_cases hr : Role.i s' t' k' = Role.i s t k
    · rw [hr, upd_same] at he
      cases he
    · rw [upd_other _ hr] at he
      exact h.keyI _ _ _ e he
  · intro e he
    rw [upd_other _ (by simp), upd_other _ (by simp)] at he
    exact h.keyX e he
  · intro i hi
    exact hm2.good (h1.good i hi)
  · intro s' t' k' i'
    rw [h.rel s' t' k' i']
    have e2 : upd (upd L (.i s t k) []) (.o s t) (L (.o s t) ++ [⟨k, .map (some w.heap.size), c (.o s t)⟩]) (.i s' t' k') = if Role.i s' t' k' = Role.i s t k then [] else L (.i s' t' k') := by
      rw [upd_other _ (by simp)]; rfl
    rw [e2]
    by_cases hr : Role.i s' t' k' = Role.i s t k
    · have hr' := hr
      simp only [Role.i.injEq] at hr'
      obtain ⟨rfl, rfl, rfl⟩ := hr'
      rw [if_pos hr, hn]
      simp [get]
    · rw [if_neg hr]
      by_cases ho' : Role.o s' t' = Role.o s t
      · rw [ho', upd_same, get_append_new hn]
        simp only [Role.o.injEq] at ho'
        obtain ⟨rfl, rfl⟩ := ho'
        have hkk : k' ≠ k := fun e => hr (by rw [e])
        rw [if_neg hkk]
      · rw [upd_other _ ho', upd_other _ (by simp)]
  · rw [size_setBlock]
    exact Nat.le_trans h.low (by simp)
  · rw [upd_same, get_append_new hn, if_pos rfl]
  · intro r h1 h2
    rw [upd_other _ h2, upd_other _ h1]

/-- 'm[i] = struct{}{}' at a map of the family. -/
theorem Fam.putU (h : Fam base w blk L c) {r : Role} {b : Nat} (hb : blk r = some b) {s : Bool} (he : encR r = encK s) {t : TypeId} (ht : Yba.prog.underlying t = some (.map (kt s) 35)) {i : Nat} (hg : ∀ x ∈ L r, gw s w x.k) (hi : gw s w i) (hu : ∀ e ∈ L r, e.v = unit) :
    ∃ w', (Instr.mapUpdate t (.map (some b)) (encK s i) unit).run Yba.prog w = .ok () w' ∧ Fm base w w' ∧ w'.heap.size = w.heap.size ∧
      ∃ L' c', Fam base w' blk L' c' ∧ (∀ r', r' ≠ r → L' r' = L r' ∧ c' r' = c r') ∧ (∀ e ∈ L' r, e ∈ L r ∨ e.k = i ∧ e.v = unit) ∧ ∀ j, (get (L' r) j).isSome = true ↔ (get (L r) j).isSome = true ∨ j = i := by
  have hold := h.hold r b hb
  rw [he] at hold
  cases hn : get (L r) i with
  | none =>
    have hrun := run_update_new (k := i) (lawK s) ht hold.1 hg hi hn unit
    obtain ⟨hF, hm⟩ := h.set hb (hold.2.new hn unit)
    rw [he] at hF hm
    refine ⟨_, hrun, hm, size_setBlock _ _ _, _, _, hF, fun r' hr' => ⟨upd_other _ hr' _, upd_other _ hr' _⟩, ?_, ?_⟩
    · intro e he'
      rw [upd_same] at he'
      rcases List.mem_append.1 he' with h1 | h1
      · exact .inl h1
      · simp at h1
        subst h1
        exact .inr ⟨rfl, rfl⟩
    · intro j
      rw [upd_same, get_append_new hn]
      by_cases hj : j = i
      · simp [hj]
      · simp [hj]
  | some v =>
    have hv : v = unit := by
      obtain ⟨e, he', _, rfl⟩ := get_mem hn
      exact hu e he'
    subst hv
    have hrun := run_update_same (k := i) (lawK s) ht hold.1 hg hi hn
    obtain ⟨hF, hm⟩ := h.set hb hold.2
    rw [he] at hF hm
    refine ⟨_, hrun, hm, size_setBlock _ _ _, _, _, hF, fun r' hr' => ⟨upd_other _ hr' _, upd_other _ hr' _⟩, ?_, ?_⟩
    · intro e he'
      rw [upd_same] at he'
      exact .inl he'
    · intro j
      rw [upd_same]
      constructor
      · exact .inl
      · rintro (h1 | rfl)
        · exact h1
        · rw [hn]; rfl
theorem St.putI (h : St base ws B w SS blk L c) {s t : Bool} {k b i : Nat} (hb : blk (.i s t k) = some b) (hk : (get (L (.o s t)) k).isSome = true) (hi : gk ws (!s) i) :
    ∃ w', (Instr.mapUpdate (tI s) (.map (some b)) (encK (!s) i) unit).run Yba.prog w = .ok () w' ∧ Fm base w w' ∧ w'.heap.size = w.heap.size ∧
      ∃ L' c', St base ws B w' (setS SS s t k i true) blk L' c' ∧ (∀ r, r ≠ .i s t k → L' r = L r) := by
  obtain ⟨w', hrun, hm, hsz, L', c', hF, hLc, hmem, hget⟩ := h.fam.putU (r := .i s t k) hb (s := !s) rfl (undI s) (h.gI s t k) (h.gws hi) (fun e he => (h.keyI s t k e he).2)
  have hL : ∀ r, r ≠ .i s t k → L' r = L r := fun r hr => (hLc r hr).1
  refine ⟨w', hrun, hm, hsz, L', c', ⟨hF, h.outer, ?_, ?_, ?_, fun i hi => hm.good (h.good i hi), ?_, by rw [hsz]; exact h.low⟩, hL⟩
  · intro s' t' e he
    rw [hL _ (by simp)] at he
    exact h.keyO s' t' e he
  · intro s' t' k' e he
    by_cases hr : Role.i s' t' k' = Role.i s t k
    · rw [hr] at he
      simp only [Role.i.injEq] at hr
      obtain ⟨rfl, rfl, rfl⟩ := hr
      rcases hmem e he with h1 | ⟨h1, h2⟩
      · exact h.keyI _ _ _ e h1
      · exact ⟨by rw [h1]; exact hi, h2⟩
    · rw [hL _ hr] at he
      exact h.keyI _ _ _ e he
  · intro e he
    rw [hL _ (by simp)] at he
    exact h.keyX e he
  · intro s' t' k' i'
    rw [hL (.o s' t') (by simp)]
    unfold setS
    by_cases hr : Role.i s' t' k' = Role.i s t k
    · simp only [Role.i.injEq] at hr
      obtain ⟨rfl, rfl, rfl⟩ := hr
      rw [hget i']
      by_cases hi' : i' = i
      · simp [hi', hk]
      · simp only [true_and, hi', if_false, or_false]
        exact h.rel _ _ _ _
    · rw [hL _ hr, if_neg (fun e => hr (by rw [e.1, e.2.1, e.2.2.1]))]
      exact h.rel _ _ _ _
theorem St.putX (h : St base ws B w SS blk L c) {b i : Nat} (hb : blk .x = some b) (hi : i ∈ ws) :
    ∃ w', (Instr.mapUpdate 80 (.map (some b)) (encW i) unit).run Yba.prog w = .ok () w' ∧ Fm base w w' ∧ w'.heap.size = w.heap.size ∧
      ∃ L' c', St base ws B w' SS blk L' c' ∧ (∀ r, r ≠ .x → L' r = L r ∧ c' r = c r) ∧ ∀ j, (get (L' .x) j).isSome = true ↔ (get (L .x) j).isSome = true ∨ j = i := by
  obtain ⟨w', hrun, hm, hsz, L', c', hF, hLc, hmem, hget⟩ := h.fam.putU (r := .x) hb (s := true) rfl Yba.underlying80 (fun e he => h.gws (h.keyX e he).1) (h.good i hi) (fun e he => (h.keyX e he).2)
  have hL : ∀ r, r ≠ .x → L' r = L r := fun r hr => (hLc r hr).1
  refine ⟨w', hrun, hm, hsz, L', c', ⟨hF, h.outer, ?_, ?_, ?_, fun i hi => hm.good (h.good i hi), ?_, by rw [hsz]; exact h.low⟩, hLc, hget⟩
  · intro s' t' e he
    rw [hL _ (by simp)] at he
    exact h.keyO s' t' e he
  · intro s' t' k' e he
    rw [hL _ (by simp)] at he
    exact h.keyI _ _ _ e he
  · intro e he
    rcases hmem e he with h1 | ⟨h1, h2⟩
    · exact h.keyX e h1
    · exact ⟨by rw [h1]; exact hi, h2⟩
  · intro s' t' k' i'
    rw [hL (.o s' t') (by simp), hL (.i s' t' k') (by simp)]
    exact h.rel _ _ _ _
/-- 'delete(m, i)' at an inner map. -/
theorem St.delI (h : St base ws B w SS blk L c) {s t : Bool} {k b i : Nat} (hb : blk (.i s t k) = some b) (hi : gk ws (!s) i) (ty : TypeId) :
    ∃ w', (Builtin.delete_ #[tI s, kt (!s)] ty #[.map (some b), encK (!s) i]).run Yba.prog w = .ok (.tuple #[]) w' ∧ Fm base w w' ∧ w'.heap.size = w.heap.size ∧
      St base ws B w' (setS SS s t k i false) blk (upd L (.i s t k) (del (L (.i s t k)) i)) c := by
  have hold := h.fam.hold _ _ hb
  have hrun := run_delete_map (k := i) (lawK (!s)) (undI s) hold.1 hold.2 (h.gI s t k) (h.gws hi) ty
  obtain ⟨hF, hm⟩ := h.fam.set hb (hold.2.del i)
  have hc : upd c (.i s t k) (c (.i s t k)) = c := by
    funext r
    unfold upd
    split
    · rename_i e; rw [e]
    · rfl
  rw [hc] at hF
  refine ⟨_, hrun, hm, size_setBlock _ _ _, ⟨hF, h.outer, ?_, ?_, ?_, fun i hi => hm.good (h.good i hi), ?_, by rw [size_setBlock]; exact h.low⟩⟩
  · intro s' t' e he
    rw [upd_other _ (by simp)] at he
    exact h.keyO s' t' e he
  · intro s' t' k' e he
    by_cases hr : Role.i s' t' k' = Role.i s t k
    · rw [hr, upd_same] at he
      simp only [Role.i.injEq] at hr
      obtain ⟨rfl, rfl, rfl⟩ := hr
      exact h.keyI _ _ _ e (List.mem_filter.1 he).1
    · rw [upd_other _ hr] at he
      exact h.keyI _ _ _ e he
  · intro e he
    rw [upd_other _ (by simp)] at he
    exact h.keyX e he
  · intro s' t' k' i'
    rw [upd_other _ (by simp)]
    unfold setS
    by_cases hr : Role.i s' t' k' = Role.i s t k
    · rw [hr, upd_same, get_del]
      simp only [Role.i.injEq] at hr
      obtain ⟨rfl, rfl, rfl⟩ := hr
      by_cases hi' : i' = i
      · simp [hi']
      · simp only [true_and, hi', if_false]
        exact h.rel _ _ _ _
    · rw [upd_other _ hr, if_neg (fun e => hr (by rw [e.1, e.2.1, e.2.2.1]))]
      exact h.rel _ _ _ _
/-- 'delete(m, k)' at an outer map, where the inner one holds nothing. -/
theorem St.delO (h : St base ws B w SS blk L c) (s t : Bool) {k : Nat} (hk : gk ws s k) (hn : L (.i s t k) = []) (ty : TypeId) :
    ∃ w', (Builtin.delete_ #[tO s, kt s] ty #[.map (some (B s t)), encK s k]).run Yba.prog w = .ok (.tuple #[]) w' ∧ Fm base w w' ∧ w'.heap.size = w.heap.size ∧
      St base ws B w' SS blk (upd L (.o s t) (del (L (.o s t)) k)) c := by
  have hold := h.fam.hold _ _ (h.outer s t)
  have hrun := run_delete_map (k := k) (lawK s) (undO s) hold.1 hold.2 (h.gO s t) (h.gws hk) ty
  obtain ⟨hF, hm⟩ := h.fam.set (h.outer s t) (hold.2.del k)
  have hc : upd c (.o s t) (c (.o s t)) = c := by
    funext r
    unfold upd
    split
    · rename_i e; rw [e]
    · rfl
  rw [hc] at hF
  refine ⟨_, hrun, hm, size_setBlock _ _ _, ⟨hF, h.outer, ?_, ?_, ?_, fun i hi => hm.good (h.good i hi), ?_, by rw [size_setBlock]; exact h.low⟩⟩
  · intro s' t' e he
    by_cases hr : Role.o s' t' = Role.o s t
    · rw [hr, upd_same] at he
      simp only [Role.o.injEq] at hr
      obtain ⟨rfl, rfl⟩ := hr
      exact h.keyO _ _ e (List.mem_filter.1 he).1
    · rw [upd_other _ hr] at he
      exact h.keyO s' t' e he
  · intro s' t' k' e he
    rw [upd_other _ (by simp)] at he
    exact h.keyI _ _ _ e he
  · intro e he
    rw [upd_other _ (by simp)] at he
    exact h.keyX e he
  · intro s' t' k' i'
    rw [upd_other _ (show Role.i s' t' k' ≠ Role.o s t by simp), h.rel s' t' k' i']
    by_cases hr : Role.o s' t' = Role.o s t
    · rw [hr, upd_same, get_del]
      simp only [Role.o.injEq] at hr
      obtain ⟨rfl, rfl⟩ := hr
      by_cases hkk : k' = k
      · subst hkk
        rw [hn]
        simp [get]
      · rw [if_neg hkk]
    · rw [upd_other _ hr]
theorem St.lenI (h : St base ws B w SS blk L c) {s t : Bool} {k b : Nat} (hb : blk (.i s t k) = some b) (ty : TypeId) : (Builtin.len_ #[tI s] ty #[.map (some b)]).run Yba.prog w = .ok (.int .i64 (L (.i s t k)).length) w :=
  run_len_map (undI s) (h.fam.hold _ _ hb).1 ty
end Go.Proofs.Ybulkfbw.lawS0295AFires
