/-
  LawS0295AFires: bits of a byte, events compared, the two lookups. By an AI agent.
-/
import Derived.Test.YbulkfbwFireNew
import Derived.OwnWalk
namespace Go.Proofs.Ybulkfbw.lawS0295AFires
open Go.ChangeShapes Go.WideShapes Go.RowKit
open Go.ChangeMaps (setBlock)
set_option linter.unusedVariables false
set_option linter.unusedSimpArgs false

def bit (d : Int) (b : Nat) : Bool := bits BinOp.and IntKind.u8 (d / 2 ^ b) 1 == 1
theorem and_one (x : Int) : bits BinOp.and IntKind.u8 x 1 = ((BitVec.ofInt 8 x).toNat % 2 : Nat) := by
  have e : bits BinOp.and IntKind.u8 x 1 = IntKind.u8.wrap ((BitVec.ofInt 8 x &&& BitVec.ofInt 8 1).toNat : Nat) := rfl
  have e2 : (BitVec.ofInt 8 x &&& BitVec.ofInt 8 1).toNat = (BitVec.ofInt 8 x).toNat % 2 := by
    rw [BitVec.toNat_and]
    show (BitVec.ofInt 8 x).toNat &&& 1 = _
    exact Nat.and_one_is_mod _
  rw [e, e2]
  have : (BitVec.ofInt 8 x).toNat % 2 < 2 := Nat.mod_lt _ (by omega)
  simp only [IntKind.wrap_u8]
  omega
theorem or_val (x y : Int) : (BitVec.ofInt 8 (bits BinOp.or IntKind.u8 x y)).toNat = (BitVec.ofInt 8 x).toNat ||| (BitVec.ofInt 8 y).toNat := by
  have e : bits BinOp.or IntKind.u8 x y = IntKind.u8.wrap ((BitVec.ofInt 8 x ||| BitVec.ofInt 8 y).toNat : Nat) := rfl
  have hl : (BitVec.ofInt 8 x ||| BitVec.ofInt 8 y).toNat < 256 := (BitVec.ofInt 8 x ||| BitVec.ofInt 8 y).isLt
  rw [e, ← BitVec.toNat_or]
  simp only [IntKind.wrap_u8, BitVec.toNat_ofInt]
  omega
theorem or_bit (x y : Int) : (bits BinOp.and IntKind.u8 (bits BinOp.or IntKind.u8 x y) 1 == 1) = ((bits BinOp.and IntKind.u8 x 1 == 1) || (bits BinOp.and IntKind.u8 y 1 == 1)) := by
  rw [and_one, and_one, and_one, or_val]
  have h := Nat.testBit_or (BitVec.ofInt 8 x).toNat (BitVec.ofInt 8 y).toNat 0
  simp only [Nat.testBit_zero] at h
  have key : ∀ m : Nat, (((m % 2 : Nat) : Int) == 1) = decide (m % 2 = 1) := by
    intro m
    rw [Bool.eq_iff_iff]
    simp
    omega
  rw [key, key, key]
  exact h
theorem neq_event (a : Int) (s : ByteArray) (w : World) : (binOp .neq 77 (.agg #[.int .i32 a, .int .i32 3, .string s]) (.agg #[.int .i32 a, .int .i32 3, .string s])).run Yba.prog w = .ok (.bool false) w := by
  have hp77 : Yba.prog.stoodInHeld 77 = false := by kernel_rfl
  go_simp

variable {base : Nat} {w : World} {blk : Role → Option Nat} {L : Role → List Ent} {c : Role → Nat} {ws : List Nat} {B : Bool → Bool → Nat} {SS : Bool → Bool → Nat → Nat → Bool}
/-- '_, ok := m[k][i]'. -/
theorem St.look2 (h : St base ws B w SS blk L c) (s t : Bool) {k i : Nat} (hk : gk ws s k) (hi : gk ws (!s) i) :
    ∃ m, (Instr.lookup (tO s) (.map (some (B s t))) (encK s k) false).run Yba.prog w = .ok (.map m) w ∧ (Instr.lookup (tI s) (.map m) (encK (!s) i) true).run Yba.prog w = .ok (.tuple #[unit, .bool (SS s t k i)]) w := by
  have h1 := h.lookO s t hk
  have hr := h.rel s t k i
  cases hg : get (L (.o s t)) k with
  | none =>
    rw [hg] at h1 hr
    refine ⟨none, h1, ?_⟩
    have h2 := run_lookup_nil_ok (k := i) (w := w) (lawK (!s)) (undI s) (h.gws hi) (zeroU w)
    have h3 : SS s t k i = false := by
      cases hs : SS s t k i with
      | false => rfl
      | true => have := (hr.1 hs).1; simp at this
    rw [h3]
    exact h2
  | some v =>
    obtain ⟨b, hb, rfl⟩ := h.at_ hg
    rw [hg] at h1 hr
    refine ⟨some b, h1, ?_⟩
    have h2 := h.lookI hb hi
    have h3 : SS s t k i = (get (L (.i s t k)) i).isSome := by
      rw [Bool.eq_iff_iff, hr]
      simp
    rw [h3]
    exact h2

/-- The first loop, under way: i watchers are done; of the next the paths below bd t. -/
structure L1 (w : World) (n : Nat) (X : Bool → Nat → Int) (i m : Nat) (bd : Bool → Nat) (wr : World) (ws : List Nat) (S : Bool → Nat → Nat → Bool) (blk : Role → Option Nat) (L : Role → List Ent) (c : Role → Nat) (cur : Array Value) : Prop where
  len : ws.length = m
  nodup : ws.Nodup
  below : Below w.heap.size w wr
  tree : Tree (w.heap.size + 13) (BN w.heap.size) 0 wr
  row : wr.heap[w.heap.size + 14]? = some (.cells cur 28 (0, 0))
  rsz : cur.size = n
  ptr : ∀ (j p : Nat), ws[j]? = some p → cur[j]? = some (.pointer (some ⟨p, 0, none⟩))
  st : St w.heap.size ws (BN w.heap.size) wr (mk S) blk L c
  logs : Logs w.heap.size ws wr (fun _ => .slice none 0 0) (fun _ => [])
  bits : ∀ (t : Bool) (j p : Nat), ws[j]? = some p → ∀ b, b < 5 → S t p b = ((decide (j < i) || decide (b < bd t)) && bit (X t j) b)

variable {n : Nat} {X : Bool → Nat → Int} {i m : Nat} {bd : Bool → Nat} {wr : World} {S : Bool → Nat → Nat → Bool} {cur : Array Value}
def updB (bd : Bool → Nat) (t : Bool) (b : Nat) : Bool → Nat := fun t' => if t' = t then b else bd t'

/-- Over a frame that keeps all but the maps. -/
theorem l1_fm (h : L1 w n X i m bd wr ws S blk L c cur) {w' : World} (hf : Fm w.heap.size wr w') {S' : Bool → Nat → Nat → Bool} {blk' : Role → Option Nat} {L' : Role → List Ent} {c' : Role → Nat} (hst : St w.heap.size ws (BN w.heap.size) w' (mk S') blk' L' c') {bd' : Bool → Nat}
    (hb : ∀ (t : Bool) (j p : Nat), ws[j]? = some p → ∀ b, b < 5 → S' t p b = ((decide (j < i) || decide (b < bd' t)) && bit (X t j) b)) : L1 w n X i m bd' w' ws S' blk' L' c' cur :=
  ⟨h.len, h.nodup, h.below.trans (hf.below h.st.low), h.tree.kept hf.fr, hf.block _ _ h.row (.inr (by simp)), h.rsz, h.ptr, hst, h.logs.fm hf, hb⟩
theorem l1_drew (h : L1 w n X i m bd wr ws S blk L c cur) : L1 w n X i m bd wr.drew ws S blk L c cur := l1_fm h (Fm.drew _) h.st.drew h.bits

/-- The i-th watcher's bit b of table t is not set. -/
theorem l1_skip (h : L1 w n X i (i + 1) bd wr ws S blk L c cur) (t : Bool) {b : Nat} (hb : bd t = b) (hbit : bit (X t i) b = false) : L1 w n X i (i + 1) (updB bd t (b + 1)) wr ws S blk L c cur := by
  refine l1_fm h (Fm.refl _ _) h.st (fun t' j p hj b' hb' => ?_)
  rw [h.bits t' j p hj b' hb']
  by_cases ht : t' = t
  · subst ht
    have e : updB bd t' (b + 1) t' = b + 1 := by simp [updB]
    rw [e, hb]
    by_cases hji : j < i
    · simp [hji]
    · have hji' : j = i := by have := (List.getElem?_eq_some_iff.1 hj).1; rw [h.len] at this; omega
      subst hji'
      by_cases hbb : b' = b
      · subst hbb
        simp [hbit]
      · have : (b' < b + 1) = (b' < b) := by rw [eq_iff_iff]; omega
        simp only [this]
  · have e : updB bd t (b + 1) t' = bd t' := by simp [updB, ht]
    rw [e]
theorem l1_add (h : L1 w n X i (i + 1) bd wr ws S blk L c cur) (t : Bool) {b : Nat} (hb5 : b < 5) (hb : bd t = b) (hbit : bit (X t i) b = true) {p : Nat} (hp : ws[i]? = some p) {w' : World} (hf : Fm w.heap.size wr w') {blk' : Role → Option Nat} {L' : Role → List Ent} {c' : Role → Nat} (hst : St w.heap.size ws (BN w.heap.size) w' (mk (setT S t p b true)) blk' L' c') :
    L1 w n X i (i + 1) (updB bd t (b + 1)) w' ws (setT S t p b true) blk' L' c' cur := by
  refine l1_fm h hf hst (fun t' j q hj b' hb' => ?_)
  unfold setT
  by_cases hji : j = i
  · subst hji
    rw [hp] at hj
    cases hj
    by_cases ht : t' = t
    · subst ht
      have e : updB bd t' (b + 1) t' = b + 1 := by simp [updB]
      rw [e]
      by_cases hbb : b' = b
      · subst hbb
        simp [hbit]
      · rw [if_neg (fun e' => hbb e'.2.2), h.bits t' j p hp b' hb', hb]
        have : (b' < b + 1) = (b' < b) := by rw [eq_iff_iff]; omega
        simp only [this]
    · have e : updB bd t (b + 1) t' = bd t' := by simp [updB, ht]
      rw [if_neg (fun e' => ht e'.1), h.bits t' j p hp b' hb', e]
  · have hqp : q ≠ p := by
      intro e
      subst e
      have h1 := List.getElem?_eq_some_iff.1 hj
      have h2 := List.getElem?_eq_some_iff.1 hp
      exact hji ((List.getElem_inj h.nodup).1 (h1.2.trans h2.2.symm))
    have hlt : j < i := by have := (List.getElem?_eq_some_iff.1 hj).1; rw [h.len] at this; omega
    rw [if_neg (fun e' => hqp e'.2.1), h.bits t' j q hj b' hb']
    simp [hlt]
theorem l1_done (h : L1 w n X i (i + 1) bd wr ws S blk L c cur) (h5 : ∀ t, bd t = 5) (bd' : Bool → Nat) : L1 w n X (i + 1) (i + 1) bd' wr ws S blk L c cur := by
  refine ⟨h.len, h.nodup, h.below, h.tree, h.row, h.rsz, h.ptr, h.st, h.logs, fun t j p hj b hb => ?_⟩
  have hlt : j < i + 1 := by have := (List.getElem?_eq_some_iff.1 hj).1; rw [h.len] at this; omega
  rw [h.bits t j p hj b hb, h5 t]
  simp [hb, hlt]
theorem l1_start {w w1 : World} (hg1 : w.grownBy w1 none) (hs1 : w1.heap.size = w.heap.size + 14) (ht1 : Tree (w.heap.size + 13) (BN w.heap.size) 0 w1) (hm1 : ∀ s t, w1.heap[BN w.heap.size s t]? = some (.map #[] 0)) {cur : Array Value} (hc : cur.size = n) (bd : Bool → Nat) :
    L1 w n X 0 0 bd (w1.alloc (.cells cur 28)) [] (fun _ _ _ => false) (blk0 (BN w.heap.size)) (fun _ => []) (fun _ => 0) cur := by
  have hst := st_empty (base := w.heap.size) (w := w1) (by omega) (Nat.le_refl _) hm1
  refine ⟨rfl, .nil, ?_, ht1.kept (base := w.heap.size) (Fm.alloc _ _).fr, by rw [← hs1]; exact heap_alloc_new _ _, hc, fun j p hj => by simp at hj, hst.alloc _, ⟨fun i hi => (by cases hi), fun i hi => (by cases hi), fun i hi => (by cases hi), fun i hi => (by cases hi)⟩, fun t j p hj => by simp at hj⟩
  have h1 : Below w.heap.size w w1 := ⟨hg1.os, hg1.tape, hg1.output, hg1.size, fun i hi => hg1.block i hi (by simp)⟩
  exact h1.alloc (by omega) _
theorem l1_new (h : L1 w n X i i bd wr ws S blk L c cur) (hin : i < n) {w2 : World} (hw2 : w2 = (wr.alloc (.cells #[.slice none 0 0] 31)).setCell ⟨w.heap.size + 14, i, none⟩ (.pointer (some ⟨wr.heap.size, 0, none⟩))) :
    L1 w n X i (i + 1) (fun _ => 0) w2 (ws ++ [wr.heap.size]) S blk L c (cur.setIfInBounds i (.pointer (some ⟨wr.heap.size, 0, none⟩))) := by
  have hlow := h.st.low
  have hrl : w.heap.size + 14 < wr.heap.size := (Array.getElem?_eq_some_iff.1 h.row).1
  have hne : ∀ b, b ≠ w.heap.size + 14 → w2.heap[b]? = (wr.alloc (.cells #[.slice none 0 0] 31)).heap[b]? := fun b hb => by rw [hw2]; exact Below.heap_setCell _ _ _ _ hb
  have hrow1 : (wr.alloc (.cells #[.slice none 0 0] 31)).heap[w.heap.size + 14]? = some (.cells cur 28 (0, 0)) := (Below.heap_alloc _ _ _ hrl).trans h.row
  have hkeep : ∀ (b : Nat) (o : Obj), (wr.alloc (.cells #[.slice none 0 0] 31)).heap[b]? = some o → (∀ cs f, o ≠ .cells cs 28 f) → w2.heap[b]? = some o := fun b o hb ho => by
    rw [hne b (fun e => by rw [e, hrow1] at hb; cases hb; exact ho _ _ rfl)]
    exact hb
  have hsz : w2.heap.size = wr.heap.size + 1 := by rw [hw2]; simp [World.setCell]
  have hlog1 := logs_watcher h.logs hlow
  have hlog : Logs w.heap.size (ws ++ [wr.heap.size]) w2 (fun _ => .slice none 0 0) (fun _ => []) :=
    ⟨fun i hi => hkeep _ _ (hlog1.cell i hi) (by simp), hlog1.low, fun i hi => World.ownsRow_nil _ _ _ _, fun i hi j hj hij g hg => by cases hg⟩
  have hlt : ∀ p ∈ ws, p < wr.heap.size := fun p hp => (Array.getElem?_eq_some_iff.1 (h.logs.cell p hp)).1
  refine ⟨by simp [h.len], ?_, ?_, ?_, ?_, by simp [h.rsz], fun j p hj => ?_, ?_, hlog, fun t j p hj b hb => ?_⟩
  · rw [List.nodup_append]
    refine ⟨h.nodup, by simp, fun a ha b hb e => ?_⟩
    simp at hb
    have := hlt a ha
    omega
  · rw [hw2]
    exact (h.below.alloc hlow _).setCell (by simp) _
  · obtain ⟨cs, hcs, r⟩ := h.tree.shape
    exact ⟨cs, hkeep _ _ ((Below.heap_alloc _ _ _ (Array.getElem?_eq_some_iff.1 hcs).1).trans hcs) (by simp), r⟩
  · rw [hw2]
    simp [World.setCell, Array.getElem?_modify, hrow1]
  · by_cases hji : j < i
    · rw [List.getElem?_append_left (by rw [h.len]; exact hji)] at hj
      rw [Array.getElem?_setIfInBounds, if_neg (by omega)]
      exact h.ptr j p hj
    · have : j = i := by have := (List.getElem?_eq_some_iff.1 hj).1; simp [h.len] at this; omega
      subst this
      rw [List.getElem?_append_right (by rw [h.len]; omega), h.len] at hj
      simp at hj
      subst hj
      rw [Array.getElem?_setIfInBounds]
      simp [h.rsz, hin]
  · exact (st_watcher h.st).stand (fun b es n hb => hkeep _ _ hb (by simp)) (by rw [hsz]; simp) (fun i hi => ⟨_, _, hlog.cell i hi⟩)
  · by_cases hji : j < i
    · rw [List.getElem?_append_left (by rw [h.len]; exact hji)] at hj
      rw [h.bits t j p hj b hb]
      simp [hji]
    · have hj' : j = i := by have := (List.getElem?_eq_some_iff.1 hj).1; simp [h.len] at this; omega
      subst hj'
      rw [List.getElem?_append_right (by rw [h.len]; omega), h.len] at hj
      simp at hj
      subst hj
      simp only [Nat.lt_irrefl, decide_false, Nat.not_lt_zero, Bool.or_self, Bool.false_and]
      cases hs : S t wr.heap.size b with
      | false => rfl
      | true =>
        obtain ⟨h1, _⟩ := (h.st.rel true t wr.heap.size b).1 hs
        obtain ⟨e, he, hek⟩ := get_isSome.1 h1
        have h2 : e.k ∈ ws := (h.st.keyO true t e he).1
        have := hlt _ h2
        omega

/-- The second loop: all is done; only new blocks come. -/
structure L3 (w : World) (n : Nat) (X : Bool → Nat → Int) (k : Nat) (wr : World) (ws : List Nat) (S : Bool → Nat → Nat → Bool) (blk : Role → Option Nat) (L : Role → List Ent) (c : Role → Nat) (V : Nat → Value) (cur : Array Value) : Prop where
  len : ws.length = n
  below : Below w.heap.size w wr
  tree : Tree (w.heap.size + 13) (BN w.heap.size) 0 wr
  row : wr.heap[w.heap.size + 14]? = some (.cells cur 28 (0, 0))
  ptr : ∀ (j p : Nat), ws[j]? = some p → cur[j]? = some (.pointer (some ⟨p, 0, none⟩))
  st : St w.heap.size ws (BN w.heap.size) wr (mk (clearTs (clearTs S [false, true] k) [true] (par k))) blk L c
  logs : Logs w.heap.size ws wr V (lgD S k)
  bits : ∀ (t : Bool) (j p : Nat), ws[j]? = some p → ∀ b, b < 5 → S t p b = bit (X t j) b
theorem l3_of {w wr w' : World} {n k : Nat} {X : Bool → Nat → Int} {bd : Bool → Nat} {ws : List Nat} {S : Bool → Nat → Nat → Bool} {blk blk' : Role → Option Nat} {L L' : Role → List Ent} {c c' : Role → Nat} {V : Nat → Value} {cur : Array Value} (h : L1 w n X n n bd wr ws S blk L c cur)
    (hf : Fr KT w.heap.size wr w') (ht : Tree (w.heap.size + 13) (BN w.heap.size) 0 w') (hst : St w.heap.size ws (BN w.heap.size) w' (mk (clearTs (clearTs S [false, true] k) [true] (par k))) blk' L' c') (hlog : Logs w.heap.size ws w' V (lgD S k)) :
    L3 w n X k w' ws S blk' L' c' V cur := by
  refine ⟨h.len, h.below.trans (hf.below h.st.low), ht, hf.block _ _ h.row (.inr ?_), h.ptr, hst, hlog, fun t j p hj b hb => ?_⟩
  · rintro ((⟨_, _, e⟩ | ⟨_, _, e⟩ | ⟨_, _, e⟩) | ⟨_, _, e⟩) <;> simp at e
  · have hlt : j < n := by have := (List.getElem?_eq_some_iff.1 hj).1; rw [h.len] at this; exact this
    rw [h.bits t j p hj b hb]
    simp [hlt]
theorem l3_grown {w wr w' : World} {n k : Nat} {X : Bool → Nat → Int} {ws : List Nat} {S : Bool → Nat → Nat → Bool} {blk : Role → Option Nat} {L : Role → List Ent} {c : Role → Nat} {V : Nat → Value} {cur : Array Value} (h : L3 w n X k wr ws S blk L c V cur)
    (hg : wr.grownBy w' none) : L3 w n X k w' ws S blk L c V cur := by
  have hb : ∀ (b : Nat) (o : Obj), wr.heap[b]? = some o → w'.heap[b]? = some o := fun b o hb => (hg.block b (Array.getElem?_eq_some_iff.1 hb).1 (by simp)).trans hb
  have hm : Fm w.heap.size wr w' := ⟨hg.os, hg.tape, hg.output, hg.size, fun b o h _ => hb b o h⟩
  exact ⟨h.len, h.below.trans (hm.below h.st.low), h.tree.kept hm.fr, hb _ _ h.row, h.ptr, h.st.stand (fun b es n h => hb _ _ h) hg.size (fun i hi => hm.good (h.st.good i hi)), h.logs.fm hm, h.bits⟩
/-- What the i-th watcher's log holds. -/
theorem l3_log {w wr : World} {n k i p : Nat} {X : Bool → Nat → Int} {ws : List Nat} {S : Bool → Nat → Nat → Bool} {blk : Role → Option Nat} {L : Role → List Ent} {c : Role → Nat} {V : Nat → Value} {cur : Array Value} (h : L3 w n X k wr ws S blk L c V cur) (hk : k < 4) (hp : ws[i]? = some p) :
    lgD S k p = (if bit (X false i) k || bit (X true i) k then [(2, k)] else []) ++ (if bit (X true i) (par k) then [(4, par k)] else []) := by
  unfold lgD
  rw [h.bits false i p hp k (by omega), h.bits true i p hp k (by omega), h.bits true i p hp (par k) (par_lt k)]
theorem l3_data {w wr : World} {n k i p : Nat} {X : Bool → Nat → Int} {ws : List Nat} {S : Bool → Nat → Nat → Bool} {blk : Role → Option Nat} {L : Role → List Ent} {c : Role → Nat} {V : Nat → Value} {cur : Array Value} (h : L3 w n X k wr ws S blk L c V cur) (hk : k < 4) (hp : ws[i]? = some p) {b : Nat} (hb : b < 5) :
    clearTs (clearTs S [false, true] k) [true] (par k) false p b = (bit (X false i) b && (b != k)) := by
  simp only [clearTs, List.mem_cons, List.not_mem_nil, or_false, Bool.false_eq_true, false_and, if_false, Bool.true_eq_false, true_or, true_and]
  rw [h.bits false i p hp b hb]
  by_cases e : b = k <;> simp [e]
theorem l3_child {w wr : World} {n k i p : Nat} {X : Bool → Nat → Int} {ws : List Nat} {S : Bool → Nat → Nat → Bool} {blk : Role → Option Nat} {L : Role → List Ent} {c : Role → Nat} {V : Nat → Value} {cur : Array Value} (h : L3 w n X k wr ws S blk L c V cur) (hk : k < 4) (hp : ws[i]? = some p) {b : Nat} (hb : b < 5) :
    clearTs (clearTs S [false, true] k) [true] (par k) true p b = (bit (X true i) b && (b != k) && (b != par k)) := by
  simp only [clearTs, List.mem_cons, List.not_mem_nil, or_false, true_and, or_true]
  rw [h.bits true i p hp b hb]
  by_cases e : b = k
  · simp [e]
  · have h1 : (b != k) = true := bne_iff_ne.2 e
    by_cases e' : b = par k
    · simp [e']
    · have h2 : (b != par k) = true := bne_iff_ne.2 e'
      rw [h1, h2]
      simp [e, e']
/-- The log's cells. -/
theorem l3_cells {w wr : World} {n k p : Nat} {X : Bool → Nat → Int} {ws : List Nat} {S : Bool → Nat → Nat → Bool} {blk : Role → Option Nat} {L : Role → List Ent} {c : Role → Nat} {V : Nat → Value} {cur : Array Value} (h : L3 w n X k wr ws S blk L c V cur) (hp : p ∈ ws) {l : List (Int × Nat)} (hl : lgD S k p = l) :
    ∃ a cap, wr.cell? ⟨p, 0, none⟩ = some (.slice a l.length cap) ∧ (l ≠ [] → ∃ g, a = some ⟨g, 0, none⟩ ∧ ∀ j x, l[j]? = some x → wr.cell? ⟨g, j * 3, none⟩ = some (.int .i32 x.1) ∧ wr.cell? ⟨g, j * 3 + 1, none⟩ = some (.int .i32 3) ∧ wr.cell? ⟨g, j * 3 + 2, none⟩ = some (.string (path x.2))) := by
  have hc := h.logs.cell p hp
  have hr := h.logs.row p hp
  rw [hl] at hr
  have hcell : wr.cell? ⟨p, 0, none⟩ = some (V p) := by simp [World.cell?, hc]
  rcases hr.2 with ⟨hv, h0⟩ | ⟨g, cap, cur', hv, _, hg, hle, hm, hsz, htk⟩
  · rw [hv] at hcell
    have : l = [] := List.eq_nil_of_length_eq_zero h0
    subst this
    exact ⟨none, 0, hcell, fun e => absurd rfl e⟩
  · rw [hv] at hcell
    refine ⟨_, cap, hcell, fun _ => ⟨g, rfl, fun j x hj => ?_⟩⟩
    have hjl : j < l.length := (List.getElem?_eq_some_iff.1 hj).1
    have hfl : ∀ (l : List (Int × Nat)) (j : Nat) (x : Int × Nat), l[j]? = some x → ∀ q, q < 3 → (l.flatMap evL)[j * 3 + q]? = (evL x)[q]? := by
      intro l
      induction l with
      | nil => intro j x h; simp at h
      | cons y ys ih =>
        intro j x h q hq
        rw [List.flatMap_cons]
        cases j with
        | zero =>
          simp at h
          subst h
          rw [List.getElem?_append_left (by simp [evL]; omega)]
          simp
        | succ j =>
          rw [List.getElem?_cons_succ] at h
          rw [List.getElem?_append_right (by simp [evL]; omega), ← ih j x h q hq]
          congr 1
          simp [evL]
          omega
    have hget : ∀ q, q < 3 → wr.cell? ⟨g, j * 3 + q, none⟩ = (evL x)[q]? := by
      intro q hq
      have h1 := hfl l j x hj q hq
      rw [← htk, List.getElem?_take] at h1
      have h2 : j * 3 + q < l.length * 3 := by omega
      rw [if_pos h2] at h1
      simp only [World.cell?, hg]
      rw [← h1]
      simp
    exact ⟨hget 0 (by omega), hget 1 (by omega), hget 2 (by omega)⟩
end Go.Proofs.Ybulkfbw.lawS0295AFires
