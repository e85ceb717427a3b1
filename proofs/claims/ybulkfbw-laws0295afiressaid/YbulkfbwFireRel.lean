/-
  LawS0295AFires: what fire does. By an AI agent.
-/
import Derived.Test.YbulkfbwFireLog
namespace Go.Proofs.Ybulkfbw.lawS0295AFires
open Go.ChangeShapes Go.WideShapes Go.RowKit
open Go.ChangeMaps (setBlock)
set_option linter.unusedVariables false
set_option linter.unusedSimpArgs false
variable {base : Nat} {w : World} {blk : Role → Option Nat} {L : Role → List Ent} {c : Role → Nat} {ws : List Nat} {B : Bool → Bool → Nat} {SS : Bool → Bool → Nat → Nat → Bool}

/-- A new set for 'fire' to gather in. -/
theorem St.newX (h : St base ws B w SS blk L c) : St base ws B (w.alloc (.map #[] 0)) SS (upd blk .x (some w.heap.size)) (upd L .x []) (upd c .x 0) := by
  refine ⟨h.fam.new h.low .x, fun s t => ?_, fun s t e he => ?_, fun s t k e he => ?_, fun e he => ?_, (h.alloc _).good, fun s t k i => ?_, Nat.le_trans h.low (by simp)⟩
  · rw [upd_other _ (by simp)]; exact h.outer s t
  · rw [upd_other _ (by simp)] at he
    obtain ⟨h1, b, h2, h3⟩ := h.keyO s t e he
    exact ⟨h1, b, by rw [upd_other _ (by simp)]; exact h2, h3⟩
  · rw [upd_other _ (by simp)] at he
    exact h.keyI s t k e he
  · rw [upd_same] at he
    cases he
  · rw [upd_other _ (by simp), upd_other _ (by simp)]
    exact h.rel s t k i
/-- The maps stand, and the watchers are still watchers. -/
theorem St.stand (h : St base ws B w SS blk L c) {w' : World} (hm : ∀ (b : Nat) es n, w.heap[b]? = some (.map es n) → w'.heap[b]? = some (.map es n)) (hs : w.heap.size ≤ w'.heap.size) (hg : ∀ i ∈ ws, goodW w' i) : St base ws B w' SS blk L c :=
  ⟨⟨h.fam.inj, h.fam.low, fun r b hb => ⟨hm _ _ _ (h.fam.hold r b hb).1, (h.fam.hold r b hb).2⟩⟩, h.outer, h.keyO, h.keyI, h.keyX, hg, h.rel, Nat.le_trans h.low hs⟩

def clearTs (S : Bool → Nat → Nat → Bool) (ts : List Bool) (k : Nat) : Bool → Nat → Nat → Bool := fun t i k' => if t ∈ ts ∧ k' = k then false else S t i k'
theorem clearTs_nil (S : Bool → Nat → Nat → Bool) (k : Nat) : clearTs S [] k = S := by funext t i k'; simp [clearTs]
theorem clearTs_step (S : Bool → Nat → Nat → Bool) (ts : List Bool) (t : Bool) (k : Nat) : clearT (clearTs S ts k) t k = clearTs S (ts ++ [t]) k := by
  funext t' i k'
  unfold clearT clearTs
  by_cases h1 : t' = t <;> by_cases h2 : k' = k <;> by_cases h3 : t' ∈ ts <;> simp [h1, h2, h3]
  all_goals (subst h1; simp [h3])

def leftN (w : World) (b r : Nat) : Nat := match w.heap[b]?, w.heap[r]? with
  | some (.map es _), some (.mapIter _ _ seen _) => (es.toList.filter (fun e => !seen.contains e.born)).length
  | _, _ => 0
theorem leftN_at {w : World} {b r n since c0 : Nat} {enc : Nat → Value} {L : List Ent} {seen : Array Nat} {o : Option Nat} (h : w.heap[b]? = some (mapObj enc L n)) (hr : w.heap[r]? = some (.mapIter o since seen c0)) :
    leftN w b r = (L.filter (fun e => !seen.contains e.b)).length := by
  simp only [leftN, h, hr, mapObj, List.filter_map, List.length_map]
  rfl
theorem left_push {L : List Ent} {e : Ent} {seen : Array Nat} (he : e ∈ L) (hs : seen.contains e.b = false) :
    (L.filter (fun x => !(seen.push e.b).contains x.b)).length < (L.filter (fun x => !seen.contains x.b)).length := by
  have e1 : L.filter (fun x => !(seen.push e.b).contains x.b) = (L.filter (fun x => !seen.contains x.b)).filter (fun x => !(x.b == e.b)) := by
    rw [List.filter_filter]
    congr 1
    funext x
    rw [Array.contains_push]
    cases seen.contains x.b <;> cases (x.b == e.b) <;> rfl
  rw [e1]
  exact List.length_filter_lt_length_iff_exists.2 ⟨e, List.mem_filter.2 ⟨he, by rw [hs]; rfl⟩, by simp⟩
def told (L : List Ent) (seen : Array Nat) (i : Nat) : Bool := L.any (fun e => e.k == i && seen.contains e.b)

/-- At the head of each round of fire's second loop. -/
structure FireRel (base : Nat) (ws : List Nat) (B : Bool → Bool → Nat) (w : World) (SS : Bool → Bool → Nat → Nat → Bool) (blk : Role → Option Nat) (L : Role → List Ent) (c : Role → Nat) (eb r bx sc : Nat) (typ : Int) (k : Nat) (lg : Nat → List (Int × Nat)) (wr : World) (V : Nat → Value) (seen : Array Nat) (c0 : Nat) : Prop where
  st : St base ws B wr SS blk L c
  fr : Fr KL base w wr
  ev : wr.heap[eb]? = some (.cells #[.int .i32 typ, .int .i32 3, .string (path k)] 77 (0, 0))
  evn : ∀ i ∈ ws, (V i).ownBlock ≠ some eb
  iter : wr.heap[r]? = some (.mapIter (some bx) sc seen c0)
  clk : sc ≤ c0
  logs : Logs base ws wr V (fun i => if told (L .x) seen i then lg i ++ [(typ, k)] else lg i)

theorem told_push {L : List Ent} {cc : Nat} (hL : WF L cc) {e : Ent} (he : e ∈ L) {seen : Array Nat} (i : Nat) : told L (seen.push e.b) i = (told L seen i || i == e.k) := by
  rw [Bool.eq_iff_iff]
  simp only [told, List.any_eq_true, Bool.and_eq_true, beq_iff_eq, Bool.or_eq_true, Array.contains_push]
  constructor
  · rintro ⟨x, hx, h1, h2⟩
    rcases h2 with h2 | h2
    · exact .inl ⟨x, hx, h1, h2⟩
    · right
      have : x = e := pw_eq hL.borns hx he h2
      rw [← h1, this]
  · rintro (⟨x, hx, h1, h2⟩ | h1)
    · exact ⟨x, hx, h1, .inl h2⟩
    · exact ⟨e, he, h1.symm, .inr rfl⟩
theorem told_not {L : List Ent} {cc : Nat} (hL : WF L cc) {e : Ent} (he : e ∈ L) {seen : Array Nat} (hs : seen.contains e.b = false) : told L seen e.k = false := by
  rw [Bool.eq_false_iff]
  simp only [told, ne_eq, List.any_eq_true, Bool.and_eq_true, beq_iff_eq]
  rintro ⟨x, hx, h1, h2⟩
  have : x = e := pw_eq hL.keys hx he h1
  rw [this, hs] at h2
  cases h2
/-- One round: the step of the range, and the watcher told. -/
theorem FireRel.next {eb r bx sc : Nat} {typ : Int} {k : Nat} {lg : Nat → List (Int × Nat)} {wr : World} {V : Nat → Value} {seen : Array Nat} {c0 : Nat} (h : FireRel base ws B w SS blk L c eb r bx sc typ k lg wr V seen c0)
    (hlg : ∀ i, (lg i).length ≤ 1) (hbx : blk .x = some bx) (hsc : ∀ e ∈ L .x, e.b < sc) (hcx : sc ≤ c .x) (hr : w.heap.size ≤ r) (hb : base ≤ w.heap.size) {e : Ent} (he : e ∈ L .x) (hns : seen.contains e.b = false) {w3 : World} (hit3 : w3.heap[r]? = some (.mapIter (some bx) sc (seen.push e.b) (c .x))) (hg3 : wr.grownBy w3 (some r)) (hsz3 : w3.heap.size = wr.heap.size) :
    e.k ∈ ws ∧ w3.heap[eb]? = some (.cells #[.int .i32 typ, .int .i32 3, .string (path k)] 77 (0, 0)) ∧
    Calls Yba.prog 70 #[.pointer (some ⟨e.k, 0, none⟩), evA typ k] w3 fun e' w' => e' = .returned (.tuple #[]) ∧ (∃ V', FireRel base ws B w SS blk L c eb r bx sc typ k lg w' V' (seen.push e.b) (c .x)) ∧ leftN w' bx r < leftN wr bx r := by
  have hws : e.k ∈ ws := (h.st.keyX e he).1
  have hold := h.st.fam.hold _ _ hbx
  have hkeep : ∀ (b : Nat) (o : Obj), wr.heap[b]? = some o → (∀ m s se z, o ≠ .mapIter m s se z) → w3.heap[b]? = some o := by
    intro b o hbo hno
    rw [hg3.block b (Array.getElem?_eq_some_iff.1 hbo).1 (fun e' => by
      cases e'
      rw [h.iter] at hbo
      cases hbo
      exact hno _ _ _ _ rfl)]
    exact hbo
  have hgood : ∀ i ∈ ws, goodW w3 i := fun i hi => ⟨_, _, hkeep _ _ (h.logs.cell i hi) (by simp)⟩
  have hst3 : St base ws B w3 SS blk L c := h.st.stand (fun b es n hb' => hkeep b _ hb' (by simp)) (by omega) hgood
  have hrow : ∀ i g, (V i).ownBlock = some g → i ∈ ws → ∃ cur, wr.heap[g]? = some (.cells cur 77 (0, 0)) := fun i g hg hi => ownsRow_at (h.logs.row i hi) hg
  have hlog3 : Logs base ws w3 V (fun i => if told (L .x) seen i then lg i ++ [(typ, k)] else lg i) := by
    refine ⟨fun i hi => hkeep _ _ (h.logs.cell i hi) (by simp), h.logs.low, fun i hi => ?_, h.logs.apart⟩
    obtain ⟨h1, h2⟩ := h.logs.row i hi
    refine ⟨h1, ?_⟩
    rcases h2 with h2 | ⟨g, cap, cur, hv, hb, hg, r⟩
    · exact .inl h2
    · exact .inr ⟨g, cap, cur, hv, hb, hkeep _ _ hg (by simp), r⟩
  have hfr3 : Fr KL base w w3 := ⟨hg3.os.trans h.fr.os, hg3.tape.trans h.fr.tape, hg3.output.trans h.fr.output, by have := h.fr.size; omega, fun b o hb ho => by
    rw [hg3.block b (by have := (Array.getElem?_eq_some_iff.1 hb).1; have := h.fr.size; omega) (by have := (Array.getElem?_eq_some_iff.1 hb).1; simp; omega)]
    exact h.fr.block b o hb ho⟩
  have hev3 := hkeep _ _ h.ev (by simp)
  have htn : told (L .x) seen e.k = false := told_not hold.2 he hns
  refine ⟨hws, hev3, (notify_any hlog3 hws (by simp only [htn]; exact hlg e.k) (by have := h.fr.size; omega) typ k).mono ?_⟩
  rintro e' w' ⟨rfl, ⟨V', hlog', hV'⟩, hos, htape, hout, hsz, hblk⟩
  have hlow : base ≤ e.k := h.logs.low _ hws
  have hkeep' : ∀ (b : Nat) (o : Obj), w3.heap[b]? = some o → (∀ cs f, o ≠ .cells cs 31 f) → (∀ cs f, o ≠ .cells cs 77 f) → w'.heap[b]? = some o := by
    intro b o hbo h1 h2
    rw [hblk b (Array.getElem?_eq_some_iff.1 hbo).1 (fun e' => by
      rw [e', hlog3.cell _ hws] at hbo
      cases hbo
      exact h1 _ _ rfl) (fun e' => by
      obtain ⟨cur, hcur⟩ := ownsRow_at (hlog3.row _ hws) e'
      rw [hbo] at hcur
      cases hcur
      exact h2 _ _ rfl)]
    exact hbo
  have hev' : w'.heap[eb]? = some (.cells #[.int .i32 typ, .int .i32 3, .string (path k)] 77 (0, 0)) := by
    rw [hblk eb (Array.getElem?_eq_some_iff.1 hev3).1 (fun e' => by
      rw [e', hlog3.cell _ hws] at hev3
      simp at hev3) (h.evn _ hws)]
    exact hev3
  have hit' := hkeep' _ _ hit3 (by simp) (by simp)
  have hst' : St base ws B w' SS blk L c := hst3.stand (fun b es n hb' => hkeep' b _ hb' (by simp) (by simp)) hsz (fun i hi => ⟨_, _, hlog'.cell i hi⟩)
  refine ⟨rfl, ⟨V', hst', ?_, hev', fun i hi e' => ?_, hit', hcx, ?_⟩, ?_⟩
  · refine ⟨hos.trans hfr3.os, htape.trans hfr3.tape, hout.trans hfr3.output, Nat.le_trans hfr3.size hsz, fun b o hb ho => ?_⟩
    have h3 := hfr3.block b o hb ho
    rw [hblk b (Array.getElem?_eq_some_iff.1 h3).1 (fun e' => by
      rw [e', hlog3.cell _ hws] at h3
      rcases ho with ho | ho
      · omega
      · cases h3; exact ho (.inr (.inl ⟨_, _, rfl⟩))) (fun e' => by
      obtain ⟨cur, hcur⟩ := ownsRow_at (hlog3.row _ hws) e'
      rw [hcur] at h3
      rcases ho with ho | ho
      · have := ((hlog3.row _ hws).lt _ e').1; omega
      · cases h3; exact ho (.inr (.inr ⟨_, _, rfl⟩)))]
    exact h3
  · rcases hV' i eb e' with h1 | h1
    · exact h.evn i hi h1
    · have := (Array.getElem?_eq_some_iff.1 hev3).1; omega
  · have e1 : (fun i => if told (L .x) (seen.push e.b) i then lg i ++ [(typ, k)] else lg i) = (fun j => if j = e.k then (if told (L .x) seen e.k then lg e.k ++ [(typ, k)] else lg e.k) ++ [(typ, k)] else if told (L .x) seen j then lg j ++ [(typ, k)] else lg j) := by
      funext j
      rw [told_push hold.2 he]
      by_cases hj : j = e.k
      · simp [hj, htn]
      · simp [hj]
    rw [e1]
    exact hlog'
  · rw [leftN_at (hst'.fam.hold _ _ hbx).1 hit', leftN_at hold.1 h.iter]
    exact left_push he hns
end Go.Proofs.Ybulkfbw.lawS0295AFires
