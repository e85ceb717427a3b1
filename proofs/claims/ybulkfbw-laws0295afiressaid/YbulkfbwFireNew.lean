/-
  LawS0295AFires: the walk of New. By an AI agent.
-/
import Derived.Test.YbulkfbwFireDeleted
namespace Go.Proofs.Ybulkfbw.lawS0295AFires
open Go.ChangeShapes Go.WideShapes Go.RowKit
open Go.ChangeMaps (setBlock)
set_option linter.unusedVariables false
set_option linter.unusedSimpArgs false

theorem alloc3 (w : World) (o1 o2 o3 : Obj) : w.grownBy (((w.alloc o1).alloc o2).alloc o3) none ∧ (((w.alloc o1).alloc o2).alloc o3).heap.size = w.heap.size + 3 ∧ (((w.alloc o1).alloc o2).alloc o3).heap[w.heap.size + 1]? = some o2 ∧ (((w.alloc o1).alloc o2).alloc o3).heap[w.heap.size + 2]? = some o3 := by
  refine ⟨⟨rfl, rfl, rfl, by simp; omega, fun k hk _ => ?_⟩, by simp, ?_, ?_⟩
  · rw [Below.heap_alloc _ _ _ (by simp; omega), Below.heap_alloc _ _ _ (by simp; omega), Below.heap_alloc _ _ _ hk]
  · rw [Below.heap_alloc _ _ _ (by simp)]
    exact heap_alloc2_new _ _ _
  · have := heap_alloc_new ((w.alloc o1).alloc o2) o3
    simpa using this
theorem newTable_any (w : World) {n : Nat} (hn : w.heap.size = n) : Calls Yba.prog 20 #[] w fun e w' => e = .returned (.agg #[.map (some (n + 1)), .map (some (n + 2))]) ∧ w.grownBy w' none ∧ w'.heap.size = n + 3 ∧ w'.heap[n + 1]? = some (.map #[] 0) ∧ w'.heap[n + 2]? = some (.map #[] 0) := by
  subst hn
  have hmm := @run_makeMap Yba.prog
  go_enter Yba.func20, Yba.ntmps20
  go_wp2
  refine bodyPost_ret (v := .agg #[.map (some (w.heap.size + 1)), .map (some (w.heap.size + 2))]) (results_cell_row rfl _ _ w.heap.size 70 _ (0, 0) _ rfl ?_ Yba.underlying70 rfl (by kernel_rfl)) rfl ⟨rfl, alloc3 _ _ _ _⟩
  rw [Below.heap_alloc _ _ _ (by simp; omega), Below.heap_alloc _ _ _ (by simp)]
  exact heap_alloc_new _ _
theorem newOverlay_any (w : World) : Calls Yba.prog 19 #[] w fun e w' => e = .returned (.agg #[.map (some (w.heap.size + 1)), .map (some (w.heap.size + 2))]) ∧ w.grownBy w' none ∧ w'.heap.size = w.heap.size + 3 := by
  have hmm := @run_makeMap Yba.prog
  go_enter Yba.func19, Yba.ntmps19
  go_wp2
  refine bodyPost_ret (v := .agg #[.map (some (w.heap.size + 1)), .map (some (w.heap.size + 2))]) (results_cell_row rfl _ _ w.heap.size 49 _ (0, 0) _ rfl ?_ Yba.underlying49 rfl (by kernel_rfl)) rfl ⟨rfl, (alloc3 _ _ _ _).1, (alloc3 _ _ _ _).2.1⟩
  rw [Below.heap_alloc _ _ _ (by simp; omega), Below.heap_alloc _ _ _ (by simp)]
  exact heap_alloc_new _ _
theorem G.trans {a b c : World} (h : a.grownBy b none) (k : b.grownBy c none) : a.grownBy c none := h.trans k
theorem insert_run {w : World} {b : Nat} (hb : w.heap[b]? = some (.map #[] 0)) (v : Value) :
    ∃ w', (Instr.mapUpdate 65 (.map (some b)) (.string ⟨#[47]⟩) v).run Yba.prog w = .ok () w' ∧ w.grownBy w' (some b) ∧ w'.heap.size = w.heap.size := by
  have h := run_update_new (k := 4) (L := []) (c := 0) (enc := encP) lawP Yba.underlying65 hb (by simp) (show goodP w 4 from by unfold goodP; omega) rfl v
  exact ⟨_, h, grown_setBlock hb, size_setBlock _ _ _⟩
def BN (n : Nat) : Bool → Bool → Nat
  | false, false => n + 8
  | true, false => n + 9
  | false, true => n + 11
  | true, true => n + 12
set_option maxHeartbeats 1000000 in
set_option maxRecDepth 100000 in
theorem new_any (w : World) : Calls Yba.prog 7 #[] w fun e w' => e = .returned (.pointer (some ⟨w.heap.size + 13, 0, none⟩)) ∧ w.grownBy w' none ∧ w'.heap.size = w.heap.size + 14 ∧ Tree (w.heap.size + 13) (BN w.heap.size) 0 w' ∧ ∀ s t, w'.heap[BN w.heap.size s t]? = some (.map #[] 0) := by
  have hmm := @run_makeMap Yba.prog
  go_enter Yba.func7, Yba.ntmps7
  go_wp2_with fail
  refine (newOverlay_any _).mono ?_
  rintro e w1 ⟨rfl, hg1, hs1⟩
  obtain ⟨wz, hwz⟩ : ∃ x, x = (((w1.alloc (Obj.map #[] 0)).alloc (Obj.map #[] 0)).alloc
            (Obj.cells
              #[Value.int IntKind.i64 0, Value.int IntKind.i64 0, Value.int IntKind.i64 0, Value.int IntKind.i64 0,
                Value.int IntKind.i32 0, Value.int IntKind.i32 0, Value.int IntKind.i32 0, Value.int IntKind.i64 0,
                Value.int IntKind.i32 0, Value.int IntKind.i32 0, Value.int IntKind.i64 0, Value.int IntKind.i64 0,
                Value.slice none 0 0, Value.map (some (w.heap.size + 3 + 1))]
              117)) := ⟨_, rfl⟩
  have hz : w1.grownBy wz none ∧ wz.heap.size = w1.heap.size + 3 := by rw [hwz]; exact ⟨(alloc3 _ _ _ _).1, (alloc3 _ _ _ _).2.1⟩
  have hz3 : wz.heap[w.heap.size + 3]? = some (.map #[] 0) := by
    rw [hwz, Below.heap_alloc _ _ _ (by simp; omega), Below.heap_alloc _ _ _ (by simp; omega), ← hs1]
    exact heap_alloc_new _ _
  obtain ⟨w3, hr3, hg3, hs3⟩ := insert_run hz3 (.pointer (some ⟨w.heap.size + 3 + 1 + 1, 0, none⟩))
  have hs3' : w3.heap.size = w.heap.size + 6 := by omega
  have HG3 : Hid (w.grownBy w3 none) := ⟨hg3.os.trans (hz.1.os.trans hg1.os), hg3.tape.trans (hz.1.tape.trans hg1.tape), hg3.output.trans (hz.1.output.trans hg1.output), by omega, fun k hk hn => by
    rw [hg3.block k (by omega) (by simp; omega), hz.1.block k (by omega) hn]
    exact hg1.block k hk hn⟩
  clear hz hz3 hg3 hs3 hg1
  subst hwz
  go_wp2_with fail
  refine (newTable_any _ (n := w.heap.size + 7) (by simp; omega)).mono ?_
  rintro e w5 ⟨rfl, hg5, hs5, ha5, hb5⟩
  clear hr3
  have HG5 : Hid (w.grownBy w5 none) := (HG3.out.trans (World.grownBy_alloc _ _ _)).trans hg5
  clear hg5
  simp only [Nat.add_assoc, Nat.reduceAdd] at hs5 ha5 hb5 ⊢
  go_wp2_with fail
  refine (newTable_any _ (n := w.heap.size + 10) hs5).mono ?_
  rintro e w6 ⟨rfl, hg6, hs6, ha6, hb6⟩
  have HG6 : Hid (w.grownBy w6 none) := HG5.out.trans hg6
  have ha5' := (hg6.block _ (by omega) (by simp)).trans ha5
  have hb5' := (hg6.block _ (by omega) (by simp)).trans hb5
  simp only [Nat.add_assoc, Nat.reduceAdd] at hs6 ha6 hb6 ⊢
  have HA : Hid (w6.heap[w.heap.size + 8]? = some (.map #[] 0) ∧ w6.heap[w.heap.size + 9]? = some (.map #[] 0) ∧ w6.heap[w.heap.size + 11]? = some (.map #[] 0) ∧ w6.heap[w.heap.size + 12]? = some (.map #[] 0)) := ⟨ha5', hb5', ha6, hb6⟩
  clear hg6 ha5 hb5 ha6 hb6 ha5' hb5' hs5 hs3' hs1 HG5 HG3
  go_wp2
  go_ret
  obtain ⟨h1, h2, h3, h4⟩ := HA.out
  refine ⟨rfl, HG6.out.trans (World.grownBy_alloc _ _ _), by simp; omega, ⟨_, by rw [← hs6]; exact heap_alloc_new _ _, rfl, rfl, rfl, rfl, rfl⟩, fun s t => ?_⟩
  cases s <;> cases t <;> simp only [BN] <;> rw [Below.heap_alloc _ _ _ (by omega)] <;> assumption
/-- The empty tables. -/
def blk0 (B : Bool → Bool → Nat) : Role → Option Nat
  | .o s t => some (B s t)
  | _ => none
theorem st_empty {base : Nat} {w : World} (hb : base ≤ w.heap.size) {n : Nat} (hn : base ≤ n) (h : ∀ s t, w.heap[BN n s t]? = some (.map #[] 0)) : St base [] (BN n) w (mk (fun _ _ _ => false)) (blk0 (BN n)) (fun _ => []) (fun _ => 0) := by
  refine ⟨⟨fun r r' b h1 h2 => ?_, fun r b h1 => ?_, fun r b h1 => ?_⟩, fun s t => rfl, fun s t e he => (by cases he), fun s t k e he => (by cases he), fun e he => (by cases he), fun i hi => (by cases hi), fun s t k i => ?_, hb⟩
  · cases r with
    | o s t =>
      cases r' with
      | o s' t' =>
        simp only [blk0, Option.some.injEq] at h1 h2
        have e : BN n s t = BN n s' t' := by omega
        cases s <;> cases t <;> cases s' <;> cases t' <;> simp [BN] at e ⊢
      | i _ _ _ => cases h2
      | x => cases h2
    | i _ _ _ => cases h1
    | x => cases h1
  · cases r with
    | o s t =>
      simp only [blk0, Option.some.injEq] at h1
      subst h1
      cases s <;> cases t <;> simp only [BN] <;> omega
    | i _ _ _ => cases h1
    | x => cases h1
  · cases r with
    | o s t =>
      simp only [blk0, Option.some.injEq] at h1
      subst h1
      exact ⟨h s t, WF.nil 0⟩
    | i _ _ _ => cases h1
    | x => cases h1
  · cases s <;> simp [mk, get]
/-- A new watcher. -/
theorem st_watcher {base : Nat} {w : World} {ws : List Nat} {B : Bool → Bool → Nat} {SS : Bool → Bool → Nat → Nat → Bool} {blk : Role → Option Nat} {L : Role → List Ent} {c : Role → Nat} (h : St base ws B w SS blk L c) :
    St base (ws ++ [w.heap.size]) B (w.alloc (.cells #[.slice none 0 0] 31)) SS blk L c := by
  have h1 := h.alloc (.cells #[.slice none 0 0] 31)
  have hg : ∀ s k, gk ws s k → gk (ws ++ [w.heap.size]) s k := fun s k hk => by
    cases s
    · exact hk
    · exact List.mem_append_left _ hk
  refine ⟨h1.fam, h1.outer, fun s t e he => ⟨hg _ _ (h1.keyO s t e he).1, (h1.keyO s t e he).2⟩, fun s t k e he => ⟨hg _ _ (h1.keyI s t k e he).1, (h1.keyI s t k e he).2⟩, fun e he => ⟨hg true _ (h1.keyX e he).1, (h1.keyX e he).2⟩, fun i hi => ?_, h1.rel, h1.low⟩
  rcases List.mem_append.1 hi with hi | hi
  · exact h1.good i hi
  · simp at hi
    subst hi
    exact ⟨_, _, heap_alloc_new _ _⟩
theorem logs_watcher {base : Nat} {w : World} {ws : List Nat} (h : Logs base ws w (fun _ => .slice none 0 0) (fun _ => [])) (hb : base ≤ w.heap.size) :
    Logs base (ws ++ [w.heap.size]) (w.alloc (.cells #[.slice none 0 0] 31)) (fun _ => .slice none 0 0) (fun _ => []) := by
  refine ⟨fun i hi => ?_, fun i hi => ?_, fun i hi => World.ownsRow_nil _ _ _ _, fun i hi j hj hij g hg => by cases hg⟩
  · rcases List.mem_append.1 hi with hi | hi
    · exact (h.fm (Fm.alloc _ _)).cell i hi
    · simp at hi
      subst hi
      exact heap_alloc_new _ _
  · rcases List.mem_append.1 hi with hi | hi
    · exact h.low i hi
    · simp at hi
      subst hi
      exact hb
end Go.Proofs.Ybulkfbw.lawS0295AFires
