/-
  LawS0295AFires: what add, drop and take do. By an AI agent.
-/
import Derived.Test.YbulkfbwFireSt
import Derived.WalkKit
import Derived.WalkSpells
import Derived.ProofKit
import Derived.Below
import Derived.BigQuiet
import Derived.Deep.Light
import Derived.Carry
namespace Go.Proofs.Ybulkfbw.lawS0295AFires
open Go.ChangeShapes Go.WideShapes Go.RowKit
open Go.ChangeMaps (setBlock)
set_option linter.unusedVariables false

theorem run_equalIn_mapnil {P : Program} (d : Nat) {t kt e : TypeId} (h : P.underlying t = some (.map kt e)) (m : Option Nat) (w : World) : (Op.equalIn (d + 1) t (.map m) (.map none)).run P w = .ok m.isNone w := by
  cases m <;> simp [Op.equalIn, run_underlying h]
theorem run_eql_mapnil {P : Program} {t kt e : TypeId} (h : P.underlying t = some (.map kt e)) (m : Option Nat) (w : World) : (binOp .eql t (.map m) (.map none)).run P w = .ok (.bool m.isNone) w := by
  have h1 : (Op.equal t (.map m) (.map none)).run P w = .ok m.isNone w := run_equalIn_mapnil 9999 h m w
  simp only [binOp]
  simp [h1]
theorem run_neq_mapnil {P : Program} {t kt e : TypeId} (h : P.underlying t = some (.map kt e)) (m : Option Nat) (w : World) : (binOp .neq t (.map m) (.map none)).run P w = .ok (.bool (!m.isNone)) w := by
  have h1 : (Op.equal t (.map m) (.map none)).run P w = .ok m.isNone w := run_equalIn_mapnil 9999 h m w
  simp only [binOp]
  simp [h1]
def mk (S : Bool → Nat → Nat → Bool) : Bool → Bool → Nat → Nat → Bool
  | false, t, k, i => S t i k
  | true, t, i, k => S t i k
def setT (S : Bool → Nat → Nat → Bool) (t : Bool) (i k : Nat) (v : Bool) : Bool → Nat → Nat → Bool := fun t' i' k' => if t' = t ∧ i' = i ∧ k' = k then v else S t' i' k'
theorem mk_set (S : Bool → Nat → Nat → Bool) (t : Bool) (i k : Nat) (v : Bool) : setS (setS (mk S) false t k i v) true t i k v = mk (setT S t i k v) := by
  funext s t' a b
  cases s
  · simp only [setS, mk, setT, Bool.false_eq_true, false_and, if_false, true_and]
    by_cases h1 : t' = t <;> by_cases h2 : a = k <;> by_cases h3 : b = i <;> simp [h1, h2, h3]
  · simp only [setS, mk, setT, Bool.true_eq_false, false_and, if_false, true_and]

variable {base : Nat} {w : World} {blk : Role → Option Nat} {L : Role → List Ent} {c : Role → Nat} {ws : List Nat} {B : Bool → Bool → Nat}
set_option maxHeartbeats 1000000 in
set_option maxRecDepth 100000 in
theorem add_any {S : Bool → Nat → Nat → Bool} (h : St base ws B w (mk S) blk L c) (t : Bool) {k i : Nat} (hk : k < 5) (hi : i ∈ ws) :
    Calls Yba.prog 11 #[.agg #[.map (some (B false t)), .map (some (B true t))], .string (path k), encW i] w fun e w' => e = .returned (.tuple #[]) ∧ Fm base w w' ∧ ∃ blk' L' c', St base ws B w' (mk (setT S t i k true)) blk' L' c' := by
  unfold encW
  have HS : Hid (St base ws B w (mk S) blk L c) := h
  clear h
  have hmm := @run_makeMap Yba.prog
  have he80 := fun m w => run_eql_mapnil Yba.underlying80 m w
  have he79 := fun m w => run_eql_mapnil Yba.underlying79 m w
  obtain ⟨w1, hw1⟩ : ∃ x, x = w.alloc (.cells #[.map (some (B false t)), .map (some (B true t))] 70) := ⟨_, rfl⟩
  have hm1 : Fm base w w1 := by rw [hw1]; exact Fm.alloc _ _
  have hbx : w1.heap[w.heap.size]? = some (.cells #[.map (some (B false t)), .map (some (B true t))] 70 (0, 0)) := by rw [hw1]; exact heap_alloc_new _ _
  have hs1 : St base ws B w1 (mk S) blk L c := by rw [hw1]; exact HS.out.alloc _
  have hl1 := hs1.lookO false t (k := k) hk
  -- the path's side
  obtain ⟨b1, w3, blk3, L3, c3, hst3, hm3, hway⟩ : ∃ (b1 : Nat) (w3 : World) (blk3 : Role → Option Nat) (L3 : Role → List Ent) (c3 : Role → Nat), St base ws B w3 (setS (mk S) false t k i true) blk3 L3 c3 ∧ Fm base w1 w3 ∧
      ((get (L (.o false t)) k = some (.map (some b1)) ∧ (Instr.mapUpdate 80 (.map (some b1)) (encW i) unit).run Yba.prog w1 = .ok () w3) ∨
       (get (L (.o false t)) k = none ∧ b1 = w1.heap.size ∧ ∃ w2, (Instr.mapUpdate 67 (.map (some (B false t))) (.string (path k)) (.map (some w1.heap.size))).run Yba.prog (w1.alloc (.map #[] 0)) = .ok () w2 ∧ (Instr.mapUpdate 80 (.map (some b1)) (encW i) unit).run Yba.prog w2 = .ok () w3 ∧ Fm base w1 w2)) := by
    cases hg : get (L (.o false t)) k with
    | none =>
      obtain ⟨w2, hr2, hm2, L2, c2, hs2, hg2, _⟩ := hs1.newO false t hk hg
      obtain ⟨w3, hr3, hm3, _, L3, c3, hs3, _⟩ := hs2.putI (s := false) (t := t) (k := k) (b := w1.heap.size) (i := i) (upd_same _ _ _) (by rw [hg2]; rfl) hi
      exact ⟨_, w3, _, L3, c3, hs3, hm2.trans hm3, .inr ⟨rfl, rfl, w2, hr2, hr3, hm2⟩⟩
    | some v =>
      obtain ⟨b, hb, rfl⟩ := hs1.at_ hg
      obtain ⟨w3, hr3, hm3, _, L3, c3, hs3, _⟩ := hs1.putI hb (by rw [hg]; rfl) hi
      exact ⟨b, w3, _, L3, c3, hs3, hm3, .inl ⟨rfl, hr3⟩⟩
  -- the watcher's side
  have hl3 := hst3.lookO true t (k := i) hi
  have hbx3 := hm3.block _ _ hbx (.inr (by simp))
  obtain ⟨b2, w5, blk5, L5, c5, hst5, hm5, hway2⟩ : ∃ (b2 : Nat) (w5 : World) (blk5 : Role → Option Nat) (L5 : Role → List Ent) (c5 : Role → Nat), St base ws B w5 (setS (setS (mk S) false t k i true) true t i k true) blk5 L5 c5 ∧ Fm base w3 w5 ∧
      ((get (L3 (.o true t)) i = some (.map (some b2)) ∧ (Instr.mapUpdate 79 (.map (some b2)) (.string (path k)) unit).run Yba.prog w3 = .ok () w5) ∨
       (get (L3 (.o true t)) i = none ∧ b2 = w3.heap.size ∧ ∃ w4, (Instr.mapUpdate 68 (.map (some (B true t))) (encW i) (.map (some w3.heap.size))).run Yba.prog (w3.alloc (.map #[] 0)) = .ok () w4 ∧ (Instr.mapUpdate 79 (.map (some b2)) (.string (path k)) unit).run Yba.prog w4 = .ok () w5)) := by
    cases hg : get (L3 (.o true t)) i with
    | none =>
      obtain ⟨w4, hr4, hm4, L4, c4, hs4, hg4, _⟩ := hst3.newO true t hi hg
      obtain ⟨w5, hr5, hm5, _, L5, c5, hs5, _⟩ := hs4.putI (s := true) (t := t) (k := i) (b := w3.heap.size) (i := k) (upd_same _ _ _) (by rw [hg4]; rfl) hk
      exact ⟨_, w5, _, L5, c5, hs5, hm4.trans hm5, .inr ⟨rfl, rfl, w4, hr4, hr5⟩⟩
    | some v =>
      obtain ⟨b, hb, rfl⟩ := hst3.at_ hg
      obtain ⟨w5, hr5, hm5, _, L5, c5, hs5, _⟩ := hst3.putI hb (by rw [hg]; rfl) hk
      exact ⟨b, w5, _, L5, c5, hs5, hm5, .inl ⟨rfl, hr5⟩⟩
  rw [mk_set] at hst5
  have HE : Hid (Fm base w w5 ∧ ∃ blk' L' c', St base ws B w5 (mk (setT S t i k true)) blk' L' c') := ⟨hm1.trans (hm3.trans hm5), _, _, _, hst5⟩
  have hc1 : w1.cell? ⟨w.heap.size, 0, none⟩ = some (.map (some (B false t))) := by simp [World.cell?, hbx]
  have hc3 : w3.cell? ⟨w.heap.size, 1, none⟩ = some (.map (some (B true t))) := by simp [World.cell?, hbx3]
  have hlt : w.heap.size < w1.heap.size := (Array.getElem?_eq_some_iff.1 hbx).1
  have hlt3 : w.heap.size < w3.heap.size := (Array.getElem?_eq_some_iff.1 hbx3).1
  have HX1 : Hid (∀ w', Fm base w1 w' → w'.cell? ⟨w.heap.size, 0, none⟩ = some (.map (some (B false t)))) := fun w' hm => by simp [World.cell?, hm.block _ _ hbx (.inr (by simp))]
  clear hst5 hm5 hst3 hm3 hs1 hm1 HS hbx hbx3
  unfold unit encW at *
  simp only [tO, encK, encP, encW] at hl1 hl3
  subst hw1
  rcases hway with ⟨hg1, hr1⟩ | ⟨hg1, rfl, w2, hr2, hr1, hm2⟩
  · rw [hg1] at hl1
    simp only [Option.getD_some] at hl1
    rcases hway2 with ⟨hg2, hr4⟩ | ⟨hg2, rfl, w4, hr4, hr5⟩
    · rw [hg2] at hl3
      simp only [Option.getD_some] at hl3
      clear hg1 hg2
      go_enter Yba.func11, Yba.ntmps11
      go_wp2
      go_end0
      exact ⟨rfl, HE.out⟩
    · rw [hg2] at hl3
      simp only [Option.getD_none] at hl3
      clear hg1 hg2
      go_enter Yba.func11, Yba.ntmps11
      go_wp2
      go_end0
      exact ⟨rfl, HE.out⟩
  · rw [hg1] at hl1
    simp only [Option.getD_none] at hl1
    simp only [World.size_alloc] at hr2 hr1
    rcases hway2 with ⟨hg2, hr4⟩ | ⟨hg2, rfl, w4, hr4, hr5⟩
    · rw [hg2] at hl3
      simp only [Option.getD_some] at hl3
      clear hg1 hg2
      go_enter Yba.func11, Yba.ntmps11
      go_wp2
      go_end0
      exact ⟨rfl, HE.out⟩
    · rw [hg2] at hl3
      simp only [Option.getD_none] at hl3
      clear hg1 hg2
      go_enter Yba.func11, Yba.ntmps11
      go_wp2
      go_end0
      exact ⟨rfl, HE.out⟩
end Go.Proofs.Ybulkfbw.lawS0295AFires
