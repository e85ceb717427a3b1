/-
  LawS0295AFires: what drop and take do. By an AI agent.
-/
import Derived.Test.YbulkfbwFireAdd
namespace Go.Proofs.Ybulkfbw.lawS0295AFires
open Go.ChangeShapes Go.WideShapes Go.RowKit
open Go.ChangeMaps (setBlock)
set_option linter.unusedVariables false
variable {base : Nat} {w : World} {blk : Role → Option Nat} {L : Role → List Ent} {c : Role → Nat} {ws : List Nat} {B : Bool → Bool → Nat}

/-- One side of drop: the inner map loses i; where it is empty then the outer one loses it. -/
theorem St.dropSide {SS : Bool → Bool → Nat → Nat → Bool} (h : St base ws B w SS blk L c) (s t : Bool) {k i b : Nat} (hk : gk ws s k) (hi : gk ws (!s) i) (hb : blk (.i s t k) = some b) (ty : TypeId) :
    ∃ w2 w3 L3, (Builtin.delete_ #[tI s, kt (!s)] ty #[.map (some b), encK (!s) i]).run Yba.prog w = .ok (.tuple #[]) w2 ∧ Fm base w w2 ∧ Fm base w w3 ∧
      St base ws B w3 (setS SS s t k i false) blk L3 c ∧ L3 (.i s t k) = del (L (.i s t k)) i ∧ (∀ r, r ≠ .i s t k → r ≠ .o s t → L3 r = L r) ∧
      ((∀ ty', (Builtin.len_ #[tI s] ty' #[.map (some b)]).run Yba.prog w2 = .ok (.int .i64 (del (L (.i s t k)) i).length) w2) ∧ ((del (L (.i s t k)) i).length ≠ 0 ∧ w3 = w2 ∨
       (del (L (.i s t k)) i).length = 0 ∧ ∀ ty', (Builtin.delete_ #[tO s, kt s] ty' #[.map (some (B s t)), encK s k]).run Yba.prog w2 = .ok (.tuple #[]) w3)) := by
  obtain ⟨w2, hr2, hm2, _, hs2⟩ := h.delI (i := i) hb hi ty
  have hlen := fun ty' => hs2.lenI hb ty'
  simp only [upd_same] at hlen
  by_cases h0 : (del (L (.i s t k)) i).length = 0
  · have hn : upd L (.i s t k) (del (L (.i s t k)) i) (.i s t k) = [] := by rw [upd_same]; exact List.eq_nil_of_length_eq_zero h0
    obtain ⟨w3, hr3, hm3, _, hs3⟩ := hs2.delO s t hk hn 0
    refine ⟨w2, w3, _, hr2, hm2, hm2.trans hm3, hs3, ?_, ?_, hlen, .inr ⟨h0, fun ty' => hr3⟩⟩
    · rw [upd_other _ (by simp), upd_same]
    · intro r h1 h2
      rw [upd_other _ h2, upd_other _ h1]
  · exact ⟨w2, w2, _, hr2, hm2, hm2, hs2, upd_same _ _ _, fun r h1 _ => upd_other _ h1 _, hlen, .inl ⟨h0, rfl⟩⟩

set_option maxHeartbeats 1000000 in
set_option maxRecDepth 100000 in
theorem drop_any {S : Bool → Nat → Nat → Bool} (h : St base ws B w (mk S) blk L c) (t : Bool) {k i : Nat} (hk : k < 5) (hi : i ∈ ws) (hS : S t i k = true) :
    Calls Yba.prog 45 #[.agg #[.map (some (B false t)), .map (some (B true t))], .string (path k), encW i] w fun e w' => e = .returned (.tuple #[]) ∧ Fm base w w' ∧ ∃ L', St base ws B w' (mk (setT S t i k false)) blk L' c ∧ L' (.i false t k) = del (L (.i false t k)) i ∧ L' .x = L .x := by
  have hn80 := fun m w => run_neq_mapnil Yba.underlying80 m w
  have hn79 := fun m w => run_neq_mapnil Yba.underlying79 m w
  obtain ⟨w1, hw1⟩ : ∃ x, x = w.alloc (.cells #[.map (some (B false t)), .map (some (B true t))] 70) := ⟨_, rfl⟩
  have hm1 : Fm base w w1 := by rw [hw1]; exact Fm.alloc _ _
  have hbx : w1.heap[w.heap.size]? = some (.cells #[.map (some (B false t)), .map (some (B true t))] 70 (0, 0)) := by rw [hw1]; exact heap_alloc_new _ _
  have hs1 : St base ws B w1 (mk S) blk L c := by rw [hw1]; exact h.alloc _
  have hl1 := hs1.lookO false t (k := k) hk
  obtain ⟨p1, p2⟩ := (hs1.rel false t k i).1 hS
  obtain ⟨v1, hv1⟩ := Option.isSome_iff_exists.1 p1
  obtain ⟨b1, hb1, rfl⟩ := hs1.at_ hv1
  obtain ⟨w2, w3, L3, hr2, hm2, hm3, hs3, hL3, hL3', hlen2, hway⟩ := hs1.dropSide false t (k := k) (i := i) hk hi hb1 0
  have hS3 : setS (mk S) false t k i false true t i k = true := by simp [setS, mk, hS]
  obtain ⟨q1, q2⟩ := (hs3.rel true t i k).1 hS3
  have hl3 := hs3.lookO true t (k := i) hi
  obtain ⟨v2, hv2⟩ := Option.isSome_iff_exists.1 q1
  obtain ⟨b2, hb2, rfl⟩ := hs3.at_ hv2
  obtain ⟨w4, w5, L5, hr4, hm4, hm5, hs5, hL5, hL5', hlen4, hway2⟩ := hs3.dropSide true t (k := i) (i := k) hi hk hb2 0
  rw [mk_set] at hs5
  have HE : Hid (Fm base w w5 ∧ ∃ L', St base ws B w5 (mk (setT S t i k false)) blk L' c ∧ L' (.i false t k) = del (L (.i false t k)) i ∧ L' .x = L .x) :=
    ⟨hm1.trans (hm3.trans hm5), L5, hs5, by rw [hL5' _ (by simp) (by simp), hL3], by rw [hL5' _ (by simp) (by simp), hL3' _ (by simp) (by simp)]⟩
  have hc1 : w1.cell? ⟨w.heap.size, 0, none⟩ = some (.map (some (B false t))) := by simp [World.cell?, hbx]
  have hc2 : w2.cell? ⟨w.heap.size, 0, none⟩ = some (.map (some (B false t))) := by simp [World.cell?, hm2.block _ _ hbx (.inr (by simp))]
  have hbx3 := hm3.block _ _ hbx (.inr (by simp))
  have hc3 : w3.cell? ⟨w.heap.size, 1, none⟩ = some (.map (some (B true t))) := by simp [World.cell?, hbx3]
  have hc4 : w4.cell? ⟨w.heap.size, 1, none⟩ = some (.map (some (B true t))) := by simp [World.cell?, hm4.block _ _ hbx3 (.inr (by simp))]
  have hlt2 : w.heap.size < w2.heap.size := World.block_lt_of_cell? w2 _ hc2
  have hlt3 : w.heap.size < w3.heap.size := World.block_lt_of_cell? w3 _ hc3
  have hlt4 : w.heap.size < w4.heap.size := World.block_lt_of_cell? w4 _ hc4
  clear hs5 hL5 hL5' hs3 hL3 hL3' hs1 hm1 hm2 hm3 hm4 hm5 hbx hbx3 p1 p2 q1 q2 hS3 h hb1 hb2
  rw [hv1] at hl1
  rw [hv2] at hl3
  simp only [tO, tI, kt, encK, encP, Bool.not_false, Bool.not_true, Option.getD_some] at hl1 hl3 hr2 hlen2 hway hr4 hlen4 hway2
  unfold encW at *
  clear hv1 hv2
  generalize (del (L (.i false t k)) i).length = n1 at *
  generalize (del (L3 (.i true t i)) k).length = n2 at *
  subst hw1
  rcases hway with ⟨hz, rfl⟩ | ⟨rfl, hd1⟩
  · have hz' : ((n1 : Int) == 0) = false := by simp; omega
    rcases hway2 with ⟨hy, rfl⟩ | ⟨rfl, hd2⟩
    · have hy' : ((n2 : Int) == 0) = false := by simp; omega
      go_enter Yba.func45, Yba.ntmps45
      go_wp2
      go_end0
      exact ⟨rfl, HE.out⟩
    · go_enter Yba.func45, Yba.ntmps45
      go_wp2
      go_end0
      exact ⟨rfl, HE.out⟩
  · rcases hway2 with ⟨hy, rfl⟩ | ⟨rfl, hd2⟩
    · have hy' : ((n2 : Int) == 0) = false := by simp; omega
      go_enter Yba.func45, Yba.ntmps45
      go_wp2
      go_end0
      exact ⟨rfl, HE.out⟩
    · go_enter Yba.func45, Yba.ntmps45
      go_wp2
      go_end0
      exact ⟨rfl, HE.out⟩
end Go.Proofs.Ybulkfbw.lawS0295AFires
