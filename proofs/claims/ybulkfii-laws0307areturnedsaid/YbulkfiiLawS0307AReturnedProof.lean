/-
  LawS0307AReturned: the row's frame round the walk. By an AI agent.
-/
import Derived.Test.YbulkfiiRows
import Derived.Test.YbulkfiiRetWalk
import Derived.WalkKit
import Derived.WalkSpells
import Derived.ProofKit
import Derived.OpenShut
import Derived.ChangeOld
import Derived.Below
import Derived.Deep.SlicePairs
namespace Go.Proofs.Ybulkfii.lawS0307AReturned
open Go.ChangeShapes Go.WideShapes Go.ChangeAt Go.RowKit
set_option linter.unusedVariables false

theorem own : ownKnob Yba.prog.godebug = none := by kernel_rfl
theorem laidOut : laidOutB Yba.prog = true := by kernel_rfl

/-- What the walk is told of the writes. -/
def IsWrites (w : World) (a : Option Addr) (n : Nat) (V : Nat → Int) (Pd : Nat → Bool) : Prop :=
  (∀ i, 0 ≤ V i ∧ V i ≤ 255) ∧ (0 < n → ∃ b o, a = some ⟨b, o, none⟩ ∧ ∀ i, i < n → w.cell? ⟨b, o + i * 2, none⟩ = some (.int .u8 (V i)) ∧ w.cell? ⟨b, o + i * 2 + 1, none⟩ = some (.bool (Pd i)))
/-- .. and of the reads. -/
def IsReads (w : World) (a : Option Addr) (n : Nat) (R : Nat → Int) : Prop :=
  (∀ i, 0 ≤ R i ∧ R i ≤ 255) ∧ (0 < n → ∃ b o, a = some ⟨b, o, none⟩ ∧ ∀ i, i < n → w.cell? ⟨b, o + i, none⟩ = some (.int .u8 (R i)))

theorem list5 {us : List Value} (h : us.length = 5) : ∃ u0 u1 u2 u3 u4, us = [u0, u1, u2, u3, u4] := by
  match us, h with
  | [u0, u1, u2, u3, u4], _ => exact ⟨u0, u1, u2, u3, u4, rfl⟩
def uOf : Value → Int | .int _ z => z | _ => 0
def bOf : Value → Bool | .bool b => b | _ => false

set_option maxRecDepth 100000 in
theorem walk_big (aw ar : Option Addr) (n cw m cr : Nat) (p : Int) (A : Nat → Int) (w : World) (h : 1024 < n ∨ 1024 < m) :
    Calls Yba.prog 3 #[.slice aw n cw, .slice ar m cr, .int .u8 p, .agg #[.int .i64 (A 0), .int .i64 (A 1), .int .i64 (A 2), .int .i64 (A 3), .int .i64 (A 4)]] w fun e w' => e = .returned (.bool true) ∧ Below w.heap.size w w' := by
  by_cases h1 : 1024 < (n : Int)
  · go_enter Yba.func3, Yba.ntmps3
    go_wp2
    go_ret
    exact ⟨rfl, (Below.refl _ _).alloc (Nat.le_refl _) _⟩
  · have h2 : 1024 < (m : Int) := by omega
    go_enter Yba.func3, Yba.ntmps3
    go_wp2
    go_ret
    exact ⟨rfl, (Below.refl _ _).alloc (Nat.le_refl _) _⟩

theorem walk_all (aw ar : Option Addr) (n cw m cr : Nat) (p : Int) (A : Nat → Int) (V : Nat → Int) (Pd : Nat → Bool) (R : Nat → Int) (w : World) (hp : 0 ≤ p ∧ p ≤ 255) (hw : IsWrites w aw n V Pd) (hr : IsReads w ar m R) :
    Calls Yba.prog 3 #[.slice aw n cw, .slice ar m cr, .int .u8 p, .agg #[.int .i64 (A 0), .int .i64 (A 1), .int .i64 (A 2), .int .i64 (A 3), .int .i64 (A 4)]] w fun e w' => e = .returned (.bool true) ∧ Below w.heap.size w w' := by
  by_cases h : 1024 < n ∨ 1024 < m
  · exact walk_big aw ar n cw m cr p A w h
  · exact walk aw ar n cw m cr p A V Pd w (by omega) (by omega) hp.1 hp.2 hw.1 R hr.1 hw.2 hr.2

/-! ### THE ROW's STEP -/
set_option maxRecDepth 100000 in
theorem lifted (os : Os) (started : os.Started) (H : Type) (enc : TypeId × Value → H) :
    ReturnsInHanded {} Yba.checked os 3 .any (Rows.lawS0307AReturnedSpec.pre6 enc Yba.prog Yba.f3 Rows.lawS0307AReturnedRow.domain false) (Rows.lawS0307AReturnedSpec.post enc Yba.prog Yba.f3 false true false false) := by
  refine returnsInHanded_of_change (C := Yba.checked) own started (by kernel_rfl) Yba.func3
    (ChangeSpec.witness6 (enc := enc) (C := Yba.checked) false ⟨#[], #[.slice none 0 0, .slice none 0 0, .int .u8 0, .agg #[.int .i64 0, .int .i64 0, .int .i64 0, .int .i64 0, .int .i64 0]], []⟩ 8 (by kernel_rfl) (by kernel_rfl) (by kernel_rfl) (by kernel_rfl)) ?_
  intro W base args ds gs before hval0 hW hcnd _
  have hval : ∀ (j : Nat) t v, Yba.f3.params[j]? = some t → args[j]? = some v → Value.okWide Yba.prog W .any base t v := hval0
  have hW' := hW
  obtain ⟨p, q, hA0, hV, rfl, hfz, hnd⟩ := hW
  have hA : DataW.TrodAll enc Yba.prog W 0 (fun _ => true) true Yba.f3.params.toList args.toList ds p := hA0
  rw [Yba.params3] at hA hval
  obtain ⟨v0, vs0, d0, ds0, p0, q0, hargs, rfl, rfl, h0, r0⟩ := trodAll_cons hA
  obtain ⟨v1, vs1, d1, ds1, p1, q1, rfl, rfl, rfl, h1, r1⟩ := trodAll_cons r0
  obtain ⟨v2, vs2, d2, ds2, p2, q2, rfl, rfl, rfl, h2, r2⟩ := trodAll_cons r1
  obtain ⟨v3, vs3, d3, ds3, p3, q3, rfl, rfl, rfl, h3, r3⟩ := trodAll_cons r2
  obtain ⟨rfl, rfl, rfl⟩ := trodAll_nil r3
  obtain rfl : args = #[v0, v1, v2, v3] := by cases args; simp_all
  obtain ⟨rfl, rfl⟩ := trodVars_none hV
  obtain ⟨a0, len0, cap0, rfl⟩ := okWide_slice Yba.underlying22 (hval 0 22 v0 rfl rfl)
  have k0 := h0
  have lt0 : ∀ x ∈ p0, x.block < W.heap.size := by obtain ⟨m, hm⟩ := k0; exact DataW.trod_lt m _ _ _ hm
  obtain ⟨V, Pd, w0⟩ : ∃ V Pd, IsWrites W a0 len0 V Pd := by
    obtain ⟨fuel, hf⟩ := h0
    rcases Go.Deep.open_slice_pairs Yba.underlying22 Yba.underlying36 (by kernel_rfl) rfl rfl (by kernel_rfl) (by kernel_rfl) hf with ⟨hcs, _⟩ | ⟨x, l, c, mm, nn, V0, V1, D0, D1, P0, P1, hcs, _, hl, hm, hmm, _, hcell⟩
    · simp [Value.cells] at hcs
      obtain ⟨rfl, rfl, rfl⟩ := hcs
      exact ⟨fun _ => 0, fun _ => false, fun i => by simp, fun h => by omega⟩
    · simp [Value.cells] at hcs
      obtain ⟨rfl, rfl, rfl⟩ := hcs
      have hlm : len0 ≤ mm := by rw [hmm]; simp; omega
      have each : ∀ i, i < len0 → V0 i = .int .u8 (uOf (V0 i)) ∧ (Lit.int .u8 (uOf (V0 i))).wf = true ∧ V1 i = .bool (bOf (V1 i)) := by
        intro i hi
        obtain ⟨_, _, t0, t1⟩ := hcell i (by omega)
        obtain ⟨z, hz, _, hzw⟩ := DataW.trod_int Yba.underlying5 t0
        obtain ⟨b, hb, _⟩ := DataW.trod_bool Yba.underlying4 t1
        simp at hz hb
        rw [hz, hb]
        exact ⟨rfl, hzw, rfl⟩
      refine ⟨fun i => if i < len0 then uOf (V0 i) else 0, fun i => bOf (V1 i), fun i => ?_, fun h => ?_⟩
      · by_cases hi : i < len0
        · simp only [hi, if_true]
          exact bounds_u8 (each i hi).2.1
        · simp [hi]
      · obtain ⟨b, o, spot⟩ := x
        have hspot : spot = none := by simpa [Addr.add] using World.cell?_spot (hcell 0 (by omega)).1
        subst hspot
        refine ⟨b, o, rfl, fun i hi => ?_⟩
        obtain ⟨c0, c1, _, _⟩ := hcell i (by omega)
        rw [Addr.add_lit] at c0 c1
        simp only [hi, if_true]
        rw [← (each i hi).1, ← (each i hi).2.2, Nat.add_assoc]
        exact ⟨c0, c1⟩
  obtain ⟨a1, len1, cap1, rfl⟩ := okWide_slice Yba.underlying23 (hval 1 23 v1 rfl rfl)
  have k1 := h1
  have lt1 : ∀ x ∈ p1, x.block < W.heap.size := by obtain ⟨m, hm⟩ := k1; exact DataW.trod_lt m _ _ _ hm
  obtain ⟨R, w1⟩ : ∃ R, IsReads W a1 len1 R := by
    obtain ⟨fuel, hf⟩ := h1
    rcases open_ints Yba.underlying23 Yba.underlying5 (by kernel_rfl) hf with ⟨hcs, _⟩ | ⟨x, l, c, zs, hcs, _, hl, hm, hz, _, hcell, hwz⟩
    · simp [Value.cells] at hcs
      obtain ⟨rfl, rfl, rfl⟩ := hcs
      exact ⟨fun _ => 0, fun i => by simp, fun h => by omega⟩
    · simp [Value.cells] at hcs
      obtain ⟨rfl, rfl, rfl⟩ := hcs
      have hzl : zs.length = cap1 := by simpa using hz
      refine ⟨fun i => zs.getD i 0, fun i => ?_, fun h => ?_⟩
      · by_cases hi : i < zs.length
        · have e : zs.getD i 0 = zs[i] := by simp [List.getD, hi]
          show 0 ≤ zs.getD i 0 ∧ zs.getD i 0 ≤ 255
          rw [e]
          exact bounds_u8 (hwz _ (List.getElem_mem hi))
        · have e : zs.getD i 0 = 0 := by simp [List.getD, hi]
          show 0 ≤ zs.getD i 0 ∧ zs.getD i 0 ≤ 255
          rw [e]
          decide
      · obtain ⟨b, o, spot⟩ := x
        have hspot : spot = none := by simpa [Addr.add] using World.cell?_spot (hcell 0 (by omega))
        subst hspot
        refine ⟨b, o, rfl, fun i hi => ?_⟩
        have c0 := hcell i (by omega)
        rw [Addr.add_lit] at c0
        exact c0
  obtain ⟨pz, rfl, rfl, rfl, hpw⟩ := open_int Yba.underlying5 (hval 2 5 v2 rfl rfl) h2
  have k3 := h3
  have lt3 : ∀ x ∈ p3, x.block < W.heap.size := by obtain ⟨m, hm⟩ := k3; exact DataW.trod_lt m _ _ _ hm
  obtain ⟨A, rfl⟩ : ∃ A : Nat → Int, v3 = .agg #[.int .i64 (A 0), .int .i64 (A 1), .int .i64 (A 2), .int .i64 (A 3), .int .i64 (A 4)] := by
    have hv := hval 3 24 v3 rfl rfl
    unfold Value.okWide at hv
    rw [Yba.underlying24] at hv
    obtain ⟨cs, rfl, hcs, _⟩ := hv
    have hc5 : cs.size = 5 := hcs.trans (by kernel_rfl)
    obtain ⟨fuel, hf⟩ := h3
    obtain ⟨xs, mm, _, _, _, hxl, hx⟩ := DataW.trod_array Yba.underlying24 hf
    have c1 : Yba.prog.cellsOf 3 = 1 := by kernel_rfl
    have each : ∀ i, i < 5 → ∃ z, cs[i]? = some (.int .i64 z) := by
      intro i hi
      have h := hx i hi
      rw [c1] at h
      have hxi : ∃ y, xs[i]? = some y := ⟨xs[i]'(by omega), List.getElem?_eq_getElem (by omega)⟩
      obtain ⟨y, hy⟩ := hxi
      rw [hy] at h
      obtain ⟨z, hz, _, _⟩ := DataW.trod_int Yba.underlying3 h
      refine ⟨z, ?_⟩
      have hcl : i < cs.toList.length := by simp; omega
      simp only [Value.cells, Nat.mul_one] at hz
      rw [List.drop_eq_getElem_cons hcl] at hz
      simp at hz
      rw [← hz]
      simp
    obtain ⟨l⟩ := cs
    simp at hc5
    obtain ⟨y0, y1, y2, y3, y4, rfl⟩ := list5 hc5
    · obtain ⟨z0, e0⟩ := each 0 (by omega)
      obtain ⟨z1, e1⟩ := each 1 (by omega)
      obtain ⟨z2, e2⟩ := each 2 (by omega)
      obtain ⟨z3, e3⟩ := each 3 (by omega)
      obtain ⟨z4, e4⟩ := each 4 (by omega)
      simp at e0 e1 e2 e3 e4
      subst e0 e1 e2 e3 e4
      exact ⟨fun i => match i with | 0 => z0 | 1 => z1 | 2 => z2 | 3 => z3 | _ => z4, rfl⟩
  clear hA0 hval0
  refine (walk_all a0 a1 len0 cap0 len1 cap1 pz A V Pd R W (bounds_u8 hpw) w0 w1).mono fun e W' ⟨he, bel⟩ => ?_
  subst he
  exact ⟨_, rfl, _, _, _, [], _, [], hW', trodAll_mk1 (shut_bool Yba.underlying4 _), (trodAll_cons_mk (Below.trod laidOut (by kernel_rfl) (of_decide_eq_true (by kernel_rfl)) k0 bel lt0) (trodAll_cons_mk (Below.trod laidOut (by kernel_rfl) (of_decide_eq_true (by kernel_rfl)) k1 bel lt1) (trodAll_cons_mk (Below.trod laidOut (by kernel_rfl) (of_decide_eq_true (by kernel_rfl)) h2 bel (by simp)) (trodAll_cons_mk (Below.trod laidOut (by kernel_rfl) (of_decide_eq_true (by kernel_rfl)) k3 bel lt3) trodAll_mk0)))), rfl, bel.frame _, fun h => by cases h⟩

theorem over : Rows.lawS0307AReturnedRow.holds Yba.pinned (OpenSpec.ofChange Rows.lawS0307AReturnedSpec) :=
  OpenClaim.holds_of_wide 3 Yba.f3 rfl rfl rfl rfl rfl rfl rfl ⟨rfl, rfl, rfl, rfl, rfl⟩ rfl rfl rfl rfl rfl (by kernel_rfl) Yba.func3 (by kernel_rfl)
    (of_decide_eq_true (by kernel_rfl)) (by unfold Func.isWrapper; first | (rw [if_pos (by decide +kernel)]; kernel_rfl) | (rw [if_neg (by decide +kernel)]; exact ⟨rfl, rfl⟩))
    (fun os started H enc _ => lifted os started H enc)

/-- ████ THE STATEMENT ████ -/
theorem proved : Rows.LawS0307AReturnedSaid := over
end Go.Proofs.Ybulkfii.lawS0307AReturned
