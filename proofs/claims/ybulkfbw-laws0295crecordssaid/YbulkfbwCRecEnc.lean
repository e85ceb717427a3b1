/-
  LawS0295CRecords: encodeSessions: over a map, over nil. By an AI agent.
-/
import Derived.Test.YbulkfbwCRecCalls
import Derived.Test.YbulkfbwCRecPlain
import Derived.OpenShut
import Derived.Laws.IdiomRangeMap
namespace Go.Proofs.Ybulkfbw.lawS0295CRecords
open Go.ChangeShapes Go.WideShapes Go.ChangeAt Go.RowKit
open Go.Maps (Keyed int_keyed)
set_option linter.unusedVariables false
theorem law : Keyed Yba.prog 2 := int_keyed Yba.underlying2

/-- The message that holds the map, all else zero. -/
def msg (mv : Value) : Value := .agg #[.int .i32 0, .int .i64 0, .int .i64 0, .int .i64 0, .int .i64 0, .int .i64 0, .slice none 0 0, .bool false, .int .i64 0, .int .i32 0, .int .i64 0, .int .i64 0, .int .i32 0, .slice none 0 0, mv]

/-- A record: the key in eight bytes, the age in four. -/
def rcv (p : Int × Int) : List Value := b8 (p.1 % 18446744073709551616) ++ b4 (wrap32 (p.2.tdiv 1000000) % 4294967296)

theorem map_ne {w : World} {P : Program} {k : TypeId} {R : Value → Option (DataW Unit × List MemPlace)} {B n : Nat} {D : DataW Unit} (hown : w.ownsMap P k R B n D) {eb o : Nat} {v : Value} (c0 : w.cell? ⟨eb, o, none⟩ = some v) : B ≠ eb := by
  obtain ⟨es, clock, hb, _⟩ := hown
  intro e
  subst e
  simp [World.cell?, hb] at c0
theorem iter_ne {w : World} {P : Program} {k : TypeId} {R : Value → Option (DataW Unit × List MemPlace)} {B r n cnt : Nat} {D : DataW Unit} {left : Lit → Bool} (h : w.ranges P k R B r n D left cnt) {eb o : Nat} {v : Value} (c0 : w.cell? ⟨eb, o, none⟩ = some v) : r ≠ eb := by
  obtain ⟨es, clock, since, seen, c1, _, _, _, _, hb, _⟩ := h
  intro e
  subst e
  simp [World.cell?, hb] at c0
theorem row_ne {w : World} {base : Nat} {e : TypeId} {size : Nat} {v : Value} {n : Nat} {xs : List Value} (h : w.ownsRow base e size v n xs) {r : Nat} {o : Obj} (hr : w.heap[r]? = some o) (ho : ∀ cs t m, o ≠ .cells cs t m) : some r ≠ v.ownBlock := by
  rcases h.2 with ⟨hv, _⟩ | ⟨g, cap, cur, hv, _, hg, _⟩
  · rw [hv]; simp [Value.ownBlock]
  · rw [hv]
    intro e1
    simp [Value.ownBlock] at e1
    subst e1
    rw [hr] at hg
    cases hg
    exact ho _ _ _ rfl
theorem map_row {w : World} {P : Program} {k : TypeId} {R : Value → Option (DataW Unit × List MemPlace)} {B m : Nat} {D : DataW Unit} (hown : w.ownsMap P k R B m D) {base : Nat} {e : TypeId} {size : Nat} {v : Value} {n : Nat} {xs : List Value} (h : w.ownsRow base e size v n xs) : some B ≠ v.ownBlock := by
  obtain ⟨es, clock, hb, _⟩ := hown
  exact row_ne h hb (by intros; simp)
theorem iter_row {w : World} {P : Program} {k : TypeId} {R : Value → Option (DataW Unit × List MemPlace)} {B r m cnt : Nat} {D : DataW Unit} {left : Lit → Bool} (hr : w.ranges P k R B r m D left cnt) {base : Nat} {e : TypeId} {size : Nat} {v : Value} {n : Nat} {xs : List Value} (h : w.ownsRow base e size v n xs) : some r ≠ v.ownBlock := by
  obtain ⟨es, clock, since, seen, c1, _, _, _, _, hb, _⟩ := hr
  exact row_ne h hb (by intros; simp)

structure Mid (w : World) (eb B r n : Nat) (D : DataW Unit) (left : Lit → Bool) (cnt : Nat) (v : Value) (m : Nat) (xs : List Value) (W : World) : Prop where
  rng : W.ranges Yba.prog 2 (plainElem Yba.prog 93) B r n D left cnt
  row : W.ownsRow (w.heap.size + 1) 5 1 v m xs
  cell : W.cell? ⟨eb, 0, none⟩ = some v
  frz : W.frozen? ⟨eb, 0, none⟩ = false
  grown : w.grownBy W (some eb)
theorem Mid.next {w : World} {eb B r n : Nat} {D : DataW Unit} {left : Lit → Bool} {cnt : Nat} {v : Value} {m : Nat} {xs : List Value} {W : World} (h : Mid w eb B r n D left cnt v m xs W)
    {W' w1 : World} {v' : Value} {m' : Nat} {xs' : List Value} (hg1 : W.grownBy w1 v.ownBlock) (hg2 : w1.grownBy W' (some eb)) (hc : W'.cell? ⟨eb, 0, none⟩ = some v') (hf : W'.frozen? ⟨eb, 0, none⟩ = false) (hrow : W'.ownsRow (w.heap.size + 1) 5 1 v' m' xs') :
    Mid w eb B r n D left cnt v' m' xs' W' := by
  have hB : some B ≠ v.ownBlock := map_row h.rng.owns h.row
  have hr : some r ≠ v.ownBlock := iter_row h.rng h.row
  have hBe : B ≠ eb := map_ne h.rng.owns h.cell
  have hre : r ≠ eb := iter_ne h.rng h.cell
  refine ⟨(h.rng.kept hg1 hB hr).kept hg2 (by simpa using hBe) (by simpa using hre), hrow, hc, hf, (h.grown.andThen hg1 ?_).andThen hg2 (by simp)⟩
  intro j hj
  left
  have := (h.row.lt j hj).1
  omega

/-- What holds at the head of each round of encodeSessions's loop. -/
def EncRel (w : World) (eb B r n : Nat) (D : DataW Unit) (wr : World) : Prop :=
  ∃ left cnt rs v, wr.ranges Yba.prog 2 (plainElem Yba.prog 93) B r n D left cnt ∧ Recs D left rs ∧ rs.length + cnt ≤ Maps.size D ∧ wr.cell? ⟨eb, 0, none⟩ = some v ∧ wr.frozen? ⟨eb, 0, none⟩ = false ∧
    wr.ownsRow (w.heap.size + 1) 5 1 v (4 + 12 * rs.length) (b4 (Maps.size D) ++ rs.flatMap rcv) ∧ w.grownBy wr (some eb)

set_option maxHeartbeats 1000000 in
set_option maxRecDepth 100000 in
theorem encode_map (B eb n : Nat) (D : DataW Unit) (w : World) (hown : w.ownsMap Yba.prog 2 (plainElem Yba.prog 93) B n D) (hn : n ≤ 1024) (c0 : w.cell? ⟨eb, 0, none⟩ = some (.slice none 0 0)) (f0 : w.frozen? ⟨eb, 0, none⟩ = false) :
    Calls Yba.prog 15 #[msg (.map (some B)), .pointer (some ⟨eb, 0, none⟩)] w fun e w' => e = .returned (.tuple #[]) ∧
      ∃ v' rs, rs.length = Maps.size D ∧ Recs D (fun _ => false) rs ∧ w'.cell? ⟨eb, 0, none⟩ = some v' ∧ w'.ownsRow (w.heap.size + 1) 5 1 v' (4 + 12 * rs.length) (b4 (Maps.size D) ++ rs.flatMap rcv) ∧ w.grownBy w' (some eb) := by
  have hsz := size_le hown
  have hel : eb < w.heap.size := World.block_lt_of_cell? w _ c0
  have hBl := hown.lt
  have HO : Hid (w.ownsMap Yba.prog 2 (plainElem Yba.prog 93) B n D) := hown
  unfold msg
  go_enter Yba.func15, Yba.ntmps15
  go_wp2_with (first
    | (at_len; go_must (refine wpList_len_own _ rfl _ 92 rfl 2 93 Yba.underlying92 _ B n D rfl (hown.alloc _) ?_)))
  clear hown
  refine (int_any eb (w.heap.size + 1) 0 _ [] (Maps.size D) _ (by omega) (by omega) ((World.cell?_alloc_past _ _ _ hel).trans c0) ((World.frozen?_alloc_past _ _ _ hel).trans f0) (World.ownsRow_nil _ _ _ _) (by simp) (by omega) (by omega)).mono ?_
  rintro e w2 ⟨rfl, v2, w1, hg1, hg2, k2, z2, hown2⟩
  have hBe : B ≠ eb := map_ne HO.out c0
  have hm2 : w2.ownsMap Yba.prog 2 (plainElem Yba.prog 93) B n D := ((HO.out.alloc _).kept hg1 (by simp [Value.ownBlock])).kept hg2 (by simp [hBe])
  have hc2 : w2.cell? ⟨w.heap.size, 14, none⟩ = some (.map (some B)) := by
    rw [grown_cell hg2 w.heap.size 14 (by have := hg1.size; simp at this; omega) (by simp; omega), grown_cell hg1 w.heap.size 14 (by simp) (by simp [Value.ownBlock])]
    simp
  have HG2 : Hid (w.grownBy w2 (some eb)) := by
    unfold Hid
    exact ((World.grownBy_alloc w _ _).andThen hg1 (by simp [Value.ownBlock])).andThen hg2 (by simp)
  have hmod : ((Maps.size D : Nat) : Int) % 4294967296 = (Maps.size D : Int) := by omega
  rw [hmod] at hown2
  have HO2 : Hid (w2.ownsRow (w.heap.size + 1) 5 1 v2 (0 + 4) ([] ++ b4 (Maps.size D))) := hown2
  have HM2 : Hid (w2.ownsMap Yba.prog 2 (plainElem Yba.prog 93) B n D) := hm2
  have HK2 : Hid (w2.cell? ⟨eb, 0, none⟩ = some v2) := k2
  have HZ2 : Hid (w2.frozen? ⟨eb, 0, none⟩ = false) := z2
  clear hown2 hm2 hg1 hg2 k2 z2 hmod c0 f0
  go_wp2_with (first
    | (at_range; go_must (refine wpList_range_own _ rfl _ 92 rfl 2 93 law Yba.underlying92 _ B n D rfl HM2.out ?_); intro w0 hrg0 hg0 hs0))
  go_frame
  have HR0 : Hid (EncRel w eb B w2.heap.size n D w0) := by
    have hel2 : eb < w2.heap.size := World.block_lt_of_cell? w2 _ HK2.out
    refine ⟨Maps.has D, Maps.size D, [], v2, hrg0, Recs.start D, by simp, ?_, ?_, ?_, HG2.out.andThen hg0 (by simp)⟩
    · rw [grown_cell hg0 eb 0 hel2 (by simp)]; exact HK2.out
    · rw [grown_frozen hg0 eb 0 hel2 (by simp)]; exact HZ2.out
    · simpa using HO2.out.kept hg0 (by have := HO2.out.lt; cases h : v2.ownBlock <;> simp)
  have hws : w.heap.size ≤ w2.heap.size := HG2.out.size
  clear hrg0 hg0 hs0 HO2 HM2 HK2 HZ2 hc2 HG2
  go_loopw [4] (fun _ wr => EncRel w eb B w2.heap.size n D wr) (fun _ wr => wr.rangeLeft B w2.heap.size)
  case atStart => exact HR0.out
  case round =>
    obtain ⟨left, cnt, rs, v, hrg, hR, hcnt, hk, hz, hrow, hgr⟩ := hrel
    have HHr : Hid (wr.ranges Yba.prog 2 (plainElem Yba.prog 93) B w2.heap.size n D left cnt) := hrg
    have HRw : Hid (wr.ownsRow (w.heap.size + 1) 5 1 v (4 + 12 * rs.length) (b4 (Maps.size D) ++ rs.flatMap rcv)) := hrow
    have HHR : Hid (Recs D left rs) := hR
    have HHk : Hid (wr.cell? ⟨eb, 0, none⟩ = some v) := hk
    have HHz : Hid (wr.frozen? ⟨eb, 0, none⟩ = false) := hz
    have HHg : Hid (w.grownBy wr (some eb)) := hgr
    clear hrg hR hk hz hrow hgr HR0
    go_wp2_with (first
      | (at_next; go_must (refine wpList_next_ranges_ii _ rfl _ rfl 2 93 .i64 .i64 law Yba.underlying2 Yba.underlying93 B w2.heap.size n _ _ _ rfl HHr.out ?_ ?_)))
    · intro _ hl0
      go_wp2
      go_end0
      have hlf : left = fun _ => false := funext hl0
      have hR := HHR.out
      have hc := hR.count hl0 HHr.out.owns law Yba.underlying2
      exact ⟨rfl, v, rs, hc, hlf ▸ hR, HHk.out, HRw.out, HHg.out⟩
    · intro x c w3 cnt1 hwx hwc hlx hat hrg1 hlt hg1 hs1 hen
      have her : w2.heap.size ≠ eb := by have := hel; omega
      have hel3 : eb < wr.heap.size := World.block_lt_of_cell? wr _ HHk.out
      have bx := bounds_i64 hwx
      have bc := bounds_i64 hwc
      have hbd := HHR.out.step hwx hwc hlx hat
      have HRn : Hid (Recs D (fun z => left z && !z.sameKey (.int .i64 x)) (rs ++ [(x, c)])) := hbd
      have HHr1 : Hid (w3.ranges Yba.prog 2 (plainElem Yba.prog 93) B w2.heap.size n D (fun z => left z && !z.sameKey (.int .i64 x)) cnt1) := hrg1
      have HRw1 : Hid (w3.ownsRow (w.heap.size + 1) 5 1 v (4 + 12 * rs.length) (b4 (Maps.size D) ++ rs.flatMap rcv)) := HRw.out.kept hg1 (.inr (iter_row HHr.out HRw.out).symm)
      have HHk1 : Hid (w3.cell? ⟨eb, 0, none⟩ = some v) := (grown_cell hg1 eb 0 hel3 (by simp; omega)).trans HHk.out
      have HHz1 : Hid (w3.frozen? ⟨eb, 0, none⟩ = false) := (grown_frozen hg1 eb 0 hel3 (by simp; omega)).trans HHz.out
      have HHg1 : Hid (w.grownBy w3 (some eb)) := HHg.out.andThen hg1 (by intro j hj; simp at hj; left; omega)
      have hs3 : w.heap.size + 1 ≤ w3.heap.size := by
        have := HHr.out.lt
        omega
      clear hbd hrg1 hg1 hs1 hat hlx hwx hwc HRw HHk HHz HHg HHR
      have HM : Hid (Mid w eb B w2.heap.size n D (fun z => left z && !z.sameKey (.int .i64 x)) cnt1 v (4 + 12 * rs.length) (b4 (Maps.size D) ++ rs.flatMap rcv) w3) := ⟨HHr1.out, HRw1.out, HHk1.out, HHz1.out, HHg1.out⟩
      clear HHr1 HRw1 HHk1 HHz1 HHg1
      go_wp2_with fail
      refine (long_any eb (w.heap.size + 1) (4 + 12 * rs.length) v _ x w3 bx.1 bx.2 HM.out.cell HM.out.frz HM.out.row hs3 (by omega) (by omega)).mono ?_
      rintro e w4 ⟨rfl, v4, w5, hg4, hg5, k4, z4, hown4⟩
      have HM4 : Hid (Mid w eb B w2.heap.size n D (fun z => left z && !z.sameKey (.int .i64 x)) cnt1 v4 (4 + 12 * rs.length + 8) (b4 (Maps.size D) ++ rs.flatMap rcv ++ b8 (x % 18446744073709551616)) w4) := HM.out.next hg4 hg5 k4 z4 hown4
      have hs4 : w.heap.size + 1 ≤ w4.heap.size := by have := hg4.size; have := hg5.size; omega
      clear hg4 hg5 k4 z4 hown4 HM
      go_wp2_with (go_at_call 28; go_in)
      have bw : -2147483648 ≤ wrap32 (c.tdiv 1000000) ∧ wrap32 (c.tdiv 1000000) ≤ 2147483647 := by unfold wrap32; omega
      refine (int_any eb (w.heap.size + 1) (4 + 12 * rs.length + 8) v4 _ (wrap32 (c.tdiv 1000000)) w4 bw.1 bw.2 HM4.out.cell HM4.out.frz HM4.out.row hs4 (by omega) (by omega)).mono ?_
      rintro e w6 ⟨rfl, v6, w7, hg6, hg7, k6, z6, hown6⟩
      have HM6 : Hid (Mid w eb B w2.heap.size n D (fun z => left z && !z.sameKey (.int .i64 x)) cnt1 v6 (4 + 12 * rs.length + 8 + 4) (b4 (Maps.size D) ++ rs.flatMap rcv ++ b8 (x % 18446744073709551616) ++ b4 (wrap32 (c.tdiv 1000000) % 4294967296)) w6) := HM4.out.next hg6 hg7 k6 z6 hown6
      clear hg6 hg7 k6 z6 hown6 HM4 hen
      go_wp2
      go_roundw
      case rel =>
        refine ⟨_, cnt1, rs ++ [(x, c)], v6, HM6.out.rng, HRn.out, by simp; omega, HM6.out.cell, HM6.out.frz, ?_, HM6.out.grown⟩
        have h6 := HM6.out.row
        have e1 : 4 + 12 * (rs ++ [(x, c)]).length = 4 + 12 * rs.length + 8 + 4 := by simp; omega
        have e2 : b4 (Maps.size D) ++ (rs ++ [(x, c)]).flatMap rcv = b4 (Maps.size D) ++ rs.flatMap rcv ++ b8 (x % 18446744073709551616) ++ b4 (wrap32 (c.tdiv 1000000) % 4294967296) := by simp [rcv]
        rw [e1, e2]
        exact h6
      case measure =>
        rw [HM6.out.rng.left_eq, HHr.out.left_eq]
        exact hlt

set_option maxRecDepth 100000 in
theorem encode_nil (eb : Nat) (w : World) (c0 : w.cell? ⟨eb, 0, none⟩ = some (.slice none 0 0)) (f0 : w.frozen? ⟨eb, 0, none⟩ = false) :
    Calls Yba.prog 15 #[msg (.map none), .pointer (some ⟨eb, 0, none⟩)] w fun e w' => e = .returned (.tuple #[]) ∧
      ∃ v', w'.cell? ⟨eb, 0, none⟩ = some v' ∧ w'.ownsRow (w.heap.size + 1) 5 1 v' 4 (b4 0) ∧ w.grownBy w' (some eb) := by
  have hel : eb < w.heap.size := World.block_lt_of_cell? w _ c0
  unfold msg
  go_enter Yba.func15, Yba.ntmps15
  go_wp2_with fail
  refine (int_any eb (w.heap.size + 1) 0 _ [] 0 _ (by omega) (by omega) ((World.cell?_alloc_past _ _ _ hel).trans c0) ((World.frozen?_alloc_past _ _ _ hel).trans f0) (World.ownsRow_nil _ _ _ _) (by simp) (by omega) (by omega)).mono ?_
  rintro e w2 ⟨rfl, v2, w1, hg1, hg2, k2, z2, hown2⟩
  have hc2 : w2.cell? ⟨w.heap.size, 14, none⟩ = some (.map none) := by
    rw [grown_cell hg2 w.heap.size 14 (by have := hg1.size; simp at this; omega) (by simp; omega), grown_cell hg1 w.heap.size 14 (by simp) (by simp [Value.ownBlock])]
    simp
  have HG2 : Hid (w.grownBy w2 (some eb)) := by
    unfold Hid
    exact ((World.grownBy_alloc w _ _).andThen hg1 (by simp [Value.ownBlock])).andThen hg2 (by simp)
  have HO2 : Hid (w2.ownsRow (w.heap.size + 1) 5 1 v2 4 (b4 0)) := by unfold Hid; simpa using hown2
  have HK2 : Hid (w2.cell? ⟨eb, 0, none⟩ = some v2) := k2
  have hel2 : eb < w2.heap.size := World.block_lt_of_cell? w2 _ k2
  clear hown2 hg1 hg2 k2 z2 c0 f0
  have hrn : ∀ w : World, (Instr.range 92 (.map none)).run Yba.prog w = .ok (.pointer (some ⟨w.heap.size, 0, none⟩)) (w.alloc (.mapIter none 0 #[] 0)) := fun w => run_range_nilMap w 92 2 93 Yba.underlying92
  have hnn : ∀ (w : World) (ty : TypeId), (Instr.next (.pointer (some ⟨w.heap.size, 0, none⟩)) false ty).run Yba.prog (w.alloc (.mapIter none 0 #[] 0)) = .ok (.tuple #[.bool false]) (w.alloc (.mapIter none 0 #[] 0)) := fun w ty => run_next_nilMap w ty 0 0 #[]
  go_wp2
  refine wp_loop_rounds 1 ?_
  rw [rounds_succ]
  go_wp2
  go_end0
  refine ⟨rfl, v2, ?_, HO2.out.alloc _, HG2.out.andThen (World.grownBy_alloc w2 _ none) (by simp)⟩
  rw [World.cell?_alloc_past _ _ _ hel2]
  exact HK2.out
end Go.Proofs.Ybulkfbw.lawS0295CRecords
