/-
  LawS0307AReturned: the walk. By an AI agent.
-/
import Derived.Test.YbulkfiiRetMap
namespace Go.Proofs.Ybulkfii.lawS0307AReturned
open Go.ChangeShapes Go.WideShapes Go.ChangeAt Go.RowKit Go.Maps
set_option linter.unusedVariables false

theorem list19 {us : List Value} (h : us.length = 19) : ∃ u0 u1 u2 u3 u4 u5 u6 u7 u8 u9 u10 u11 u12 u13 u14 u15 u16 u17 u18, us = [u0, u1, u2, u3, u4, u5, u6, u7, u8, u9, u10, u11, u12, u13, u14, u15, u16, u17, u18] := by
  match us, h with
  | [u0, u1, u2, u3, u4, u5, u6, u7, u8, u9, u10, u11, u12, u13, u14, u15, u16, u17, u18], _ => exact ⟨u0, u1, u2, u3, u4, u5, u6, u7, u8, u9, u10, u11, u12, u13, u14, u15, u16, u17, u18, rfl⟩

theorem make30 {w : World} {ops : Array Oper} {rest : List Oper} {o : Oper} {a : Act} {Q : Exit → Act → World → Prop}
    (l : Operand) (hop : o.op = Op.makeSlice 30 l l) (n : Nat) (hl : a.eval l = .int .i64 n) (g : Nat) (b2 : n ≤ 1024) (hg : g ≤ w.heap.size) (hgd : o.guard = none)
    (hK : ∀ w' (cur : List Value), w'.heap[w.heap.size]? = some (.cells cur.toArray 37 (0, 0)) → cur.length = n → w.grownBy w' none → wpList Yba.prog ops Q rest (a.put o.dst (.slice (some ⟨w.heap.size, 0, none⟩) n n)) w') :
    wpList Yba.prog ops Q (o :: rest) a w := by
  obtain ⟨i0, hi, hz0, hz1, hz2⟩ := info_parts info37
  refine wpList_make_full w hgd l l 30 hop w.heap.size 37 i0 (.pointer none) 1 Yba.underlying30 hi hz0 hz1 _ _ _ _ n hl hl rfl rfl (by rw [hz2]; omega) (by unfold maxLen; omega) (Nat.le_refl _) ?_
  intro w' hown hgrow
  rcases hown.2 with ⟨hv, _⟩ | ⟨g, cap, cur, hv, _, hh, _, _, hc, _⟩
  · simp at hv
  · simp only [Value.slice.injEq, Option.some.injEq, Addr.mk.injEq] at hv
    obtain ⟨⟨rfl, _⟩, _, rfl⟩ := hv
    exact hK w' cur.toList (by simpa using hh) (by simp [hc]) hgrow
theorem ptrs_one (bs : List Nat) : ∀ v ∈ bs.map ptr, v.oneCell' = true := by
  intro v hv
  obtain ⟨b, _, rfl⟩ := List.mem_map.1 hv
  rfl
theorem splice_all {α : Type} (L cs : List α) (h : cs.length = L.length) : splice L 0 cs = cs := by
  simp [splice, h]
theorem row_src {w wz : World} {base : Nat} {e : TypeId} {v : Value} {aw : Option Addr} {n cap : Nat} {xs : List Value} (h : w.ownsRow base e 1 v n xs) (hv : v = .slice aw n cap) (hk : ∀ b, v.ownBlock = some b → wz.heap[b]? = w.heap[b]?) (h0 : 0 < xs.length) :
    ∃ ad, aw = some ad ∧ ∀ j x, xs[j]? = some x → wz.cell? (ad.add j) = some x := by
  have hl := h.1
  obtain ⟨g, cap', hv', _, _⟩ := own_form h (by omega)
  have h' := h
  rw [hv'] at h'
  rw [hv] at hv'
  simp only [Value.slice.injEq] at hv'
  refine ⟨_, hv'.1, fun j x hx => ?_⟩
  have hb := hk g (by rw [hv, hv'.1]; rfl)
  have hj : j < n * 1 := by have := (List.getElem?_eq_some_iff.1 hx).1; omega
  have e1 : (⟨g, 0, none⟩ : Addr).add j = ⟨g, j, none⟩ := by simp [Addr.add]; omega
  rw [e1]
  exact (World.cell?_of_block hb).trans ((h'.cellAt j hj).trans hx)
theorem src_w {w w2 w4 wz : World} {A : Nat → Int} {p : Int} {V : Nat → Int} {Pd : Nat → Bool} {n : Nat} {aw1 : Option Addr} {cp1 : Nat} {bs : List Nat} (h2 : St2 w A p V Pd n n (.slice aw1 n cp1) bs w2) {R : Nat → Int} {m : Nat} {v2 : Value} {cs : List Nat} (h4 : St3 w w2 n (.slice aw1 n cp1) R m m v2 cs w4) (hb : Below w4.heap.size w4 wz)
    (h0 : 0 < (bs.map ptr).length) : ∃ ad, aw1 = some ad ∧ ∀ j x, (bs.map ptr)[j]? = some x → wz.cell? (ad.add j) = some x :=
  row_src h2.row rfl (fun b hb' => by
    have hl := h2.row.lt b hb'
    have := h4.size
    exact (hb.block b (by omega)).trans (h4.since b (by omega) (by omega))) h0
theorem src_r {w w2 w4 wz : World} {n : Nat} {v : Value} {R : Nat → Int} {m : Nat} {aw2 : Option Addr} {cp2 : Nat} {cs : List Nat} (h4 : St3 w w2 n v R m m (.slice aw2 m cp2) cs w4) (hb : Below w4.heap.size w4 wz)
    (h0 : 0 < (cs.map ptr).length) : ∃ ad, aw2 = some ad ∧ ∀ j x, (cs.map ptr)[j]? = some x → wz.cell? (ad.add j) = some x :=
  row_src h4.row rfl (fun b hb' => hb.block b (h4.row.lt b hb').2) h0
section
variable {P : Program} {ops : Array Oper} {Q : Exit → Act → World → Prop} {md : Region.Mode} {S : World → Prop} {m : Nat}
/-- One of two may come up. -/
theorem wpAnyT_two {i j : Nat} {o o2 : Oper} {fuel : Nat} {listed : Array Bool} {a : Act} {w : World} (hr : Region.ready md ops listed = [i, j]) (ho : ops[i]? = some o) (hg : o.guard = none) (ho2 : ops[j]? = some o2) (hg2 : o2.guard = none)
    (h : Oper.wp P o a w (fun a' w' => ((listed.setIfInBounds i true).getD m false = true ∨ S w') ∧ wpAnyT P md ops Q S m fuel (listed.setIfInBounds i true) a' w') Q)
    (h2 : Oper.wp P o2 a w (fun a' w' => ((listed.setIfInBounds j true).getD m false = true ∨ S w') ∧ wpAnyT P md ops Q S m fuel (listed.setIfInBounds j true) a' w') Q) : wpAnyT P md ops Q S m (fuel + 1) listed a w := by
  refine ⟨fun h0 => (by rw [hr] at h0; cases h0), ?_⟩
  rw [hr]
  intro z hz
  simp at hz
  rcases hz with rfl | rfl
  · unfold wpOp
    simp only [ho]
    have hw : Region.wanted o (yielded ops a.tmps) = true := by simp [Region.wanted, hg]
    rw [if_pos hw]
    exact .inl h
  · unfold wpOp
    simp only [ho2]
    have hw : Region.wanted o2 (yielded ops a.tmps) = true := by simp [Region.wanted, hg2]
    rw [if_pos hw]
    exact .inl h2
end
theorem list8 {us : List Value} (h : us.length = 8) : ∃ u0 u1 u2 u3 u4 u5 u6 u7, us = [u0, u1, u2, u3, u4, u5, u6, u7] := by
  match us, h with
  | [u0, u1, u2, u3, u4, u5, u6, u7], _ => exact ⟨u0, u1, u2, u3, u4, u5, u6, u7, rfl⟩
theorem rowW_pre (A : Nat → Int) (B kv : Nat → Nat) (Pd : Nat → Bool) {k n : Nat} (h : k ≤ n) : ∃ rest, rowW A B kv Pd n = rowW A B kv Pd k ++ rest := by
  induction n with
  | zero => obtain rfl : k = 0 := by omega
            exact ⟨[], rfl⟩
  | succ n ih =>
    rcases Nat.lt_or_ge k (n + 1) with h1 | h1
    · obtain ⟨r, hr⟩ := ih (by omega)
      exact ⟨_, by rw [rowW, hr, List.append_assoc]⟩
    · obtain rfl : k = n + 1 := by omega
      exact ⟨[], by simp⟩
theorem rowU_pre (C : Nat → Nat) (no : Nat → Bool) {k n : Nat} (h : k ≤ n) : ∃ rest, rowU C no n = rowU C no k ++ rest := by
  induction n with
  | zero => obtain rfl : k = 0 := by omega
            exact ⟨[], rfl⟩
  | succ n ih =>
    rcases Nat.lt_or_ge k (n + 1) with h1 | h1
    · obtain ⟨r, hr⟩ := ih (by omega)
      exact ⟨_, by rw [rowU, hr, List.append_assoc]⟩
    · obtain rfl : k = n + 1 := by omega
      exact ⟨[], by simp⟩
theorem cntW_lt (no : Nat → Bool) {k n : Nat} (h : k < n) (hno : no k = false) : cntW no k < cntW no n := by
  induction n with
  | zero => omega
  | succ n ih =>
    rw [cntW]
    rcases Nat.lt_or_ge k n with h1 | h1
    · have := ih h1; omega
    · obtain rfl : k = n := by omega
      rw [hno]; simp
theorem rowW_at (A : Nat → Int) (B kv : Nat → Nat) (Pd : Nat → Bool) {k n : Nat} (h : k < n) (hp : Pd k = false) (pre post : List Value) :
    (pre ++ rowW A B kv Pd n ++ post)[pre.length + cntW Pd k * 2]? = some (ptr (B k)) ∧ (pre ++ rowW A B kv Pd n ++ post)[pre.length + cntW Pd k * 2 + 1]? = some (.int .i64 (A (kv k))) := by
  obtain ⟨r, hr⟩ := rowW_pre A B kv Pd (k := k + 1) (n := n) (by omega)
  have e : pre ++ rowW A B kv Pd n ++ post = (pre ++ rowW A B kv Pd k) ++ (ptr (B k) :: .int .i64 (A (kv k)) :: (r ++ post)) := by
    rw [hr, rowW, hp]; simp
  have hl : (pre ++ rowW A B kv Pd k).length = pre.length + cntW Pd k * 2 := by rw [List.length_append, rowW_len]
  rw [e]
  refine ⟨?_, ?_⟩
  · rw [List.getElem?_append_right (by omega), show pre.length + cntW Pd k * 2 - (pre ++ rowW A B kv Pd k).length = 0 by omega]; rfl
  · rw [List.getElem?_append_right (by omega), show pre.length + cntW Pd k * 2 + 1 - (pre ++ rowW A B kv Pd k).length = 1 by omega]; rfl
theorem rowU_at (C : Nat → Nat) (no : Nat → Bool) {k n : Nat} (h : k < n) (hp : no k = false) : (rowU C no n)[cntW no k]? = some (ptr (C k)) := by
  obtain ⟨r, hr⟩ := rowU_pre C no (k := k + 1) (n := n) (by omega)
  have e : rowU C no n = rowU C no k ++ (ptr (C k) :: r) := by rw [hr, rowU, hp]; simp
  rw [e, List.getElem?_append_right (by rw [rowU_len]; exact Nat.le_refl _), rowU_len, Nat.sub_self]; rfl
/-- A cell of a row that nothing turned since. -/
theorem own_at {w wz : World} {base : Nat} {e : TypeId} {size : Nat} {v : Value} {n : Nat} {xs : List Value} (h : w.ownsRow base e size v n xs) (hb : Below w.heap.size w wz) {k : Nat} (hk : k < n) (hsz : 0 < size) :
    ∃ g cap, v = .slice (some ⟨g, 0, none⟩) n cap ∧ ∀ j x, xs[j]? = some x → wz.cell? ⟨g, j, none⟩ = some x := by
  obtain ⟨g, cap, hv, _, hg⟩ := own_form h (by omega)
  have h' := h
  rw [hv] at h'
  refine ⟨g, cap, hv, fun j x hx => ?_⟩
  have hj : j < n * size := by have := (List.getElem?_eq_some_iff.1 hx).1; have := h.1; omega
  exact (hb.cell hg).trans ((h'.cellAt j hj).trans hx)
theorem below_drewN {B : Nat} {a w : World} (h : Below B a w) (n : Nat) : Below B a (w.drewN n) := ⟨h.os, h.tape, h.output, h.size, h.block⟩
theorem run_equalIn_ptr (d b : Nat) (w : World) : (Op.equalIn (d + 1) 37 (.pointer (some ⟨b, 0, none⟩)) (.pointer (some ⟨b, 0, none⟩))).run Yba.prog w = .ok true w := by
  simp [Op.equalIn, run_underlying Yba.underlying37, sameAddr]
theorem run_equal_ptr (b : Nat) (w : World) : (Op.equal 37 (.pointer (some ⟨b, 0, none⟩)) (.pointer (some ⟨b, 0, none⟩))).run Yba.prog w = .ok true w := run_equalIn_ptr 9999 b w
theorem ptr_neq (b : Nat) (w : World) : (binOp .neq 37 (.pointer (some ⟨b, 0, none⟩)) (.pointer (some ⟨b, 0, none⟩))).run Yba.prog w = .ok (.bool false) w := by
  simp only [binOp]
  simp [run_equal_ptr b w]
set_option maxHeartbeats 4000000 in
set_option maxRecDepth 100000 in
theorem walk (aw ar : Option Addr) (n cw m cr : Nat) (p : Int) (A : Nat → Int) (V : Nat → Int) (Pd : Nat → Bool) (w : World) (hn : n ≤ 1024) (hm : m ≤ 1024) (hp0 : 0 ≤ p) (hp1 : p ≤ 255) (hV : ∀ i, 0 ≤ V i ∧ V i ≤ 255) (R : Nat → Int) (hR : ∀ i, 0 ≤ R i ∧ R i ≤ 255)
    (hwr : 0 < n → ∃ b o, aw = some ⟨b, o, none⟩ ∧ ∀ i, i < n → w.cell? ⟨b, o + i * 2, none⟩ = some (.int .u8 (V i)) ∧ w.cell? ⟨b, o + i * 2 + 1, none⟩ = some (.bool (Pd i)))
    (hrd : 0 < m → ∃ b o, ar = some ⟨b, o, none⟩ ∧ ∀ i, i < m → w.cell? ⟨b, o + i, none⟩ = some (.int .u8 (R i))) :
    Calls Yba.prog 3 #[.slice aw n cw, .slice ar m cr, .int .u8 p, .agg #[.int .i64 (A 0), .int .i64 (A 1), .int .i64 (A 2), .int .i64 (A 3), .int .i64 (A 4)]] w fun e w' => e = .returned (.bool true) ∧ Below w.heap.size w w' := by
  have h1 : decide (1024 < (n : Int)) = false := by simp; omega
  have h2 : decide (1024 < (m : Int)) = false := by simp; omega
  have HWR : Hid (0 < n → ∃ b o, aw = some ⟨b, o, none⟩ ∧ ∀ i, i < n → w.cell? ⟨b, o + i * 2, none⟩ = some (.int .u8 (V i)) ∧ w.cell? ⟨b, o + i * 2 + 1, none⟩ = some (.bool (Pd i))) := hwr
  have HRD : Hid (0 < m → ∃ b o, ar = some ⟨b, o, none⟩ ∧ ∀ i, i < m → w.cell? ⟨b, o + i, none⟩ = some (.int .u8 (R i))) := hrd
  clear hwr hrd
  go_enter Yba.func3, Yba.ntmps3
  go_wp2
  refine wp_loop_rounds 6 ?_
  rw [rounds_succ]
  go_wp2
  rw [rounds_succ]
  go_wp2
  rw [rounds_succ]
  go_wp2
  rw [rounds_succ]
  go_wp2
  rw [rounds_succ]
  go_wp2
  rw [rounds_succ]
  go_wp2_with (at_make; obtain ⟨i0, hi, hz0, hz1, hz2⟩ := info_parts info3; go_must (refine wpList_make_full _ rfl (.tmp 58) (.tmp 58) 34 rfl (w.heap.size + 3) 3 i0 (.int .i64 0) 1 Yba.underlying34 hi hz0 hz1 _ _ _ _ n rfl rfl rfl rfl (by rw [hz2]; omega) (by unfold maxLen; omega) (by simp) ?_); clear hi hz0 hz1 hz2 i0; intro w1 hown1 hgrow1)
  have HS : Hid (St2 w A p V Pd n 0 (.slice none 0 0) [] w1) := St2.start V Pd (by have h := hown1; simp only [World.size_alloc] at h; exact h) hgrow1
  clear hown1 hgrow1
  go_loopw [62] (fun i wr => ∃ (k : Nat) (v : Value) (bs : List Nat), k ≤ n ∧ i = .int .i64 k ∧ St2 w A p V Pd n k v bs wr) (fun i _ => n - (intOf i).toNat)
  case atStart => exact ⟨0, _, _, Nat.zero_le _, rfl, HS.out⟩
  case round =>
    obtain ⟨k, v, bs, hk, rfl, hst⟩ := hrel
    have HST : Hid (St2 w A p V Pd n k v bs wr) := hst
    clear hst HS
    by_cases hlt : k < n
    · obtain ⟨bw, ow, rfl, hcw⟩ := HWR.out (by omega)
      obtain ⟨cw0, cw1⟩ := hcw k hlt
      have r0 : wr.cell? ⟨bw, ow + k * 2, none⟩ = some (.int .u8 (V k)) := (HST.out.below.cell (World.block_lt_of_cell? w _ cw0)).trans cw0
      have r1 : wr.cell? ⟨bw, ow + k * 2 + 1, none⟩ = some (.bool (Pd k)) := (HST.out.below.cell (World.block_lt_of_cell? w _ cw1)).trans cw1
      clear hcw cw0 cw1
      have hVk := hV k
      have hq : V k % 5 = ((kW V k : Nat) : Int) := by unfold kW; omega
      have hq5 : kW V k < 5 := kW_lt V k hVk.1
      have HQ : Hid (V k % 5 = ((kW V k : Nat) : Int)) := hq
      obtain ⟨i1, f1⟩ := HST.out.idx k hlt
      obtain ⟨i2, f2⟩ := HST.out.hav (kW V k) hq5
      obtain ⟨i3, f3⟩ := HST.out.rw
      have hs4 := HST.out.size
      have g0 : w.heap.size < wr.heap.size := by omega
      have g1 : w.heap.size + 1 < wr.heap.size := by omega
      have g2 : w.heap.size + 1 + 1 < wr.heap.size := by omega
      have g3 : w.heap.size + 1 + 1 + 1 < wr.heap.size := by omega
      clear hs4
      obtain ⟨ao, cp, hsh⟩ : ∃ ao cp, v = .slice ao k cp := own_shape HST.out.row
      subst hsh
      generalize hqq : kW V k = q at *
      have HQQ : Hid (kW V k = q) := hqq
      clear hqq HQ
      have q5 : (q : Int) < 5 := by omega
      have Hrow : Hid (wr.ownsRow (w.heap.size + 4) 37 1 (.slice ao k cp) k (bs.map ptr)) := HST.out.row
      go_wp2
      obtain ⟨Wx, hWx⟩ : ∃ Wx, Wx = (((wr.setCell ⟨w.heap.size + 1 + 1 + 1, k, none⟩ (.int .i64 q)).setCell ⟨w.heap.size + 1, q, none⟩ (.bool true)).alloc (.cells #[.int .u8 (V k), .bool (Pd k)] 36)) := ⟨_, rfl⟩
      have x1 : Wx.cell? ⟨w.heap.size + 1 + 1, 2, none⟩ = some (.slice ao k cp) := by
        rw [hWx, World.cell?_alloc_past _ _ _ (by simp; omega), World.cell?_setCell_far _ _ _ _ (by show w.heap.size + 1 ≠ w.heap.size + 1 + 1; omega), World.cell?_setCell_far _ _ _ _ (by show w.heap.size + 1 + 1 + 1 ≠ w.heap.size + 1 + 1; omega)]
        exact i3
      have x2 : Wx.frozen? ⟨w.heap.size + 1 + 1, 2, none⟩ = false := by rw [hWx, World.frozen?_alloc_past _ _ _ (by simp; omega), World.frozen?_setCell, World.frozen?_setCell]; exact f3
      have x3 : Wx.cell? ⟨wr.heap.size, 1, none⟩ = some (.bool (Pd k)) := by rw [hWx, World.cell?_alloc_at _ _ _ _ (by simp)]; rfl
      have x4 : wr.heap.size < Wx.heap.size := by rw [hWx]; simp
      have Hrx : Hid (Wx.ownsRow (w.heap.size + 4) 37 1 (.slice ao k cp) k (bs.map ptr)) := by
        unfold Hid
        rw [hWx]
        exact (ownsRow_setCell_below (ownsRow_setCell_below Hrow.out (by show w.heap.size + 1 + 1 + 1 < w.heap.size + 4; omega) _) (by show w.heap.size + 1 < w.heap.size + 4; omega) _).alloc _
      rw [← hWx]
      have HWX : Hid (Wx = (((wr.setCell ⟨w.heap.size + 1 + 1 + 1, k, none⟩ (.int .i64 q)).setCell ⟨w.heap.size + 1, q, none⟩ (.bool true)).alloc (.cells #[.int .u8 (V k), .bool (Pd k)] 36))) := hWx
      clear hWx i1 i2 i3 f1 f2 f3 r0 r1 g0 g1 g3
      have hB2x : w.heap.size + 1 + 1 < Wx.heap.size := by omega
      have hB2y : w.heap.size + 1 + 1 < Wx.heap.size + 1 := by omega
      have x4y : wr.heap.size < Wx.heap.size + 1 := by omega
      have hrl : ∀ e, (Value.slice ao k cp).ownBlock = some e → w.heap.size + 4 ≤ e ∧ e < wr.heap.size := fun e he => ⟨(Hrow.out.lt e he).1, (Hrow.out.lt e he).2⟩
      have HC5 : Hid (∀ (o1 o2 : Obj) (w5 : World), (((Wx.alloc o1).alloc o2).drew).grownBy w5 (Value.slice ao k cp).ownBlock → w5.frozen? ⟨w.heap.size + 1 + 1, 2, none⟩ = false ∧ (w5.cell? ⟨w.heap.size + 1 + 1, 2, none⟩ = some (.slice ao k cp) ∧ w5.cell? ⟨wr.heap.size, 1, none⟩ = some (.bool (Pd k)))) := by
        intro o1 o2 w5 hg
        have hne : some (w.heap.size + 1 + 1) ≠ (Value.slice ao k cp).ownBlock := fun e => by have := (hrl _ e.symm).1; omega
        have hne2 : some wr.heap.size ≠ (Value.slice ao k cp).ownBlock := fun e => by have := (hrl _ e.symm).2; omega
        refine ⟨?_, ?_, ?_⟩
        · rw [grown_frozen hg _ 2 (by simp; omega) hne]
          exact (World.frozen?_alloc_past _ _ _ (by simp; omega)).trans ((World.frozen?_alloc_past _ _ _ hB2x).trans x2)
        · rw [grown_cell hg _ 2 (by simp; omega) hne]
          exact (World.cell?_alloc_past _ _ _ (by simp; omega)).trans ((World.cell?_alloc_past _ _ _ hB2x).trans x1)
        · rw [grown_cell hg _ 1 (by simp; omega) hne2]
          exact (World.cell?_alloc_past _ _ _ (by simp; omega)).trans ((World.cell?_alloc_past _ _ _ x4).trans x3)
      have hwk : IntKind.i64.wrap ((k : Int) + 1) = (k : Int) + 1 := by rw [IntKind.wrap_i64]; omega
      refine wp_then (CutA Wx (w.heap.size + 1 + 1) 2 (w.heap.size + 4) k [77, 78, 79, 80, 81, 82, 84, 85, 87, 88, 83, 86, 89, 90, 91, 92, 93, 94] (.slice ao k cp) (opArr (key q) (Pd k) (k + 1)) (bs.map ptr)) ?_ ?_
      · intro a0 ha0
        have hsz : a0.tmps.size = 340 := by rw [ha0]; rfl
        have e11 : ∀ h : 11 < a0.tmps.size, a0.tmps[11]'h = .pointer (some ⟨w.heap.size + 1 + 1, 0, none⟩) := by rw [ha0]; intro h; rfl
        have e13 : ∀ h : 13 < a0.tmps.size, a0.tmps[13]'h = .int .i64 k := by rw [ha0]; intro h; rfl
        have e14 : ∀ h : 14 < a0.tmps.size, a0.tmps[14]'h = .pointer (some ⟨wr.heap.size, 0, none⟩) := by rw [ha0]; intro h; rfl
        have e15 : ∀ h : 15 < a0.tmps.size, a0.tmps[15]'h = .int .i64 q := by rw [ha0]; intro h; rfl
        clear ha0
        go_light
        refine wp_region_T 18 (fun w' => w'.cell? ⟨w.heap.size + 1 + 1, 2, none⟩ = some (.slice ao k cp) ∧ w'.cell? ⟨wr.heap.size, 1, none⟩ = some (.bool (Pd k))) (by kernel_rfl) ⟨x1, x3⟩ (fun hS => ?_)
        refine wpAnyT_takeY (i := 0) (v := ?_) (by simp only [List.getElem?_toArray, List.getElem?_cons_zero]; rfl) (by decide +kernel) (by decide +kernel) (by decide +kernel) (by decide) (fun _ _ _ h => h) (Or.inl ⟨by rfl, ?_⟩) hS ?_
        rotate_left
        · intro w _
          go_simp
          try with_reducible rfl
        refine wpAnyT_takeY (i := 1) (v := ?_) (by simp only [List.getElem?_toArray, List.getElem?_cons_succ, List.getElem?_cons_zero]; rfl) (by decide +kernel) (by decide +kernel) (by decide +kernel) (by decide) (fun _ _ _ h => h) (Or.inl ⟨by rfl, ?_⟩) hS ?_
        rotate_left
        · intro w _
          go_simp
          try with_reducible rfl
        refine wpAnyT_takeY (i := 2) (v := ?_) (by simp only [List.getElem?_toArray, List.getElem?_cons_succ, List.getElem?_cons_zero]; rfl) (by decide +kernel) (by decide +kernel) (by decide +kernel) (by decide) (fun _ _ _ h => h) (Or.inl ⟨by rfl, ?_⟩) hS ?_
        rotate_left
        · intro w _
          go_simp
          try with_reducible rfl
        refine wpAnyT_takeY (i := 3) (v := ?_) (by simp only [List.getElem?_toArray, List.getElem?_cons_succ, List.getElem?_cons_zero]; rfl) (by decide +kernel) (by decide +kernel) (by decide +kernel) (by decide) (fun _ _ _ h => h) (Or.inl ⟨by rfl, ?_⟩) hS ?_
        rotate_left
        · intro w _
          go_simp
          try with_reducible rfl
        refine wpAnyT_take (i := 4) (v := ?_) (by simp only [List.getElem?_toArray, List.getElem?_cons_succ, List.getElem?_cons_zero]; rfl) (by decide +kernel) (by decide +kernel) (by decide +kernel) (by decide +kernel) (by decide) (by decide +kernel) (fun _ _ _ h => h) (Or.inl ⟨by rfl, ?_⟩) hS ?_
        rotate_left
        · intro w hSw
          obtain ⟨s1, s2⟩ := hSw
          go_simp
          try with_reducible rfl
        refine wpAnyT_takeY (i := 5) (v := ?_) (by simp only [List.getElem?_toArray, List.getElem?_cons_succ, List.getElem?_cons_zero]; rfl) (by decide +kernel) (by decide +kernel) (by decide +kernel) (by decide) (fun _ _ _ h => h) (Or.inl ⟨by rfl, ?_⟩) hS ?_
        rotate_left
        · intro w _
          go_simp
          try with_reducible rfl
        refine wpAnyT_takeY (i := 7) (v := ?_) (by simp only [List.getElem?_toArray, List.getElem?_cons_succ, List.getElem?_cons_zero]; rfl) (by decide +kernel) (by decide +kernel) (by decide +kernel) (by decide) (fun _ _ _ h => h) (Or.inl ⟨by rfl, ?_⟩) hS ?_
        rotate_left
        · intro w _
          go_simp
          try with_reducible rfl
        refine wpAnyT_take (i := 8) (v := ?_) (by simp only [List.getElem?_toArray, List.getElem?_cons_succ, List.getElem?_cons_zero]; rfl) (by decide +kernel) (by decide +kernel) (by decide +kernel) (by decide +kernel) (by decide) (by decide +kernel) (fun _ _ _ h => h) (Or.inl ⟨by rfl, ?_⟩) hS ?_
        rotate_left
        · intro w hSw
          obtain ⟨s1, s2⟩ := hSw
          go_simp
          try with_reducible rfl
        refine wpAnyT_takeY (i := 10) (v := ?_) (by simp only [List.getElem?_toArray, List.getElem?_cons_succ, List.getElem?_cons_zero]; rfl) (by decide +kernel) (by decide +kernel) (by decide +kernel) (by decide) (fun _ _ _ h => h) (Or.inl ⟨by rfl, ?_⟩) hS ?_
        rotate_left
        · intro w _
          go_simp
          try with_reducible rfl
        refine wpAnyT_takeY (i := 11) (v := ?_) (by simp only [List.getElem?_toArray, List.getElem?_cons_succ, List.getElem?_cons_zero]; rfl) (by decide +kernel) (by decide +kernel) (by decide +kernel) (by decide) (fun _ _ _ h => h) (Or.inl ⟨by rfl, ?_⟩) hS ?_
        rotate_left
        · intro w _
          go_simp
          try with_reducible rfl
        refine wpAnyT_only (i := 6) (by decide +kernel) (by simp only [List.getElem?_toArray, List.getElem?_cons_succ, List.getElem?_cons_zero]; rfl) rfl ?_
        go_simp
        refine (key_any q hq5 _).mono ?_
        rintro e w' ⟨rfl, rfl⟩
        refine ⟨hS, ?_⟩
        refine wpAnyT_takeY (i := 9) (v := ?_) (by simp only [List.getElem?_toArray, List.getElem?_cons_succ, List.getElem?_cons_zero]; rfl) (by decide +kernel) (by decide +kernel) (by decide +kernel) (by decide) (fun _ _ _ h => h) (Or.inl ⟨by rfl, ?_⟩) hS ?_
        rotate_left
        · intro w _
          go_simp
          try with_reducible rfl
        refine wpAnyT_takeY (i := 12) (v := ?_) (by simp only [List.getElem?_toArray, List.getElem?_cons_succ, List.getElem?_cons_zero]; rfl) (by decide +kernel) (by decide +kernel) (by decide +kernel) (by decide) (fun _ _ _ h => h) (Or.inl ⟨by rfl, ?_⟩) hS ?_
        rotate_left
        · intro w _
          go_simp
          try with_reducible rfl
        refine wpAnyT_only (i := 13) (by decide +kernel) (by simp only [List.getElem?_toArray, List.getElem?_cons_succ, List.getElem?_cons_zero]; rfl) rfl ?_
        go_simp
        refine wpAnyT_only (i := 14) (by decide +kernel) (by simp only [List.getElem?_toArray, List.getElem?_cons_succ, List.getElem?_cons_zero]; rfl) rfl ?_
        go_simp
        refine wpAnyT_only (i := 15) (by decide +kernel) (by simp only [List.getElem?_toArray, List.getElem?_cons_succ, List.getElem?_cons_zero]; rfl) rfl ?_
        obtain ⟨i0, hi, hz0, hz1, hz2⟩ := info_parts info37
        refine wp_append_own _ (.tmp 81) (.tmp 91) 30 rfl (w.heap.size + 4) 37 i0 (.pointer none) 1 8 Yba.underlying30 hi hz0 hz1 hz2 rfl (by decide) (.slice ao k cp) k (bs.map ptr) (by simp [Act.eval, hsz]) (by exact ((Hrx.out.alloc _).alloc _)) ⟨Wx.heap.size + 1, 0, none⟩ 1 1 [ptr Wx.heap.size] (by simp [Act.eval, hsz]) rfl (by exact one_new Wx _ _) (one_ptr _) (by unfold maxLen; omega) (by omega) (by simp; omega) ?_
        clear hi hz0 hz1 hz2 i0
        intro v5 w5 hown5 hgrow5 _
        obtain ⟨y2, hS5⟩ := HC5.out _ _ _ hgrow5
        refine ⟨.inr hS5, ?_⟩
        clear hS
        have hS := hS5
        obtain ⟨g5, cp5, hv5, hg5, hg5'⟩ := own_form hown5 (by omega)
        subst hv5
        refine wpAnyT_takeY (i := 16) (v := ?_) (by simp only [List.getElem?_toArray, List.getElem?_cons_succ, List.getElem?_cons_zero]; rfl) (by decide +kernel) (by decide +kernel) (by decide +kernel) (by decide) (fun _ _ _ h => h) (Or.inl ⟨by rfl, ?_⟩) hS ?_
        rotate_left
        · intro w _
          go_simp
          try with_reducible rfl
        refine wpAnyT_takeY (i := 17) (v := ?_) (by simp only [List.getElem?_toArray, List.getElem?_cons_succ, List.getElem?_cons_zero]; rfl) (by decide +kernel) (by decide +kernel) (by decide +kernel) (by decide) (fun _ _ _ h => h) (Or.inl ⟨by rfl, ?_⟩) hS ?_
        rotate_left
        · intro w _
          go_simp
          try with_reducible rfl
        refine wpAnyT_only (i := 18) (by decide +kernel) (by simp only [List.getElem?_toArray, List.getElem?_cons_succ, List.getElem?_cons_zero]; rfl) rfl ?_
        have y1 := hS5.1
        go_simp
        refine wpAnyT_done (by decide +kernel) ?_ _
        exact ⟨[ptr (w.heap.size + 1 + 1), ptr (w.heap.size + 1 + 1), ptr (w.heap.size + 1 + 1), .pointer (some ⟨w.heap.size + 1 + 1, 2, none⟩), .slice ao k cp, .int .i64 q, .pointer (some ⟨wr.heap.size, 1, none⟩), .bool (Pd k), .int .i64 k, .int .i64 (k + 1), .string (key q), .agg #[.string ⟨#[]⟩, .int .i64 0, .int .i64 0, .string (key q), .slice none 0 0, .int .i64 0, .int .i64 0, .bool (Pd k), .bool false], .agg #[.string ⟨#[]⟩, .int .i64 0, .int .i64 0, .string (key q), .slice none 0 0, .int .i64 0, .int .i64 0, .bool (Pd k), .bool false, .int .i64 (k + 1)], ptr Wx.heap.size, .slice (some ⟨Wx.heap.size + 1, 0, none⟩) 1 1, .slice (some ⟨g5, 0, none⟩) (k + 1) cp5, ptr (w.heap.size + 1 + 1), .pointer (some ⟨w.heap.size + 1 + 1, 2, none⟩)], _, w5, rfl, by simp only [putAll, Act.put, ptr], rfl, hown5, hgrow5⟩
      · intro a0 a' w' ha0 hR
        obtain ⟨us, v5, w5, hus, ha', hw', hown5, hgrow5⟩ := hR
        obtain ⟨u0, u1, u2, u3, u4, u5, u6, u7, u8, u9, u10, u11, u12, u13, u14, u15, u16, u17, hus'⟩ := list18 hus
        rw [ha', ha0, hus', hw']
        clear ha' ha0 hus' hus hw' us
        simp only [putAll, Act.put, List.setIfInBounds_toArray, List.set_cons_succ, List.set_cons_zero]
        go_wp2
        go_roundw
        case rel =>
          go_light
          exact ⟨k + 1, v5, bs ++ [Wx.heap.size], by omega, by go_num, HST.out.step hlt HQQ.out hq5 HWX.out hown5 hgrow5⟩
        case measure => simp [intOf]; omega
    · have hkn : k = n := by omega
      have HST2 : Hid (St2 w A p V Pd n n v bs wr) := by
        have h := HST.out
        rw [hkn] at h
        exact h
      clear HST hkn
      obtain ⟨w2, hw2⟩ : ∃ x, x = wr := ⟨_, rfl⟩
      subst hw2
      have hs4 := HST2.out.size
      go_wp2_with (at_make; obtain ⟨i0, hi, hz0, hz1, hz2⟩ := info_parts info3; go_must (refine wpList_make_full _ rfl (.tmp 97) (.tmp 97) 34 rfl w2.heap.size 3 i0 (.int .i64 0) 1 Yba.underlying34 hi hz0 hz1 _ _ _ _ m rfl rfl rfl rfl (by rw [hz2]; omega) (by unfold maxLen; omega) (Nat.le_refl _) ?_); clear hi hz0 hz1 hz2 i0; intro w3 hown3 hgrow3)
      have HS3 : Hid (St3 w w2 n v R m 0 (.slice none 0 0) [] w3) := St3.start HST2.out R hown3 hgrow3
      clear hown3 hgrow3
      go_loopw [101] (fun i wz => ∃ (j : Nat) (v2 : Value) (cs : List Nat), j ≤ m ∧ i = .int .i64 j ∧ St3 w w2 n v R m j v2 cs wz) (fun i _ => m - (intOf i).toNat)
      case atStart => exact ⟨0, _, _, Nat.zero_le _, rfl, HS3.out⟩
      case round =>
        obtain ⟨j, v2, cs, hj, rfl, hst⟩ := hrel
        have HS3' : Hid (St3 w w2 n v R m j v2 cs wr) := hst
        clear hst HS3
        by_cases hjm : j < m
        · obtain ⟨br, or', rfl, hcr⟩ := HRD.out (by omega)
          have cr0 := hcr j hjm
          have r0 : wr.cell? ⟨br, or' + j, none⟩ = some (.int .u8 (R j)) := (HS3'.out.below.cell (World.block_lt_of_cell? w _ cr0)).trans cr0
          clear hcr cr0
          have hRj := hR j
          have hq : R j % 5 = ((kW R j : Nat) : Int) := by unfold kW; omega
          have hq5 : kW R j < 5 := kW_lt R j hRj.1
          obtain ⟨i1, f1⟩ := HS3'.out.idx j hjm
          obtain ⟨i3, f3⟩ := HS3'.out.rr
          have g4 := HS3'.out.size
          have g2 : w2.heap.size < wr.heap.size := by omega
          have g3 : w.heap.size + 1 + 1 < wr.heap.size := by omega
          obtain ⟨ao, cp, hsh⟩ : ∃ ao cp, v2 = .slice ao j cp := own_shape HS3'.out.row
          subst hsh
          have HQ : Hid (R j % 5 = ((kW R j : Nat) : Int)) := hq
          generalize hqq : kW R j = q at *
          have HQQ : Hid (kW R j = q) := hqq
          clear hqq HQ
          have q5 : (q : Int) < 5 := by omega
          have Hrow : Hid (wr.ownsRow (w2.heap.size + 1) 37 1 (.slice ao j cp) j (cs.map ptr)) := HS3'.out.row
          go_wp2
          obtain ⟨Wx, hWx⟩ : ∃ Wx, Wx = wr.setCell ⟨w2.heap.size, j, none⟩ (.int .i64 q) := ⟨_, rfl⟩
          have x1 : Wx.cell? ⟨w.heap.size + 1 + 1, 3, none⟩ = some (.slice ao j cp) := by
            rw [hWx, World.cell?_setCell_far _ _ _ _ (by show w2.heap.size ≠ w.heap.size + 1 + 1; omega)]
            exact i3
          have x2 : Wx.frozen? ⟨w.heap.size + 1 + 1, 3, none⟩ = false := by rw [hWx, World.frozen?_setCell]; exact f3
          have x4 : Wx.heap.size = wr.heap.size := by rw [hWx]; simp
          have Hrx : Hid (Wx.ownsRow (w2.heap.size + 1) 37 1 (.slice ao j cp) j (cs.map ptr)) := by
            unfold Hid
            rw [hWx]
            exact ownsRow_setCell_below Hrow.out (by show w2.heap.size < w2.heap.size + 1; omega) _
          have hB2x : w.heap.size + 1 + 1 < Wx.heap.size := by omega
          have hB2y : w.heap.size + 1 + 1 < Wx.heap.size + 1 := by omega
          have hbx : w2.heap.size + 1 ≤ Wx.heap.size := by omega
          have hrl : ∀ e, (Value.slice ao j cp).ownBlock = some e → w2.heap.size + 1 ≤ e := fun e he => (Hrow.out.lt e he).1
          rw [← hWx]
          have HWX : Hid (Wx = wr.setCell ⟨w2.heap.size, j, none⟩ (.int .i64 q)) := hWx
          clear hWx x4 i1 i3 f1 f3 r0 g2 g4
          have HC5 : Hid (∀ (o1 o2 : Obj) (w5 : World), (((Wx.alloc o1).alloc o2).drew).grownBy w5 (Value.slice ao j cp).ownBlock → w5.frozen? ⟨w.heap.size + 1 + 1, 3, none⟩ = false ∧ w5.cell? ⟨w.heap.size + 1 + 1, 3, none⟩ = some (.slice ao j cp)) := by
            intro o1 o2 w5 hg
            have hne : some (w.heap.size + 1 + 1) ≠ (Value.slice ao j cp).ownBlock := fun e => by have := hrl _ e.symm; omega
            refine ⟨?_, ?_⟩
            · rw [grown_frozen hg _ 3 (by simp; omega) hne]
              exact (World.frozen?_alloc_past _ _ _ (by simp; omega)).trans ((World.frozen?_alloc_past _ _ _ hB2x).trans x2)
            · rw [grown_cell hg _ 3 (by simp; omega) hne]
              exact (World.cell?_alloc_past _ _ _ (by simp; omega)).trans ((World.cell?_alloc_past _ _ _ hB2x).trans x1)
          have hwk : IntKind.i64.wrap ((n : Int) + (j : Int) + 1) = (n : Int) + (j : Int) + 1 := by rw [IntKind.wrap_i64]; omega
          have hwl : IntKind.i64.wrap ((n : Int) + (j : Int)) = (n : Int) + (j : Int) := by rw [IntKind.wrap_i64]; omega
          refine wp_then (CutA Wx (w.heap.size + 1 + 1) 3 (w2.heap.size + 1) j [113, 114, 115, 116, 117, 118, 121, 122, 123, 124, 125, 119, 120, 126, 127, 128, 129, 130, 131] (.slice ao j cp) (opArr (key q) false (n + j + 1)) (cs.map ptr)) ?_ ?_
          · intro a0 ha0
            have hsz : a0.tmps.size = 340 := by rw [ha0]; rfl
            have e11 : ∀ h : 11 < a0.tmps.size, a0.tmps[11]'h = .pointer (some ⟨w.heap.size + 1 + 1, 0, none⟩) := by rw [ha0]; intro h; rfl
            have e17 : ∀ h : 17 < a0.tmps.size, a0.tmps[17]'h = .int .i64 j := by rw [ha0]; intro h; rfl
            have e19 : ∀ h : 19 < a0.tmps.size, a0.tmps[19]'h = .int .i64 q := by rw [ha0]; intro h; rfl
            have e0 : ∀ h : 0 < a0.tmps.size, a0.tmps[0]'h = .slice aw n cw := by rw [ha0]; intro h; rfl
            clear ha0
            go_light
            refine wp_region_T 19 (fun w' => w'.cell? ⟨w.heap.size + 1 + 1, 3, none⟩ = some (.slice ao j cp)) (by kernel_rfl) x1 (fun hS => ?_)
            refine wpAnyT_takeY (i := 0) (v := ?_) (by simp only [List.getElem?_toArray, List.getElem?_cons_zero]; rfl) (by decide +kernel) (by decide +kernel) (by decide +kernel) (by decide) (fun _ _ _ h => h) (Or.inl ⟨by rfl, ?_⟩) hS ?_
            rotate_left
            · intro w _
              go_simp
              try with_reducible rfl
            refine wpAnyT_takeY (i := 1) (v := ?_) (by simp only [List.getElem?_toArray, List.getElem?_cons_succ, List.getElem?_cons_zero]; rfl) (by decide +kernel) (by decide +kernel) (by decide +kernel) (by decide) (fun _ _ _ h => h) (Or.inl ⟨by rfl, ?_⟩) hS ?_
            rotate_left
            · intro w _
              go_simp
              try with_reducible rfl
            refine wpAnyT_takeY (i := 2) (v := ?_) (by simp only [List.getElem?_toArray, List.getElem?_cons_succ, List.getElem?_cons_zero]; rfl) (by decide +kernel) (by decide +kernel) (by decide +kernel) (by decide) (fun _ _ _ h => h) (Or.inl ⟨by rfl, ?_⟩) hS ?_
            rotate_left
            · intro w _
              go_simp
              try with_reducible rfl
            refine wpAnyT_takeY (i := 3) (v := ?_) (by simp only [List.getElem?_toArray, List.getElem?_cons_succ, List.getElem?_cons_zero]; rfl) (by decide +kernel) (by decide +kernel) (by decide +kernel) (by decide) (fun _ _ _ h => h) (Or.inl ⟨by rfl, ?_⟩) hS ?_
            rotate_left
            · intro w _
              go_simp
              try with_reducible rfl
            refine wpAnyT_take (i := 4) (v := ?_) (by simp only [List.getElem?_toArray, List.getElem?_cons_succ, List.getElem?_cons_zero]; rfl) (by decide +kernel) (by decide +kernel) (by decide +kernel) (by decide +kernel) (by decide) (by decide +kernel) (fun _ _ _ h => h) (Or.inl ⟨by rfl, ?_⟩) hS ?_
            rotate_left
            · intro w hSw
              go_simp
              try with_reducible rfl
            refine wpAnyT_takeY (i := 5) (v := ?_) (by simp only [List.getElem?_toArray, List.getElem?_cons_succ, List.getElem?_cons_zero]; rfl) (by decide +kernel) (by decide +kernel) (by decide +kernel) (by decide) (fun _ _ _ h => h) (Or.inl ⟨by rfl, ?_⟩) hS ?_
            rotate_left
            · intro w _
              go_simp
              try with_reducible rfl
            refine wpAnyT_takeY (i := 8) (v := ?_) (by simp only [List.getElem?_toArray, List.getElem?_cons_succ, List.getElem?_cons_zero]; rfl) (by decide +kernel) (by decide +kernel) (by decide +kernel) (by decide) (fun _ _ _ h => h) (Or.inl ⟨by rfl, ?_⟩) hS ?_
            rotate_left
            · intro w _
              go_simp
              try with_reducible rfl
            refine wpAnyT_takeY (i := 9) (v := ?_) (by simp only [List.getElem?_toArray, List.getElem?_cons_succ, List.getElem?_cons_zero]; rfl) (by decide +kernel) (by decide +kernel) (by decide +kernel) (by decide) (fun _ _ _ h => h) (Or.inl ⟨by rfl, ?_⟩) hS ?_
            rotate_left
            · intro w _
              go_simp
              try with_reducible rfl
            refine wpAnyT_takeY (i := 10) (v := ?_) (by simp only [List.getElem?_toArray, List.getElem?_cons_succ, List.getElem?_cons_zero]; rfl) (by decide +kernel) (by decide +kernel) (by decide +kernel) (by decide) (fun _ _ _ h => h) (Or.inl ⟨by rfl, ?_⟩) hS ?_
            rotate_left
            · intro w _
              go_simp
              try with_reducible rfl
            refine wpAnyT_takeY (i := 11) (v := ?_) (by simp only [List.getElem?_toArray, List.getElem?_cons_succ, List.getElem?_cons_zero]; rfl) (by decide +kernel) (by decide +kernel) (by decide +kernel) (by decide) (fun _ _ _ h => h) (Or.inl ⟨by rfl, ?_⟩) hS ?_
            rotate_left
            · intro w _
              go_simp
              try with_reducible rfl
            refine wpAnyT_takeY (i := 12) (v := ?_) (by simp only [List.getElem?_toArray, List.getElem?_cons_succ, List.getElem?_cons_zero]; rfl) (by decide +kernel) (by decide +kernel) (by decide +kernel) (by decide) (fun _ _ _ h => h) (Or.inl ⟨by rfl, ?_⟩) hS ?_
            rotate_left
            · intro w _
              go_simp
              try with_reducible rfl
            refine wpAnyT_only (i := 6) (by decide +kernel) (by simp only [List.getElem?_toArray, List.getElem?_cons_succ, List.getElem?_cons_zero]; rfl) rfl ?_
            go_simp
            refine (key_any q hq5 _).mono ?_
            rintro e w' ⟨rfl, rfl⟩
            refine ⟨hS, ?_⟩
            refine wpAnyT_takeY (i := 7) (v := ?_) (by simp only [List.getElem?_toArray, List.getElem?_cons_succ, List.getElem?_cons_zero]; rfl) (by decide +kernel) (by decide +kernel) (by decide +kernel) (by decide) (fun _ _ _ h => h) (Or.inl ⟨by rfl, ?_⟩) hS ?_
            rotate_left
            · intro w _
              go_simp
              try with_reducible rfl
            refine wpAnyT_takeY (i := 13) (v := ?_) (by simp only [List.getElem?_toArray, List.getElem?_cons_succ, List.getElem?_cons_zero]; rfl) (by decide +kernel) (by decide +kernel) (by decide +kernel) (by decide) (fun _ _ _ h => h) (Or.inl ⟨by rfl, ?_⟩) hS ?_
            rotate_left
            · intro w _
              go_simp
              try with_reducible rfl
            refine wpAnyT_only (i := 14) (by decide +kernel) (by simp only [List.getElem?_toArray, List.getElem?_cons_succ, List.getElem?_cons_zero]; rfl) rfl ?_
            go_simp
            refine wpAnyT_only (i := 15) (by decide +kernel) (by simp only [List.getElem?_toArray, List.getElem?_cons_succ, List.getElem?_cons_zero]; rfl) rfl ?_
            go_simp
            refine wpAnyT_only (i := 16) (by decide +kernel) (by simp only [List.getElem?_toArray, List.getElem?_cons_succ, List.getElem?_cons_zero]; rfl) rfl ?_
            obtain ⟨i0, hi, hz0, hz1, hz2⟩ := info_parts info37
            refine wp_append_own _ (.tmp 117) (.tmp 128) 30 rfl (w2.heap.size + 1) 37 i0 (.pointer none) 1 8 Yba.underlying30 hi hz0 hz1 hz2 rfl (by decide) (.slice ao j cp) j (cs.map ptr) (by simp [Act.eval, hsz]) (by exact ((Hrx.out.alloc _).alloc _)) ⟨Wx.heap.size + 1, 0, none⟩ 1 1 [ptr Wx.heap.size] (by simp [Act.eval, hsz]) rfl (by exact one_new Wx _ _) (one_ptr _) (by unfold maxLen; omega) (by omega) (by simp; omega) ?_
            clear hi hz0 hz1 hz2 i0
            intro v5 w5 hown5 hgrow5 _
            obtain ⟨y2, hS5⟩ := HC5.out _ _ _ hgrow5
            refine ⟨.inr hS5, ?_⟩
            clear hS
            have hS := hS5
            obtain ⟨g5, cp5, hv5, hg5, hg5'⟩ := own_form hown5 (by omega)
            subst hv5
            refine wpAnyT_takeY (i := 17) (v := ?_) (by simp only [List.getElem?_toArray, List.getElem?_cons_succ, List.getElem?_cons_zero]; rfl) (by decide +kernel) (by decide +kernel) (by decide +kernel) (by decide) (fun _ _ _ h => h) (Or.inl ⟨by rfl, ?_⟩) hS ?_
            rotate_left
            · intro w _
              go_simp
              try with_reducible rfl
            refine wpAnyT_takeY (i := 18) (v := ?_) (by simp only [List.getElem?_toArray, List.getElem?_cons_succ, List.getElem?_cons_zero]; rfl) (by decide +kernel) (by decide +kernel) (by decide +kernel) (by decide) (fun _ _ _ h => h) (Or.inl ⟨by rfl, ?_⟩) hS ?_
            rotate_left
            · intro w _
              go_simp
              try with_reducible rfl
            refine wpAnyT_only (i := 19) (by decide +kernel) (by simp only [List.getElem?_toArray, List.getElem?_cons_succ, List.getElem?_cons_zero]; rfl) rfl ?_
            go_simp
            refine wpAnyT_done (by decide +kernel) ?_ _
            exact ⟨[ptr (w.heap.size + 1 + 1), ptr (w.heap.size + 1 + 1), ptr (w.heap.size + 1 + 1), .pointer (some ⟨w.heap.size + 1 + 1, 3, none⟩), .slice ao j cp, .int .i64 q, .slice aw n cw, .int .i64 n, .int .i64 j, .int .i64 (n + j), .int .i64 (n + j + 1), .string (key q), .agg #[.string ⟨#[]⟩, .int .i64 0, .int .i64 0, .string (key q), .slice none 0 0, .int .i64 0, .int .i64 0, .bool false, .bool false], .agg #[.string ⟨#[]⟩, .int .i64 0, .int .i64 0, .string (key q), .slice none 0 0, .int .i64 0, .int .i64 0, .bool false, .bool false, .int .i64 (n + j + 1)], ptr Wx.heap.size, .slice (some ⟨Wx.heap.size + 1, 0, none⟩) 1 1, .slice (some ⟨g5, 0, none⟩) (j + 1) cp5, ptr (w.heap.size + 1 + 1), .pointer (some ⟨w.heap.size + 1 + 1, 3, none⟩)], _, w5, rfl, by simp only [putAll, Act.put, ptr], rfl, hown5, hgrow5⟩
          · intro a0 a' w' ha0 hR'
            obtain ⟨us, v5, w5, hus, ha', hw', hown5, hgrow5⟩ := hR'
            obtain ⟨u0, u1, u2, u3, u4, u5, u6, u7, u8, u9, u10, u11, u12, u13, u14, u15, u16, u17, u18, hus'⟩ := list19 hus
            rw [ha', ha0, hus', hw']
            clear ha' ha0 hus' hus hw' us
            simp only [putAll, Act.put, List.setIfInBounds_toArray, List.set_cons_succ, List.set_cons_zero]
            go_wp2
            go_roundw
            case rel =>
              go_light
              exact ⟨j + 1, v5, cs ++ [Wx.heap.size], by omega, by go_num, HS3'.out.step HST2.out hjm HQQ.out HWX.out hown5 hgrow5⟩
            case measure => simp [intOf]; omega
        · have hjm' : j = m := by omega
          have HS4 : Hid (St3 w w2 n v R m m v2 cs wr) := by
            have h := HS3'.out
            rw [hjm'] at h
            exact h
          clear HS3' HRD hjm'
          obtain ⟨w4, hw4⟩ : ∃ x, x = wr := ⟨_, rfl⟩
          subst hw4
          obtain ⟨aw1, cp1, hsh1⟩ : ∃ ao cp, v = .slice ao n cp := own_shape HST2.out.row
          obtain ⟨aw2, cp2, hsh2⟩ : ∃ ao cp, v2 = .slice ao m cp := own_shape HS4.out.row
          subst hsh1
          subst hsh2
          have r1 := HS4.out.rw
          have r2 := HS4.out.rr.1
          have hs5 := HS4.out.size
          have g2 : w.heap.size + 1 + 1 < w4.heap.size := by omega
          have HBa : Hid (∀ w5, w4.grownBy w5 none → Below w4.heap.size w4 w5) := fun w5 hg => (Below.refl _ _).grown hg (Nat.le_refl _) (by simp)
          have hmm := @run_makeMap Yba.prog
          go_wp2_with (first
            | (at_make; refine make30 (.tmp 137) rfl n rfl w4.heap.size (by omega) (Nat.le_refl _) rfl ?_; intro w5 cur5 hcur5 hlen5 hgrow5; have hb5 := HBa.out w5 hgrow5; have HG5 : Hid (w5.heap[w4.heap.size]? = some (.cells cur5.toArray 37 (0, 0))) := hcur5; have HB5 : Hid (Below w4.heap.size w4 w5) := hb5; have r15 := (hb5.cell (p := ⟨w.heap.size + 1 + 1, 2, none⟩) g2).trans r1; clear hcur5 hgrow5 hb5)
            | (refine wpList_copy_splice rfl (.tmp 139) (.tmp 143) 30 30 rfl 37 Yba.underlying30 (by kernel_rfl) _ _ _ _ _ _ rfl rfl w4.heap.size 0 cur5 37 HG5.out (bs.map ptr) (by simp [HST2.out.len]) (fun h => ⟨rfl, src_w HST2.out HS4.out HB5.out h⟩) (by simp [HST2.out.len]; omega) (ptrs_one _) w4.heap.size w4 HB5.out (Nat.le_refl _) ?_; intro w5c HG5c hb5c; have HB5c : Hid (Below w4.heap.size w4 w5c) := hb5c; have hs5c := hb5c.size; have r25 := (hb5c.cell (p := ⟨w.heap.size + 1 + 1, 3, none⟩) g2).trans r2; have HBb : Hid (∀ w5, w5c.grownBy w5 none → Below w5c.heap.size w5c w5) := (fun w5 hg => (Below.refl _ _).grown hg (Nat.le_refl _) (by simp)); have g25 : w.heap.size + 1 + 1 < w5c.heap.size := Nat.lt_of_lt_of_le g2 hs5c; clear hb5c)
            | (at_make; refine make30 (.tmp 149) rfl m rfl w5c.heap.size (by omega) (Nat.le_refl _) rfl ?_; intro w6 cur6 hcur6 hlen6 hgrow6; have hb6 := HBb.out w6 hgrow6; have HG6 : Hid (w6.heap[w5c.heap.size]? = some (.cells cur6.toArray 37 (0, 0))) := hcur6; have HB6 : Hid (Below w5c.heap.size w5c w6) := hb6; have r26 := (hb6.cell (p := ⟨w.heap.size + 1 + 1, 3, none⟩) g25).trans r25; clear hcur6 hgrow6 hb6)
            | (refine wpList_copy_splice rfl (.tmp 151) (.tmp 155) 30 30 rfl 37 Yba.underlying30 (by kernel_rfl) _ _ _ _ _ _ rfl rfl w5c.heap.size 0 cur6 37 HG6.out (cs.map ptr) (by simp [HS4.out.len]) (fun h => ⟨rfl, src_r HS4.out (HB5c.out.trans (HB6.out.mono hs5c)) h⟩) (by simp [HS4.out.len]; omega) (ptrs_one _) w5c.heap.size w5c HB6.out (Nat.le_refl _) ?_; intro w7 HG7 hb7; have HB7 : Hid (Below w5c.heap.size w5c w7) := hb7; clear hb7)
            | fail)
          have HS7 : Hid (St7 w n m aw1 aw2 cp1 cp2 w2.heap.size w4.heap.size w5c.heap.size (fun t => bs.getD t 0) (fun t => cs.getD t 0) (kW V) (kW R) Pd (hv p V n) A w7) := by
            have e5 : splice cur5 0 (bs.map ptr) = bs.map ptr := splice_all _ _ (by simp [HST2.out.len, hlen5])
            have e7 : splice cur6 0 (cs.map ptr) = cs.map ptr := splice_all _ _ (by simp [HS4.out.len, hlen6])
            have hg5 := HG5c.out
            have hg7 := HG7.out
            rw [e5] at hg5
            rw [e7] at hg7
            exact St7.of HST2.out HS4.out hV hR (HB5c.out.trans (HB7.out.mono hs5c)) _ _ ((HB7.out.block _ (Array.getElem?_eq_some_iff.1 hg5).1).trans hg5) hg7
          clear HG5c HG7 HB5c HB7 HG5 HG6 HB5 HB6 HBa HBb hlen5 hlen6 r15 r25 r26 r1 r2 g2 g25 hs5 HST2 HS4
          go_loopw [23] (fun i wz => ∃ (k : Nat) (vb : Nat → Nat) (D : DataW Unit), k ≤ 5 ∧ i = .int .i64 k ∧ StM w7 (hv p V n) A k vb D wz) (fun i _ => 5 - (intOf i).toNat)
          case atStart => exact ⟨0, fun _ => 0, _, by omega, rfl, StM.start _ _ _ _⟩
          case round =>
            obtain ⟨k, vb, D, hk, rfl, hstm⟩ := hrel
            have HM : Hid (StM w7 (hv p V n) A k vb D wr) := hstm
            clear hstm
            by_cases hk5 : k < 5
            · have a0' := (HS7.out.move HM.out.below).hav k hk5
              have a1 := (HS7.out.move HM.out.below).ages k hk5
              have hki : (k : Int) < 5 := by omega
              by_cases hH : hv p V n k = true
              · rw [hH] at a0'
                go_wp2
                obtain ⟨w8, hrun8', hM⟩ := HM.out.put hk5 hH
                have hrun8 : (Instr.mapUpdate 45 (.map (some w7.heap.size)) (.string (key k)) (.pointer (some ⟨wr.heap.size, 0, none⟩))).run Yba.prog (wr.alloc (.cells #[.pointer none, .int .i64 (A k)] 48)).drew = .ok () w8 := hrun8'
                clear hrun8'
                have a1a : (wr.drew.alloc (.cells #[.pointer none, .int .i64 (A k)] 48)).cell? ⟨w.heap.size, k, none⟩ = some (.int .i64 (A k)) := (World.cell?_alloc_past _ _ _ (by exact World.block_lt_of_cell? wr _ a1)).trans a1
                have a1b : w8.cell? ⟨w.heap.size, k, none⟩ = some (.int .i64 (A k)) := by
                  obtain ⟨vb', D', hM'⟩ := hM
                  exact (HS7.out.move hM'.below).ages k hk5
                refine wp_then (fun a0 a' w' => ∃ us, us.length = 8 ∧ a' = putAll a0 [165, 166, 168, 169, 170, 171, 167, 172] us ∧ ∃ vb' D', StM w7 (hv p V n) A (k + 1) vb' D' w') ?_ ?_
                · intro a0 ha0
                  have hsz : a0.tmps.size = 340 := by rw [ha0]; rfl
                  have e22 : ∀ h : 22 < a0.tmps.size, a0.tmps[22]'h = .map (some w7.heap.size) := by rw [ha0]; intro h; rfl
                  have e23 : ∀ h : 23 < a0.tmps.size, a0.tmps[23]'h = .int .i64 k := by rw [ha0]; intro h; rfl
                  have e7 : ∀ h : 7 < a0.tmps.size, a0.tmps[7]'h = .pointer (some ⟨w.heap.size, 0, none⟩) := by rw [ha0]; intro h; rfl
                  clear ha0
                  go_light
                  refine wp_region_T 99 (fun w' => w'.cell? ⟨w.heap.size, k, none⟩ = some (.int .i64 (A k))) (by kernel_rfl) a1 (fun hS => ?_)
                  refine wpAnyT_takeY (i := 0) (v := ?_) (by simp only [List.getElem?_toArray, List.getElem?_cons_zero]; rfl) (by decide +kernel) (by decide +kernel) (by decide +kernel) (by decide) (fun _ _ _ h => h) (Or.inl ⟨by rfl, ?_⟩) hS ?_
                  rotate_left
                  · intro w _
                    go_simp
                    try with_reducible rfl
                  refine wpAnyT_takeY (i := 1) (v := ?_) (by simp only [List.getElem?_toArray, List.getElem?_cons_succ, List.getElem?_cons_zero]; rfl) (by decide +kernel) (by decide +kernel) (by decide +kernel) (by decide) (fun _ _ _ h => h) (Or.inl ⟨by rfl, ?_⟩) hS ?_
                  rotate_left
                  · intro w _
                    go_simp
                    try with_reducible rfl
                  refine wpAnyT_takeY (i := 3) (v := ?_) (by simp only [List.getElem?_toArray, List.getElem?_cons_succ, List.getElem?_cons_zero]; rfl) (by decide +kernel) (by decide +kernel) (by decide +kernel) (by decide) (fun _ _ _ h => h) (Or.inl ⟨by rfl, ?_⟩) hS ?_
                  rotate_left
                  · intro w _
                    go_simp
                    try with_reducible rfl
                  refine wpAnyT_takeY (i := 4) (v := ?_) (by simp only [List.getElem?_toArray, List.getElem?_cons_succ, List.getElem?_cons_zero]; rfl) (by decide +kernel) (by decide +kernel) (by decide +kernel) (by decide) (fun _ _ _ h => h) (Or.inl ⟨by rfl, ?_⟩) hS ?_
                  rotate_left
                  · intro w _
                    go_simp
                    try with_reducible rfl
                  refine wpAnyT_take (i := 5) (v := ?_) (by simp only [List.getElem?_toArray, List.getElem?_cons_succ, List.getElem?_cons_zero]; rfl) (by decide +kernel) (by decide +kernel) (by decide +kernel) (by decide +kernel) (by decide) (by decide +kernel) (fun _ _ _ h => h) (Or.inl ⟨by rfl, ?_⟩) hS ?_
                  rotate_left
                  · intro w hSw
                    go_simp
                    try with_reducible rfl
                  refine wpAnyT_takeY (i := 6) (v := ?_) (by simp only [List.getElem?_toArray, List.getElem?_cons_succ, List.getElem?_cons_zero]; rfl) (by decide +kernel) (by decide +kernel) (by decide +kernel) (by decide) (fun _ _ _ h => h) (Or.inl ⟨by rfl, ?_⟩) hS ?_
                  rotate_left
                  · intro w _
                    go_simp
                    try with_reducible rfl
                  refine wpAnyT_two (i := 2) (j := 7) (by decide +kernel) (by simp only [List.getElem?_toArray, List.getElem?_cons_succ, List.getElem?_cons_zero]; rfl) rfl (by simp only [List.getElem?_toArray, List.getElem?_cons_succ, List.getElem?_cons_zero]; rfl) rfl ?_ ?_
                  · go_simp
                    refine (key_any k hk5 _).mono ?_
                    rintro e w' ⟨rfl, rfl⟩
                    refine ⟨hS, ?_⟩
                    refine wpAnyT_only (i := 7) (by decide +kernel) (by simp only [List.getElem?_toArray, List.getElem?_cons_succ, List.getElem?_cons_zero]; rfl) rfl ?_
                    go_simp
                    refine ⟨a1a, ?_⟩
                    refine wpAnyT_only (i := 8) (by decide +kernel) (by simp only [List.getElem?_toArray, List.getElem?_cons_succ, List.getElem?_cons_zero]; rfl) rfl ?_
                    go_simp
                    refine wpAnyT_done (by decide +kernel) ?_ _
                    exact ⟨[.map (some w7.heap.size), .int .i64 k, .int .i64 k, .pointer (some ⟨w.heap.size, k, none⟩), .int .i64 (A k), .agg #[.pointer none, .int .i64 (A k)], .string (key k), ptr wr.heap.size], rfl, by simp only [putAll, Act.put, ptr], hM⟩
                  · go_simp
                    refine ⟨a1a, ?_⟩
                    clear hS
                    have hS := a1a
                    refine wpAnyT_only (i := 2) (by decide +kernel) (by simp only [List.getElem?_toArray, List.getElem?_cons_succ, List.getElem?_cons_zero]; rfl) rfl ?_
                    go_simp
                    refine (key_any k hk5 _).mono ?_
                    rintro e w' ⟨rfl, rfl⟩
                    refine ⟨hS, ?_⟩
                    refine wpAnyT_only (i := 8) (by decide +kernel) (by simp only [List.getElem?_toArray, List.getElem?_cons_succ, List.getElem?_cons_zero]; rfl) rfl ?_
                    go_simp
                    refine wpAnyT_done (by decide +kernel) ?_ _
                    exact ⟨[.map (some w7.heap.size), .int .i64 k, .int .i64 k, .pointer (some ⟨w.heap.size, k, none⟩), .int .i64 (A k), .agg #[.pointer none, .int .i64 (A k)], .string (key k), ptr wr.heap.size], rfl, by simp only [putAll, Act.put, ptr]; rw [Array.setIfInBounds_comm (i := 172) (j := 167) _ _ (by decide)], hM⟩
                · intro a0 a' w' ha0 hR'
                  obtain ⟨us, hus, ha', vb', D', hM'⟩ := hR'
                  obtain ⟨u0, u1, u2, u3, u4, u5, u6, u7, hus'⟩ := list8 hus
                  rw [ha', ha0, hus']
                  clear ha' ha0 hus' hus us
                  simp only [putAll, Act.put, List.setIfInBounds_toArray, List.set_cons_succ, List.set_cons_zero]
                  have HM' : Hid (StM w7 (hv p V n) A (k + 1) vb' D' w') := hM'
                  clear hM'
                  go_wp2
                  go_roundw
                  case rel =>
                    go_light
                    exact ⟨k + 1, vb', D', by omega, by go_num, HM'.out⟩
                  case measure => simp [intOf]; omega
              · have hHf : hv p V n k = false := by simpa using hH
                rw [hHf] at a0'
                go_wp2
                go_roundw
                case rel =>
                  go_light
                  exact ⟨k + 1, vb, D, by omega, by go_num, HM.out.skip hk5 hHf⟩
                case measure => simp [intOf]; omega
            · have hk5' : k = 5 := by omega
              have HM5 : Hid (StM w7 (hv p V n) A 5 vb D wr) := by
                have h := HM.out
                rw [hk5'] at h
                exact h
              clear HM hk5'
              obtain ⟨w8, hw8⟩ : ∃ x, x = wr := ⟨_, rfl⟩
              subst hw8
              have hpp := ptr_neq
              go_wp2_with fail
              refine (returned_any (HS7.out.in5 hn hm HM5.out)).mono ?_
              rintro e w9 ⟨o9, u9, rfl, hb9, ho9, hu9⟩
              have HS9 : Hid (St7 w n m aw1 aw2 cp1 cp2 w2.heap.size w4.heap.size w5c.heap.size (fun t => bs.getD t 0) (fun t => cs.getD t 0) (kW V) (kW R) Pd (hv p V n) A w9) := (HS7.out.move HM5.out.below).move hb9
              generalize hB : (fun t => bs.getD t 0) = B at *
              generalize hC : (fun t => cs.getD t 0) = C at *
              obtain ⟨ao, capo, hsh⟩ := own_shape ho9
              obtain ⟨au, capu, hshu⟩ := own_shape hu9
              subst hsh
              subst hshu
              generalize hT : cntW Pd n + cntW (fun t => !hv p V n (kW R t)) m = T at *
              generalize hU : cntW (fun t => hv p V n (kW R t)) m = U at *
              have HO : Hid (w9.ownsRow w8.heap.size 53 2 (.slice ao T capo) T (rowW A B (kW V) Pd n ++ rowW A C (kW R) (fun t => !hv p V n (kW R t)) m)) := ho9
              have HU : Hid (w9.ownsRow w8.heap.size 37 1 (.slice au U capu) U (rowU C (fun t => hv p V n (kW R t)) m)) := hu9
              have HT : Hid (cntW Pd n + cntW (fun t => !hv p V n (kW R t)) m = T) := hT
              have HUU : Hid (cntW (fun t => hv p V n (kW R t)) m = U) := hU
              have hT2 : T ≤ 2048 := by have := cntW_le Pd n; have := cntW_le (fun t => !hv p V n (kW R t)) m; omega
              have hU2 : U ≤ 1024 := by have := cntW_le (fun t => hv p V n (kW R t)) m; omega
              clear ho9 hu9 hb9 hT hU hB hC HM5 HS7 hmm
              go_wp2
              go_loopw [181, 26] (fun i j wz => ∃ k : Nat, k ≤ n ∧ i = .int .i64 k ∧ j = .int .i64 (cntW Pd k) ∧ Below w9.heap.size w9 wz) (fun i _ _ => n - (intOf i).toNat)
              case atStart => exact ⟨0, Nat.zero_le _, rfl, rfl, Below.refl _ _⟩
              case round =>
                obtain ⟨k, hk, rfl, rfl, hbw⟩ := hrel
                have HB : Hid (Below w9.heap.size w9 wr) := hbw
                have HSr : Hid (St7 w n m aw1 aw2 cp1 cp2 w2.heap.size w4.heap.size w5c.heap.size B C (kW V) (kW R) Pd (hv p V n) A wr) := HS9.out.move hbw
                clear hbw
                by_cases hlt : k < n
                · obtain ⟨bw, ow, rfl, hcw⟩ := HWR.out (by omega)
                  have cw1 := (hcw k hlt).2
                  have r1 : wr.cell? ⟨bw, ow + k * 2 + 1, none⟩ = some (.bool (Pd k)) := (HSr.out.below.cell (World.block_lt_of_cell? w _ cw1)).trans cw1
                  clear hcw cw1
                  have b1 : wr.cell? ⟨w4.heap.size, k, none⟩ = some (.pointer (some ⟨B k, 0, none⟩)) := HSr.out.wbf k hlt
                  by_cases hp : Pd k = true
                  · rw [hp] at r1
                    go_wp2
                    go_roundw
                    case rel =>
                      go_light
                      exact ⟨k + 1, by omega, by go_num, by simp [cntW, hp], HB.out⟩
                    case measure => simp [intOf]; omega
                  · have hpf : Pd k = false := by simpa using hp
                    rw [hpf] at r1
                    have hc1 : cntW Pd k < cntW Pd n := cntW_lt Pd hlt hpf
                    have hc2 : cntW Pd k < T := by have := HT.out; omega
                    have hc3 := cntW_le Pd k
                    obtain ⟨g, cap, hsh, hcell⟩ := own_at HO.out HB.out hc2 (by omega)
                    simp only [Value.slice.injEq, true_and] at hsh
                    obtain ⟨rfl, rfl⟩ := hsh
                    have hat := rowW_at A B (kW V) Pd hlt hpf [] (rowW A C (kW R) (fun t => !hv p V n (kW R t)) m)
                    simp only [List.nil_append, List.length_nil, Nat.zero_add] at hat
                    have d1 : wr.cell? ⟨g, cntW Pd k * 2, none⟩ = some (.pointer (some ⟨B k, 0, none⟩)) := hcell _ _ hat.1
                    have d2 : wr.cell? ⟨g, cntW Pd k * 2 + 1, none⟩ = some (.int .i64 (A (kW V k))) := hcell _ _ hat.2
                    have d3 := HSr.out.widx k hlt
                    have hq5 := HSr.out.kv5 k
                    have d4 := HSr.out.ages (kW V k) hq5
                    clear hat hcell
                    generalize hqq : kW V k = q at *
                    have q5 : (q : Int) < 5 := by omega
                    clear hqq
                    have HC : Hid (cntW Pd (k + 1) = cntW Pd k + 1) := by show _ = _; simp [cntW, hpf]
                    generalize hcc : cntW Pd k = c at *
                    clear hcc
                    have hdec : decide ((T : Int) ≤ (c : Int)) = false := by simp; omega
                    go_wp2
                    go_quiet (fail)
                    go_wp2
                    go_roundw
                    case rel =>
                      go_light
                      exact ⟨k + 1, by omega, by go_num, by rw [HC.out]; go_num, below_drewN HB.out _⟩
                    case measure => simp [intOf]; omega
                · have hkn : k = n := by omega
                  subst hkn
                  obtain ⟨wa, hwa⟩ : ∃ x, x = wr := ⟨_, rfl⟩
                  subst hwa
                  have hcn := cntW_le Pd k
                  generalize hcN : cntW Pd k = cN at *
                  have HcN : Hid (cntW Pd k = cN) := hcN
                  clear hcN
                  go_wp2
                  go_loopw [223, 26, 29] (fun i j u wz => ∃ k2 : Nat, k2 ≤ m ∧ i = .int .i64 k2 ∧ j = .int .i64 (cN + cntW (fun t => !hv p V k (kW R t)) k2 : Nat) ∧ u = .int .i64 (cntW (fun t => hv p V k (kW R t)) k2) ∧ Below w9.heap.size w9 wz) (fun i _ _ _ => m - (intOf i).toNat)
                  case atStart => exact ⟨0, Nat.zero_le _, rfl, by simp [cntW], rfl, HB.out⟩
                  case round =>
                    obtain ⟨k2, hk2, rfl, rfl, rfl, hbw⟩ := hrel
                    have HB2 : Hid (Below w9.heap.size w9 wr) := hbw
                    have HSr2 : Hid (St7 w k m aw1 aw2 cp1 cp2 w2.heap.size w4.heap.size w5c.heap.size B C (kW V) (kW R) Pd (hv p V k) A wr) := HS9.out.move hbw
                    clear hbw
                    by_cases hlt2 : k2 < m
                    · have b1 : wr.cell? ⟨w5c.heap.size, k2, none⟩ = some (.pointer (some ⟨C k2, 0, none⟩)) := HSr2.out.rbf k2 hlt2
                      have d3 := HSr2.out.ridx k2 hlt2
                      have hq5 := HSr2.out.kr5 k2
                      have d4 := HSr2.out.ages (kW R k2) hq5
                      have d5 := HSr2.out.hav (kW R k2) hq5
                      have hc3 := cntW_le (fun t => !hv p V k (kW R t)) k2
                      have hc4 := cntW_le (fun t => hv p V k (kW R t)) k2
                      have q5 : ((kW R k2 : Nat) : Int) < 5 := by omega
                      by_cases hp : hv p V k (kW R k2) = true
                      · have hpf : (fun t => !hv p V k (kW R t)) k2 = false := by simp [hp]
                        rw [hp] at d5
                        have hc1 : cntW (fun t => !hv p V k (kW R t)) k2 < cntW (fun t => !hv p V k (kW R t)) m := cntW_lt _ hlt2 hpf
                        have hc2 : cN + cntW (fun t => !hv p V k (kW R t)) k2 < T := by have := HT.out; omega
                        obtain ⟨g, cap, hsh, hcell⟩ := own_at HO.out HB2.out hc2 (by omega)
                        simp only [Value.slice.injEq, true_and] at hsh
                        obtain ⟨rfl, rfl⟩ := hsh
                        have hat := rowW_at A C (kW R) (fun t => !hv p V k (kW R t)) hlt2 hpf (rowW A B (kW V) Pd k) []
                        simp only [List.append_nil, rowW_len, HcN.out, ← Nat.add_mul] at hat
                        have d1 : wr.cell? ⟨g, (cN + cntW (fun t => !hv p V k (kW R t)) k2) * 2, none⟩ = some (.pointer (some ⟨C k2, 0, none⟩)) := hcell _ _ hat.1
                        have d2 : wr.cell? ⟨g, (cN + cntW (fun t => !hv p V k (kW R t)) k2) * 2 + 1, none⟩ = some (.int .i64 (A (kW R k2))) := hcell _ _ hat.2
                        clear hat hcell
                        have HC1 : Hid (cN + cntW (fun t => !hv p V k (kW R t)) (k2 + 1) = cN + cntW (fun t => !hv p V k (kW R t)) k2 + 1) := by show _ = _; simp [cntW, hp]; omega
                        have HC2 : Hid (cntW (fun t => hv p V k (kW R t)) (k2 + 1) = cntW (fun t => hv p V k (kW R t)) k2) := by show _ = _; simp [cntW, hp]
                        clear hp hpf
                        generalize hqq : kW R k2 = q at *
                        clear hqq
                        have hc5 : cN + cntW (fun t => !hv p V k (kW R t)) k2 ≤ 2048 := by omega
                        clear hc1
                        generalize hcc : cN + cntW (fun t => !hv p V k (kW R t)) k2 = c at *
                        clear hcc
                        generalize hcu : cntW (fun t => hv p V k (kW R t)) k2 = cu at *
                        clear hcu
                        have hdec : decide ((T : Int) ≤ (c : Int)) = false := by simp; omega
                        go_wp2
                        go_quiet (fail)
                        go_wp2
                        go_roundw
                        case rel =>
                          go_light
                          exact ⟨k2 + 1, by omega, by go_num, by rw [HC1.out]; go_num, by rw [HC2.out], below_drewN HB2.out _⟩
                        case measure => simp [intOf]; omega
                      · have hpf : hv p V k (kW R k2) = false := by simpa using hp
                        rw [hpf] at d5
                        have hc1 : cntW (fun t => hv p V k (kW R t)) k2 < U := by have := HUU.out; have := cntW_lt (fun t => hv p V k (kW R t)) hlt2 hpf; omega
                        obtain ⟨g, cap, hsh, hcell⟩ := own_at HU.out HB2.out hc1 (by omega)
                        simp only [Value.slice.injEq, true_and] at hsh
                        obtain ⟨rfl, rfl⟩ := hsh
                        have d1 : wr.cell? ⟨g, cntW (fun t => hv p V k (kW R t)) k2, none⟩ = some (.pointer (some ⟨C k2, 0, none⟩)) := hcell _ _ (rowU_at C (fun t => hv p V k (kW R t)) hlt2 hpf)
                        clear hcell
                        have HC1 : Hid (cntW (fun t => !hv p V k (kW R t)) (k2 + 1) = cntW (fun t => !hv p V k (kW R t)) k2) := by show _ = _; simp [cntW, hpf]
                        have HC2 : Hid (cntW (fun t => hv p V k (kW R t)) (k2 + 1) = cntW (fun t => hv p V k (kW R t)) k2 + 1) := by show _ = _; simp [cntW, hpf]
                        clear hp hpf
                        generalize hqq : kW R k2 = q at *
                        clear hqq
                        generalize hcc : cntW (fun t => !hv p V k (kW R t)) k2 = c at *
                        clear hcc
                        generalize hcu : cntW (fun t => hv p V k (kW R t)) k2 = cu at *
                        clear hcu
                        have hdec : decide ((U : Int) ≤ (cu : Int)) = false := by simp; omega
                        go_wp2
                        go_roundw
                        case rel =>
                          go_light
                          exact ⟨k2 + 1, by omega, by go_num, by rw [HC1.out, Int.natCast_add], by rw [HC2.out]; go_num, HB2.out⟩
                        case measure => simp [intOf]; omega
                    · have hkm : k2 = m := by omega
                      subst hkm
                      obtain ⟨wb, hwb⟩ : ∃ x, x = wr := ⟨_, rfl⟩
                      subst hwb
                      have hT' := HT.out
                      have hU' := HUU.out
                      rw [hT', hU']
                      have s1 := HSr2.out.rw
                      have s2 := HSr2.out.rr
                      clear hT' hU'
                      go_wp2
                      go_loopw [306] (fun i wz => ∃ k3 : Nat, k3 ≤ k ∧ i = .int .i64 k3 ∧ Below w9.heap.size w9 wz) (fun i _ => k - (intOf i).toNat)
                      case atStart => exact ⟨0, Nat.zero_le _, rfl, HB2.out⟩
                      case round =>
                        obtain ⟨k3, hk3, rfl, hbw⟩ := hrel
                        have HB3 : Hid (Below w9.heap.size w9 wr) := hbw
                        have HSr3 : Hid (St7 w k k2 aw1 aw2 cp1 cp2 w2.heap.size w4.heap.size w5c.heap.size B C (kW V) (kW R) Pd (hv p V k) A wr) := HS9.out.move hbw
                        clear hbw
                        have t1 := HSr3.out.rw
                        have t2 := HSr3.out.rr
                        by_cases hlt3 : k3 < k
                        · obtain ⟨g, o, rfl, hc⟩ := HSr3.out.wr (by omega)
                          have c1 : wr.cell? ⟨g, o + k3, none⟩ = some (.pointer (some ⟨B k3, 0, none⟩)) := hc k3 hlt3
                          have c2 : wr.cell? ⟨w4.heap.size, k3, none⟩ = some (.pointer (some ⟨B k3, 0, none⟩)) := HSr3.out.wbf k3 hlt3
                          clear hc
                          go_wp2
                          go_quiet (fail)
                          go_wp2
                          go_roundw
                          case rel =>
                            go_light
                            exact ⟨k3 + 1, by omega, by go_num, below_drewN HB3.out _⟩
                          case measure => simp [intOf]; omega
                        · have hk3k : k3 = k := by omega
                          subst hk3k
                          obtain ⟨wc, hwc⟩ : ∃ x, x = wr := ⟨_, rfl⟩
                          subst hwc
                          go_wp2
                          go_loopw [324] (fun i wz => ∃ k4 : Nat, k4 ≤ k2 ∧ i = .int .i64 k4 ∧ Below w9.heap.size w9 wz) (fun i _ => k2 - (intOf i).toNat)
                          case atStart => exact ⟨0, Nat.zero_le _, rfl, HB3.out⟩
                          case round =>
                            obtain ⟨k4, hk4, rfl, hbw⟩ := hrel
                            have HB4 : Hid (Below w9.heap.size w9 wr) := hbw
                            have HSr4 : Hid (St7 w k3 k2 aw1 aw2 cp1 cp2 w2.heap.size w4.heap.size w5c.heap.size B C (kW V) (kW R) Pd (hv p V k3) A wr) := HS9.out.move hbw
                            clear hbw
                            have t3 := HSr4.out.rr
                            by_cases hlt4 : k4 < k2
                            · obtain ⟨g, o, rfl, hc⟩ := HSr4.out.rd (by omega)
                              have c1 : wr.cell? ⟨g, o + k4, none⟩ = some (.pointer (some ⟨C k4, 0, none⟩)) := hc k4 hlt4
                              have c2 : wr.cell? ⟨w5c.heap.size, k4, none⟩ = some (.pointer (some ⟨C k4, 0, none⟩)) := HSr4.out.rbf k4 hlt4
                              clear hc
                              go_wp2
                              go_quiet (fail)
                              go_wp2
                              go_roundw
                              case rel =>
                                go_light
                                exact ⟨k4 + 1, by omega, by go_num, below_drewN HB4.out _⟩
                              case measure => simp [intOf]; omega
                            · have hk4k : k4 = k2 := by omega
                              go_wp2
                              go_ret
                              exact ⟨rfl, HSr4.out.below⟩

end Go.Proofs.Ybulkfii.lawS0307AReturned
