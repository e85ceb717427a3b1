/-
  LawS0307AReturned: the map of the values, and what holds from the copies on. By an AI agent.
-/
import Derived.Test.YbulkfiiRetOps
import Derived.Laws.CopyOwn
import Derived.StringKeys
namespace Go.Proofs.Ybulkfii.lawS0307AReturned
open Go.ChangeShapes Go.WideShapes Go.ChangeAt Go.RowKit Go.Maps
set_option linter.unusedVariables false

theorem law9 : Keyed Yba.prog 9 := string_keyed Yba.underlying9
theorem zero46 (w : World) : (zeroValue 46).run Yba.prog w = .ok (.pointer none) w := by kernel_rfl
/-- How a pointer reads: by its block's number. -/
def Rp : Value → Option (DataW Unit × List MemPlace)
  | .pointer none => some (.lit (.bool false), [])
  | .pointer (some ⟨b, 0, none⟩) => some (.lit (.int .i64 b), [])
  | _ => none
theorem Rp_ptr (b : Nat) : Rp (ptr b) = some (.lit (.int .i64 b), []) := rfl
theorem Rp_inv_none {v : Value} {ps : List MemPlace} (h : Rp v = some (.lit (.bool false), ps)) : v = .pointer none := by
  unfold Rp at h
  split at h
  · rfl
  · simp at h
  · cases h
theorem Rp_inv {v : Value} {b : Nat} {ps : List MemPlace} (h : Rp v = some (.lit (.int .i64 b), ps)) : v = ptr b := by
  unfold Rp at h
  split at h
  · simp at h
  · simp at h
    obtain ⟨h1, _⟩ := h
    unfold ptr
    have : ∀ x y : Nat, (x : Int) = (y : Int) → x = y := fun x y h => by omega
    rw [this _ _ h1]
  · cases h
def klit (q : Nat) : Lit := .string (key q).data.toList
theorem keyOf_key (q : Nat) (hq : q < 5) : keyOf Yba.prog 9 (.string (key q)) = some (klit q) := by
  refine Go.WideMaps.keyOf_string_mk Yba.underlying9 ?_
  match q, hq with
  | 0, _ => exact (by decide) | 1, _ => exact (by decide) | 2, _ => exact (by decide) | 3, _ => exact (by decide) | 4, _ => exact (by decide)
theorem klit_ne (q : Nat) (hq : q < 5) (r : Nat) (hr : r < 5) (hne : q ≠ r) : klit q ≠ klit r := by
  intro h
  have h1 : (key q).data.toList = (key r).data.toList := by simpa [klit] using h
  have h2 : ∀ q < 5, ∀ r < 5, q ≠ r → (key q).data.toList ≠ (key r).data.toList := by decide
  exact h2 q hq r hr hne h1

structure StM (w7 : World) (H : Nat → Bool) (A : Nat → Int) (k : Nat) (vb : Nat → Nat) (D : DataW Unit) (wz : World) : Prop where
  below : Below w7.heap.size w7 wz
  own : wz.ownsMap Yba.prog 9 Rp w7.heap.size k D
  at_ : ∀ q, q < 5 → D.atKey (klit q) (.lit (.bool false)) = if q < k ∧ H q = true then .lit (.int .i64 (vb q)) else .lit (.bool false)
  val : ∀ q, q < k → H q = true → w7.heap.size < vb q ∧ wz.cell? ⟨vb q, 1, none⟩ = some (.int .i64 (A q))

theorem StM.start (w7 : World) (H : Nat → Bool) (A : Nat → Int) (vb : Nat → Nat) : StM w7 H A 0 vb (.map []) (w7.alloc (.map #[] 0)) :=
  ⟨(Below.refl _ _).alloc (Nat.le_refl _) _, World.ownsMap_made _ _ _ _, fun q _ => by simp [DataW.atKey], fun q hq => by omega⟩

theorem StM.skip {w7 wz : World} {H : Nat → Bool} {A : Nat → Int} {k : Nat} {vb : Nat → Nat} {D : DataW Unit} (h : StM w7 H A k vb D wz) (hk : k < 5) (hH : H k = false) : StM w7 H A (k + 1) vb D wz := by
  refine ⟨h.below, h.own.mono (by omega), ?_, ?_⟩
  · intro q hq
    rw [h.at_ q hq]
    by_cases hqk : q = k
    · subst hqk; simp [hH]
    · by_cases h1 : q < k
      · simp [h1, show q < k + 1 by omega]
      · simp [h1, show ¬ q < k + 1 by omega]
  · intro q hq hHq
    by_cases hqk : q = k
    · subst hqk; rw [hH] at hHq; cases hHq
    · exact h.val q (by omega) hHq

theorem StM.put {w7 wz : World} {H : Nat → Bool} {A : Nat → Int} {k : Nat} {vb : Nat → Nat} {D : DataW Unit} (h : StM w7 H A k vb D wz) (hk : k < 5) (hH : H k = true) :
    ∃ w', (Instr.mapUpdate 45 (.map (some w7.heap.size)) (.string (key k)) (.pointer (some ⟨wz.heap.size, 0, none⟩))).run Yba.prog (wz.drew.alloc (.cells #[.pointer none, .int .i64 (A k)] 48)) = .ok () w' ∧
      ∃ vb' D', StM w7 H A (k + 1) vb' D' w' := by
  have hlt := h.own.lt
  have ho1 : (wz.drew.alloc (.cells #[.pointer none, .int .i64 (A k)] 48)).ownsMap Yba.prog 9 Rp w7.heap.size k D := h.own.drew.alloc _
  obtain ⟨w', hrun, ho2, hg⟩ := ho1.update law9 Yba.underlying45 (by unfold maxLen; omega) (keyOf_key k hk) (Rp_ptr wz.heap.size)
  refine ⟨w', hrun, fun q => if q = k then wz.heap.size else vb q, _, ?_, ho2, ?_, ?_⟩
  · exact (h.below.drew.alloc h.below.size _).grown hg (by simp; omega) (fun e he => by cases he; exact Nat.le_refl _)
  · intro q hq
    by_cases hqk : q = k
    · subst hqk
      rw [atKey_put_same ho1.isMap (k := klit q) True.intro]
      simp [hH]
    · rw [atKey_put_other (klit_ne q hq k hk hqk), h.at_ q hq]
      by_cases h1 : q < k
      · simp [h1, show q < k + 1 by omega, hqk]
      · simp [h1, show ¬ q < k + 1 by omega]
  · intro q hq hHq
    by_cases hqk : q = k
    · subst hqk
      simp only [if_true]
      refine ⟨hlt, ?_⟩
      rw [grown_cell hg _ _ (by simp) (by simp; omega)]
      exact World.cell?_alloc_at _ _ _ _ rfl
    · simp only [hqk, if_false]
      obtain ⟨v1, v2⟩ := h.val q (by omega) hHq
      refine ⟨v1, ?_⟩
      have hl := World.block_lt_of_cell? wz _ v2
      rw [grown_cell hg _ _ (by simp; exact Nat.lt_succ_of_lt hl) (by simp; omega)]
      exact (World.cell?_alloc_past _ _ _ (by exact hl)).trans v2

theorem StM.look {w7 wz : World} {H : Nat → Bool} {A : Nat → Int} {vb : Nat → Nat} {D : DataW Unit} (h : StM w7 H A 5 vb D wz) (q : Nat) (hq : q < 5) (w' : World) (hw : w'.heap[w7.heap.size]? = wz.heap[w7.heap.size]?) :
    (Instr.lookup 45 (.map (some w7.heap.size)) (.string (key q)) false).run Yba.prog w' = .ok (if H q then ptr (vb q) else .pointer none) w' := by
  have ho : w'.ownsMap Yba.prog 9 Rp w7.heap.size 5 D := by
    obtain ⟨es, clock, hb, r⟩ := h.own
    exact ⟨es, clock, hw.trans hb, r⟩
  obtain ⟨v, ps, hrun, hR⟩ := ho.lookup law9 Yba.underlying45 (zero46 w') (zd := .lit (.bool false)) (zp := []) rfl (keyOf_key q hq)
  rw [h.at_ q hq] at hR
  rw [hrun]
  by_cases hH : H q = true
  · simp only [hq, hH, and_self, if_true] at hR ⊢
    rw [Rp_inv hR]
  · rw [if_neg (fun h => hH h.2)] at hR
    rw [Rp_inv_none hR, if_neg hH]

/-- What holds from the copies on: cells that nothing turns. -/
structure St7 (w : World) (n m : Nat) (aw ar : Option Addr) (c1 c2 : Nat) (gi gw gr : Nat) (B C kv kr : Nat → Nat) (Pd H : Nat → Bool) (A : Nat → Int) (w7 : World) : Prop where
  below : Below w.heap.size w w7
  ages : ∀ j, j < 5 → w7.cell? ⟨w.heap.size, j, none⟩ = some (.int .i64 (A j))
  hav : ∀ j, j < 5 → w7.cell? ⟨w.heap.size + 1, j, none⟩ = some (.bool (H j))
  rw : w7.cell? ⟨w.heap.size + 1 + 1, 2, none⟩ = some (.slice aw n c1)
  rr : w7.cell? ⟨w.heap.size + 1 + 1, 3, none⟩ = some (.slice ar m c2)
  wr : 0 < n → ∃ g o, aw = some ⟨g, o, none⟩ ∧ ∀ t, t < n → w7.cell? ⟨g, o + t, none⟩ = some (ptr (B t))
  rd : 0 < m → ∃ g o, ar = some ⟨g, o, none⟩ ∧ ∀ t, t < m → w7.cell? ⟨g, o + t, none⟩ = some (ptr (C t))
  wop : ∀ t, t < n → w7.cell? ⟨B t, 3, none⟩ = some (.string (key (kv t))) ∧ w7.cell? ⟨B t, 7, none⟩ = some (.bool (Pd t))
  rop : ∀ t, t < m → w7.cell? ⟨C t, 3, none⟩ = some (.string (key (kr t)))
  widx : ∀ t, t < n → w7.cell? ⟨w.heap.size + 1 + 1 + 1, t, none⟩ = some (.int .i64 (kv t))
  ridx : ∀ t, t < m → w7.cell? ⟨gi, t, none⟩ = some (.int .i64 (kr t))
  wbf : ∀ t, t < n → w7.cell? ⟨gw, t, none⟩ = some (ptr (B t))
  rbf : ∀ t, t < m → w7.cell? ⟨gr, t, none⟩ = some (ptr (C t))
  kv5 : ∀ t, kv t < 5
  kr5 : ∀ t, kr t < 5
  kvh : ∀ t, t < n → H (kv t) = true

theorem St7.move {w : World} {n m : Nat} {aw ar : Option Addr} {c1 c2 gi gw gr : Nat} {B C kv kr : Nat → Nat} {Pd H : Nat → Bool} {A : Nat → Int} {w7 wz : World} (h : St7 w n m aw ar c1 c2 gi gw gr B C kv kr Pd H A w7) (hb : Below w7.heap.size w7 wz) :
    St7 w n m aw ar c1 c2 gi gw gr B C kv kr Pd H A wz := by
  have mv : ∀ {a : Addr} {v : Value}, w7.cell? a = some v → wz.cell? a = some v := fun {a v} hc => (hb.cell (World.block_lt_of_cell? w7 _ hc)).trans hc
  refine ⟨h.below.trans (hb.mono h.below.size), fun j hj => mv (h.ages j hj), fun j hj => mv (h.hav j hj), mv h.rw, mv h.rr, ?_, ?_, fun t ht => ⟨mv (h.wop t ht).1, mv (h.wop t ht).2⟩, fun t ht => mv (h.rop t ht), fun t ht => mv (h.widx t ht), fun t ht => mv (h.ridx t ht), fun t ht => mv (h.wbf t ht), fun t ht => mv (h.rbf t ht), h.kv5, h.kr5, h.kvh⟩
  · intro hn
    obtain ⟨g, o, ha, hc⟩ := h.wr hn
    exact ⟨g, o, ha, fun t ht => mv (hc t ht)⟩
  · intro hn
    obtain ⟨g, o, ha, hc⟩ := h.rd hn
    exact ⟨g, o, ha, fun t ht => mv (hc t ht)⟩

theorem St7.in5 {w : World} {n m : Nat} {aw ar : Option Addr} {c1 c2 gi gw gr : Nat} {B C kv kr : Nat → Nat} {Pd H : Nat → Bool} {A : Nat → Int} {w7 wz : World} (h : St7 w n m aw ar c1 c2 gi gw gr B C kv kr Pd H A w7) (hn : n ≤ 1024) (hm : m ≤ 1024) {vb : Nat → Nat} {D : DataW Unit} (hM : StM w7 H A 5 vb D wz) :
    In5 wz (w.heap.size + 1 + 1) n m aw ar c1 c2 B C kv kr Pd H A w7.heap.size vb := by
  have g := h.move hM.below
  exact ⟨hn, hm, g.rw, g.rr, g.wr, g.rd, g.wop, g.rop, g.kv5, g.kr5, g.kvh, hM.own.lt, fun q hq w' hw => hM.look q hq w' hw, fun q hq hH => (hM.val q hq hH).2⟩

theorem cell_of_cells {w : World} {b j : Nat} {xs : List Value} {t : TypeId} {f : Nat × Nat} (h : w.heap[b]? = some (Obj.cells xs.toArray t f)) : w.cell? ⟨b, j, none⟩ = xs[j]? := by
  simp [World.cell?, h]

theorem St7.of {w w2 w4 w7 : World} {A : Nat → Int} {p : Int} {V : Nat → Int} {Pd : Nat → Bool} {n : Nat} {aw1 : Option Addr} {cp1 : Nat} {bs : List Nat} (h2 : St2 w A p V Pd n n (.slice aw1 n cp1) bs w2) {R : Nat → Int} {m : Nat} {aw2 : Option Addr} {cp2 : Nat} {cs : List Nat} (h4 : St3 w w2 n (.slice aw1 n cp1) R m m (.slice aw2 m cp2) cs w4)
    (hV : ∀ i, 0 ≤ V i ∧ V i ≤ 255) (hR : ∀ i, 0 ≤ R i ∧ R i ≤ 255) (hb : Below w4.heap.size w4 w7) (gw gr : Nat) (hgw : w7.heap[gw]? = some (.cells (bs.map ptr).toArray 37 (0, 0))) (hgr : w7.heap[gr]? = some (.cells (cs.map ptr).toArray 37 (0, 0))) :
    St7 w n m aw1 aw2 cp1 cp2 w2.heap.size gw gr (fun t => bs.getD t 0) (fun t => cs.getD t 0) (kW V) (kW R) Pd (hv p V n) A w7 := by
  have hs2 := h2.size
  have hs4 := h4.size
  have mv : ∀ {a : Addr} {v : Value}, w4.cell? a = some v → w7.cell? a = some v := fun {a v} hc => (hb.cell (World.block_lt_of_cell? w4 _ hc)).trans hc
  have mv2 : ∀ {b o : Nat} {v : Value}, b ≠ w.heap.size + 1 + 1 → w2.cell? ⟨b, o, none⟩ = some v → w7.cell? ⟨b, o, none⟩ = some v := fun {b o v} hne hc => mv ((World.cell?_of_block (h4.since b (World.block_lt_of_cell? w2 _ hc) hne)).trans hc)
  have bat : ∀ t, t < n → bs[t]? = some (bs.getD t 0) := fun t ht => by
    have := h2.len
    rw [List.getD_eq_getElem?_getD, List.getElem?_eq_getElem (by omega)]; rfl
  have cat : ∀ t, t < m → cs[t]? = some (cs.getD t 0) := fun t ht => by
    have := h4.len
    rw [List.getD_eq_getElem?_getD, List.getElem?_eq_getElem (by omega)]; rfl
  have bpt : ∀ t, t < n → (bs.map ptr)[t]? = some (ptr (bs.getD t 0)) := fun t ht => by rw [List.getElem?_map, bat t ht]; rfl
  have cpt : ∀ t, t < m → (cs.map ptr)[t]? = some (ptr (cs.getD t 0)) := fun t ht => by rw [List.getElem?_map, cat t ht]; rfl
  refine ⟨h4.below.trans (hb.mono h4.below.size), ?_, ?_, mv h4.rw, mv h4.rr.1, ?_, ?_, ?_, ?_, ?_, ?_, ?_, ?_, fun t => kW_lt V t (hV t).1, fun t => kW_lt R t (hR t).1, ?_⟩
  · intro j hj
    exact mv2 (by omega) (h2.ages j hj)
  · intro j hj
    exact mv2 (by omega) (h2.hav j hj).1
  · intro hn
    have hown := h2.row
    obtain ⟨g, cap, hv, hg1, hg2⟩ := own_form hown hn
    rw [hv] at hown
    simp only [Value.slice.injEq] at hv
    refine ⟨g, 0, hv.1, fun t ht => ?_⟩
    rw [Nat.zero_add]
    exact mv2 (by omega) ((hown.cellAt t (by omega)).trans (bpt t ht))
  · intro hm
    have hown := h4.row
    obtain ⟨g, cap, hv, hg1, hg2⟩ := own_form hown hm
    rw [hv] at hown
    simp only [Value.slice.injEq] at hv
    refine ⟨g, 0, hv.1, fun t ht => ?_⟩
    rw [Nat.zero_add]
    exact mv ((hown.cellAt t (by omega)).trans (cpt t ht))
  · intro t ht
    have ho := h2.ops t _ (bat t ht)
    have hbb := h2.opsb _ (List.mem_of_getElem? (bat t ht))
    exact ⟨mv2 (by omega) (cell_of_cells (xs := (opArr (key (kW V t)) (Pd t) (t + 1)).toList) (by simpa using ho)), mv2 (by omega) (cell_of_cells (xs := (opArr (key (kW V t)) (Pd t) (t + 1)).toList) (by simpa using ho))⟩
  · intro t ht
    have ho := h4.ops t _ (cat t ht)
    exact mv (cell_of_cells (xs := (opArr (key (kW R t)) false (n + t + 1)).toList) (by simpa using ho))
  · intro t ht
    have h := (h2.idx t ht).1
    rw [if_pos ht] at h
    exact mv2 (by omega) h
  · intro t ht
    have h := (h4.idx t ht).1
    rw [if_pos ht] at h
    exact mv h
  · intro t ht
    exact (cell_of_cells hgw).trans (bpt t ht)
  · intro t ht
    exact (cell_of_cells hgr).trans (cpt t ht)
  · intro t ht
    simp only [hv, Bool.or_eq_true, List.any_eq_true]
    exact .inr ⟨t, by simp [ht], by simp⟩
end Go.Proofs.Ybulkfii.lawS0307AReturned
