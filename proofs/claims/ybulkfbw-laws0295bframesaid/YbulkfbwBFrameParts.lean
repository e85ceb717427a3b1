/-
  LawS0295BFrame: the callees' contracts: PutUint32, the writer's Write, WriteFrame. By an AI agent.
-/
import Derived.Test.YbulkfbwRows
import Derived.WalkKit
import Derived.WalkSpells
import Derived.ProofKit
import Derived.OpenShut
import Derived.ChangeOld
import Derived.Below
import Derived.BigQuiet
import Derived.Outline
import Derived.Deep.QuietTactic
import Derived.Deep.RegionLaw
import Derived.Deep.RegionHeld3
import Derived.Deep.Onto
namespace Go.Proofs.Ybulkfbw.lawS0295BFrame
open Go.ChangeShapes Go.WideShapes Go.ChangeAt Go.RowKit
set_option linter.unusedVariables false
theorem info5 : (Yba.prog.info? 5).map (fun i => (i.zero, i.size, i.bytes)) = some (some (.int .u8 0), 1, 1) := by kernel_rfl

theorem grown_cell {w w' : World} {row : Option Nat} (h : w.grownBy w' row) (b o : Nat) (hb : b < w.heap.size) (hne : some b ≠ row) : w'.cell? ⟨b, o, none⟩ = w.cell? ⟨b, o, none⟩ :=
  World.cell?_of_block (h.block b hb hne)
theorem grown_frozen {w w' : World} {row : Option Nat} (h : w.grownBy w' row) (b o : Nat) (hb : b < w.heap.size) (hne : some b ≠ row) : w'.frozen? ⟨b, o, none⟩ = w.frozen? ⟨b, o, none⟩ :=
  World.frozen?_of_block (h.block b hb hne)
theorem own_form {w : World} {base : Nat} {e : TypeId} {size : Nat} {v : Value} {n : Nat} {xs : List Value} (h : w.ownsRow base e size v n xs) (hn : 0 < n) :
    ∃ g cap, v = .slice (some ⟨g, 0, none⟩) n cap ∧ base ≤ g ∧ g < w.heap.size := by
  rcases h.2 with ⟨_, h0⟩ | ⟨g, cap, cur, hv, hb, hg, _⟩
  · omega
  · exact ⟨g, cap, hv, hb, (Array.getElem?_eq_some_iff.1 hg).1⟩

theorem put_any (base g cap : Nat) (x0 x1 x2 x3 : Value) (v : Int) (h0 : 0 ≤ v) (h1 : v < 4294967296) (w : World) (hown : w.ownsRow base 5 1 (.slice (some ⟨g, 0, none⟩) 4 cap) 4 [x0, x1, x2, x3]) :
    Calls Yba.prog 25 #[.agg #[], .slice (some ⟨g, 0, none⟩) 4 cap, .int .u32 v] w fun e w' => e = .returned (.tuple #[]) ∧
      w'.ownsRow base 5 1 (.slice (some ⟨g, 0, none⟩) 4 cap) 4 [.int .u8 (v / 16777216), .int .u8 (v / 65536 % 256), .int .u8 (v / 256 % 256), .int .u8 (v % 256)] ∧ w.grownBy w' (some g) := by
  have hown1 := hown.alloc (.cells #[] 126)
  have c0 := hown1.cellAt 0 (by decide)
  have c1 := hown1.cellAt 1 (by decide)
  have c2 := hown1.cellAt 2 (by decide)
  have c3 := hown1.cellAt 3 (by decide)
  have f0 := hown1.frozenAt 0
  have f1 := hown1.frozenAt 1
  have f2 := hown1.frozenAt 2
  have f3 := hown1.frozenAt 3
  simp only [List.getElem?_cons_zero, List.getElem?_cons_succ] at c0 c1 c2 c3
  go_enter Yba.func25, Yba.ntmps25
  go_wp2
  go_end0
  have o1 := hown1.stored 0 (.int .u8 (v / 16777216))
  have o2 := o1.1.stored 1 (.int .u8 (v / 65536 % 256))
  have o3 := o2.1.stored 2 (.int .u8 (v / 256 % 256))
  have o4 := o3.1.stored 3 (.int .u8 (v % 256))
  exact ⟨rfl, o4.1, (((World.grownBy_alloc w _ _).trans o1.2).trans o2.2).trans o3.2 |>.trans o4.2⟩


set_option maxRecDepth 100000 in
theorem write_any (b g m c : Nat) (news : List Value) (w : World) (hm : 0 < m) (hm' : m ≤ 5000) (hl : news.length = m) (h1 : ∀ u ∈ news, u.oneCell' = true)
    (c0 : w.cell? ⟨b, 0, none⟩ = some (.slice none 0 0)) (c1 : w.cell? ⟨b, 1, none⟩ = some (.int .i64 0)) (c2 : w.cell? ⟨b, 2, none⟩ = some .nilIface)
    (f0 : w.frozen? ⟨b, 0, none⟩ = false) (f1 : w.frozen? ⟨b, 1, none⟩ = false) (hne : b ≠ g) (hnews : ∀ j u, news[j]? = some u → w.cell? ((⟨g, 0, none⟩ : Addr).add j) = some u) :
    Calls Yba.prog 75 #[.pointer (some ⟨b, 0, none⟩), .slice (some ⟨g, 0, none⟩) m c] w fun e w' => e = .returned (.tuple #[.int .i64 m, .nilIface]) ∧
      ∃ v', w'.cell? ⟨b, 0, none⟩ = some v' ∧ w'.cell? ⟨b, 1, none⟩ = some (.int .i64 1) ∧ w'.ownsRow w.heap.size 5 1 v' m news ∧ w.grownBy w' (some b) := by
  have hb : b < w.heap.size := World.block_lt_of_cell? w _ c0
  have hnews' : ∀ j u, news[j]? = some u → (w.setCell ⟨b, 1, none⟩ (.int .i64 1)).cell? ((⟨g, 0, none⟩ : Addr).add j) = some u := by
    intro j u hu
    rw [World.cell?_setCell_far _ _ _ _ (by simp only [Addr.add]; split <;> exact hne)]
    exact hnews j u hu
  have hl' : news.length = m * 1 := by omega
  have h63 : 0 + m ≤ maxLen := by unfold maxLen; omega
  have hsz : w.heap.size ≤ (w.setCell ⟨b, 1, none⟩ (.int .i64 1)).heap.size := by simp
  have HN : Hid (∀ j u, news[j]? = some u → (w.setCell ⟨b, 1, none⟩ (.int .i64 1)).cell? ((⟨g, 0, none⟩ : Addr).add j) = some u) := hnews'
  have H1 : Hid (∀ u ∈ news, u.oneCell' = true) := h1
  have HL : Hid (news.length = m * 1) := hl'
  clear hnews' hnews h1 hl hl'
  go_enter Yba.func75, Yba.ntmps75
  go_wp2_with (first
    | (at_builtin; obtain ⟨i0, hi, hz0, hz1, hz2⟩ := info_parts info5; go_must (refine wpList_append_own _ rfl (.tmp 17) (.tmp 18) 22 rfl w.heap.size 5 i0 (.int .u8 0) 1 1 Yba.underlying22 hi hz0 hz1 hz2 rfl (by decide) _ 0 [] rfl (World.ownsRow_nil _ _ _ _) ⟨g, 0, none⟩ m c news rfl HL.out HN.out H1.out h63 (by omega) hsz ?_); clear hi hz0 hz1 hz2))
  intro v' w1 hown' hgrow _
  obtain ⟨g2, cap2, hv, hg2, hg2'⟩ := own_form hown' (by omega)
  have hb1 : b < (w.setCell ⟨b, 1, none⟩ (.int .i64 1)).heap.size := by simpa using hb
  have k0 : w1.cell? ⟨b, 0, none⟩ = some (.slice none 0 0) := by rw [grown_cell hgrow b 0 hb1 (by simp [Value.ownBlock]), World.cell?_setCell_other _ _ _ _ (by simp)]; exact c0
  have k1 : w1.cell? ⟨b, 1, none⟩ = some (.int .i64 1) := by rw [grown_cell hgrow b 1 hb1 (by simp [Value.ownBlock])]; exact World.cell?_setCell_same _ _ _ c1
  have k2 : w1.cell? ⟨b, 2, none⟩ = some .nilIface := by rw [grown_cell hgrow b 2 hb1 (by simp [Value.ownBlock]), World.cell?_setCell_other _ _ _ _ (by simp)]; exact c2
  have e0 : w1.frozen? ⟨b, 0, none⟩ = false := by rw [grown_frozen hgrow b 0 hb1 (by simp [Value.ownBlock]), World.frozen?_setCell]; exact f0
  rw [hv]
  have HO : Hid (w1.ownsRow w.heap.size 5 1 v' m news) := hown'
  have HG : Hid ((w.setCell ⟨b, 1, none⟩ (.int .i64 1)).grownBy w1 (Value.ownBlock (.slice none 0 0))) := hgrow
  have HV : Hid (v' = .slice (some ⟨g2, 0, none⟩) m cap2) := hv
  clear hown' hgrow c0 c1 c2 f0 f1 hv
  go_wp2
  go_ret2
  have hO := HO.out
  rw [HV.out] at hO
  have hG := HG.out
  refine ⟨rfl, _, World.cell?_setCell_same _ _ _ k0, (World.cell?_setCell_other _ _ _ _ (by simp)).trans k1, ownsRow_setCell_below hO (by exact hb) _, ?_⟩
  refine ⟨hG.os, hG.tape, hG.output, by have := hG.size; simp at this ⊢; exact this, fun k hk hkn => ?_⟩
  have hkb : k ≠ b := fun e => hkn (by rw [e])
  rw [Below.heap_setCell _ _ _ _ hkb, hG.block k (by simpa using hk) (by simp [Value.ownBlock]), Below.heap_setCell _ _ _ _ hkb]

theorem nil_ahead (a : Addr) (w : World) : (nilAhead 299 82 (.pointer (some a)) "Write").run Yba.prog w = .ok (some false) w := by kernel_rfl
theorem method_write (a : Addr) (w : World) : (method 299 82 (.pointer (some a)) "Write").run Yba.prog w = .ok (75, .pointer (some a)) w := by kernel_rfl

/-- append WITHIN THE CAPACITY of a row of the call's own, whatever is appended, as one step of a region that draws. -/
theorem step_append_fits {P : Program} {ops : Array Oper} {o : Oper} {a : Act} {w : World} {K : Act → World → Prop} {Q : Exit → Act → World → Prop} {E : Prop}
    (hg : o.guard = none) (s x : Operand) (t : TypeId) (hop : o.op = Op.call { callee := Callee.builtin Builtin.append, args := #[s, x], argTypes := #[t, t] })
    (base : Nat) (e : TypeId) (i : TypeInfo) (size : Nat) (h1 : P.underlying t = some (.slice e)) (h2 : P.info? e = some i) (h4 : i.size = size)
    (g k cap : Nat) (xs : List Value) (hs : a.eval s = .slice (some ⟨g, 0, none⟩) k cap) (hown : w.ownsRow base e size (.slice (some ⟨g, 0, none⟩) k cap) k xs) (ao : Option Addr) (m c : Nat) (news : List Value) (hx : a.eval x = .slice ao m c) (hn : news.length = m * size)
    (hnone : ao = none → m = 0 ∧ c = 0) (hc : ∀ ad, ao = some ad → ∀ j u, news[j]? = some u → w.cell? (ad.add j) = some u) (h1c : ∀ u ∈ news, u.oneCell' = true) (b1 : k + m ≤ cap)
    (hK : ∀ w', w'.ownsRow base e size (.slice (some ⟨g, 0, none⟩) (k + m) cap) (k + m) (xs ++ news) → w.grownBy w' (some g) → K (a.put o.dst (.slice (some ⟨g, 0, none⟩) (k + m) cap)) w') :
    if Region.wanted o (yielded ops a.tmps) = true then Oper.wp P o a w K Q else E := by
  have hw : Region.wanted o (yielded ops a.tmps) = true := by simp [Region.wanted, hg]
  rw [if_pos hw]
  cases ao with
  | some ad =>
    obtain ⟨w', hrun, r1, r2⟩ := run_append_fits (P := P) w base t o.type e i size h1 h2 h4 g k cap xs hown ad m c news hn (hc ad rfl) h1c b1
    unfold Oper.wp
    simp [execOp, hop, resolve, invoke, builtin, hs, hx, hrun, Result.andThen]
    exact hK w' r1 r2
  | none =>
    obtain ⟨rfl, rfl⟩ := hnone rfl
    have hnews : news = [] := List.eq_nil_of_length_eq_zero (by simpa using hn)
    subst hnews
    have hrun := run_append_owned_none (P := P) w base t o.type e i size h1 h2 _ k xs hown
    unfold Oper.wp
    simp [execOp, hop, resolve, invoke, builtin, hs, hx, hrun, Result.andThen]
    have := hK w (by simpa using hown) (World.grownBy.refl _ _)
    simp only [Nat.add_zero] at this
    exact this

theorem chain {w w2 w3 w4 : World} {o : Obj} {b : Nat} (h2 : (w.alloc o).grownBy w2 (some w.heap.size)) (h3 : w2.drew.grownBy w3 (some w.heap.size)) (h4 : w3.grownBy w4 (some b)) : w.grownBy w4 (some b) := by
  have s2 := h2.size
  have s3 := h3.size
  have s4 := h4.size
  simp at s2 s3
  refine ⟨h4.os.trans (h3.os.trans h2.os), h4.tape.trans (h3.tape.trans h2.tape), h4.output.trans (h3.output.trans h2.output), by omega, fun k hk hkb => ?_⟩
  rw [h4.block k (by omega) hkb, h3.block k (by simp; omega) (by simp; omega)]
  exact (h2.block k (by simp; omega) (by simp; omega)).trans (Below.heap_alloc _ _ _ hk)

set_option maxRecDepth 100000 in
theorem frame_any (b : Nat) (ao : Option Addr) (len cap : Nat) (zs : List Value) (w : World) (hlen : len ≤ 4096) (hzl : zs.length = len) (hz1 : ∀ u ∈ zs, u.oneCell' = true)
    (hnone : ao = none → len = 0 ∧ cap = 0) (hcells : ∀ ad, ao = some ad → ∀ j u, zs[j]? = some u → w.cell? (ad.add j) = some u)
    (c0 : w.cell? ⟨b, 0, none⟩ = some (.slice none 0 0)) (c1 : w.cell? ⟨b, 1, none⟩ = some (.int .i64 0)) (c2 : w.cell? ⟨b, 2, none⟩ = some .nilIface)
    (f0 : w.frozen? ⟨b, 0, none⟩ = false) (f1 : w.frozen? ⟨b, 1, none⟩ = false) :
    Calls Yba.prog 13 #[.iface 82 (.pointer (some ⟨b, 0, none⟩)), .slice ao len cap] w fun e w' => e = .returned .nilIface ∧
      ∃ v', w'.cell? ⟨b, 0, none⟩ = some v' ∧ w'.cell? ⟨b, 1, none⟩ = some (.int .i64 1) ∧
        w'.ownsRow w.heap.size 5 1 v' (4 + len) ([.int .u8 ((len : Int) / 16777216), .int .u8 ((len : Int) / 65536 % 256), .int .u8 ((len : Int) / 256 % 256), .int .u8 ((len : Int) % 256)] ++ zs) ∧ w.grownBy w' (some b) := by
  have hb : b < w.heap.size := World.block_lt_of_cell? w _ c0
  obtain ⟨i0, hi, hz0, hzz1, hzz2⟩ := info_parts info5
  have hmk := run_make (P := Yba.prog) w 22 5 i0 (.int .u8 0) Yba.underlying22 hi hz0 .i64 .i64 4 (4 + (len : Int)) (by omega) (by omega) (by rw [hzz2]; omega) (by omega)
  rw [hzz1] at hmk
  have hrow : (w.alloc (.cells (madeCells #[.int .u8 0] (4 + len)) 5)).ownsRow w.heap.size 5 1 (.slice (some ⟨w.heap.size, 0, none⟩) 4 (4 + len)) 4 [.int .u8 0, .int .u8 0, .int .u8 0, .int .u8 0] := by
    refine ⟨by simp, .inr ⟨w.heap.size, 4 + len, _, rfl, Nat.le_refl _, heap_alloc_new w _, by omega, by unfold maxLen; omega, by simp [size_madeCells], ?_⟩⟩
    rw [toList_madeCells_one, List.take_replicate, show min (4 * 1) (4 + len) = 4 by omega]; rfl
  have HC : Hid (∀ ad, ao = some ad → ∀ j u, zs[j]? = some u → w.cell? (ad.add j) = some u) := hcells
  have H1 : Hid (∀ u ∈ zs, u.oneCell' = true) := hz1
  have HL : Hid (zs.length = len) := hzl
  have HN : Hid (ao = none → len = 0 ∧ cap = 0) := hnone
  have HR : Hid ((w.alloc (.cells (madeCells #[.int .u8 0] (4 + len)) 5)).ownsRow w.heap.size 5 1 (.slice (some ⟨w.heap.size, 0, none⟩) 4 (4 + len)) 4 [.int .u8 0, .int .u8 0, .int .u8 0, .int .u8 0]) := hrow
  clear hi hz0 hzz1 hzz2 i0 hcells hz1 hzl hnone hrow
  go_enter Yba.func13, Yba.ntmps13
  go_wp2_with fail
  clear hmk
  refine (put_any w.heap.size w.heap.size (4 + len) _ _ _ _ (len : Int) (by omega) (by omega) _ HR.out).mono ?_
  rintro e w2 ⟨rfl, hown2, hgrow2⟩
  have hb2 : b < w2.heap.size := by have := hgrow2.size; simp at this; omega
  have d0 : w2.cell? ⟨b, 0, none⟩ = some (.slice none 0 0) := by rw [grown_cell hgrow2 b 0 (by simp; omega) (by simp; omega), World.cell?_alloc_past _ _ _ (by simpa using hb)]; exact c0
  have d1 : w2.cell? ⟨b, 1, none⟩ = some (.int .i64 0) := by rw [grown_cell hgrow2 b 1 (by simp; omega) (by simp; omega), World.cell?_alloc_past _ _ _ (by simpa using hb)]; exact c1
  have d2 : w2.cell? ⟨b, 2, none⟩ = some .nilIface := by rw [grown_cell hgrow2 b 2 (by simp; omega) (by simp; omega), World.cell?_alloc_past _ _ _ (by simpa using hb)]; exact c2
  have g0 : w2.frozen? ⟨b, 0, none⟩ = false := by rw [grown_frozen hgrow2 b 0 (by simp; omega) (by simp; omega), World.frozen?_alloc_past _ _ _ hb]; exact f0
  have g1 : w2.frozen? ⟨b, 1, none⟩ = false := by rw [grown_frozen hgrow2 b 1 (by simp; omega) (by simp; omega), World.frozen?_alloc_past _ _ _ hb]; exact f1
  have hsz2 : w.heap.size < w2.heap.size := by have := hgrow2.size; simp at this; omega
  have hcell2 : ∀ ad, ao = some ad → ∀ j u, zs[j]? = some u → w2.drew.cell? (ad.add j) = some u := by
    intro ad had j u hu
    have hh := HC.out ad had j u hu
    have hlt := World.block_lt_of_cell? w _ hh
    refine Eq.trans (World.cell?_of_block (w := w.alloc (.cells (madeCells #[.int .u8 0] (4 + len)) 5)) (hgrow2.block _ (by simp; omega) (by simp; omega))) ?_
    rw [World.cell?_alloc_lt _ _ _ hlt]; exact hh
  have HC2 : Hid (∀ ad, ao = some ad → ∀ j u, zs[j]? = some u → w2.drew.cell? (ad.add j) = some u) := hcell2
  have HO2 : Hid (w2.drew.ownsRow w.heap.size 5 1 (.slice (some ⟨w.heap.size, 0, none⟩) 4 (4 + len)) 4 [.int .u8 ((len : Int) / 16777216), .int .u8 ((len : Int) / 65536 % 256), .int .u8 ((len : Int) / 256 % 256), .int .u8 ((len : Int) % 256)]) := hown2
  have HG2 : Hid ((w.alloc (.cells (madeCells #[.int .u8 0] (4 + len)) 5)).grownBy w2 (some w.heap.size)) := hgrow2
  clear hcell2 hown2 hgrow2 c0 c1 c2 f0 f1
  have HW : Hid (∀ w3 : World, w3.ownsRow w.heap.size 5 1 (.slice (some ⟨w.heap.size, 0, none⟩) (4 + len) (4 + len)) (4 + len) ([.int .u8 ((len : Int) / 16777216), .int .u8 ((len : Int) / 65536 % 256), .int .u8 ((len : Int) / 256 % 256), .int .u8 ((len : Int) % 256)] ++ zs) → w2.drew.grownBy w3 (some w.heap.size) →
      Calls Yba.prog 75 #[.pointer (some ⟨b, 0, none⟩), .slice (some ⟨w.heap.size, 0, none⟩) (4 + len) (4 + len)] w3 fun e w' => e = .returned (.tuple #[.int .i64 ((4 + len : Nat) : Int), .nilIface]) ∧
      ∃ v', w'.cell? ⟨b, 0, none⟩ = some v' ∧ w'.cell? ⟨b, 1, none⟩ = some (.int .i64 1) ∧ w'.ownsRow w3.heap.size 5 1 v' (4 + len) ([.int .u8 ((len : Int) / 16777216), .int .u8 ((len : Int) / 65536 % 256), .int .u8 ((len : Int) / 256 % 256), .int .u8 ((len : Int) % 256)] ++ zs) ∧ w3.grownBy w' (some b)) := by
    intro w3 hown3 hgrow3
    have hne : some b ≠ some w.heap.size := by simp; omega
    refine write_any b w.heap.size (4 + len) (4 + len) ([.int .u8 ((len : Int) / 16777216), .int .u8 ((len : Int) / 65536 % 256), .int .u8 ((len : Int) / 256 % 256), .int .u8 ((len : Int) % 256)] ++ zs) w3 (by omega) (by omega) (by simp [HL.out]; omega) ?_ ?_ ?_ ?_ ?_ ?_ (by omega) ?_
    · intro u hu
      rw [List.mem_append] at hu
      rcases hu with hu | hu
      · simp at hu; rcases hu with rfl | rfl | rfl | rfl <;> rfl
      · exact H1.out u hu
    · rw [grown_cell hgrow3 b 0 hb2 hne]; exact d0
    · rw [grown_cell hgrow3 b 1 hb2 hne]; exact d1
    · rw [grown_cell hgrow3 b 2 hb2 hne]; exact d2
    · rw [grown_frozen hgrow3 b 0 hb2 hne]; exact g0
    · rw [grown_frozen hgrow3 b 1 hb2 hne]; exact g1
    · exact hown3.cells (g := w.heap.size) rfl
  have hna := nil_ahead
  have hme := method_write
  go_wp2
  go_region_held3 (fun _ => True) (exact True.intro) (first
      | (obtain ⟨i0, hi, hz0, hz1, hz2⟩ := info_parts info5; refine step_append_fits rfl (.tmp 20) (.tmp 21) 22 rfl w.heap.size 5 i0 1 Yba.underlying22 hi hz1 w.heap.size 4 (4 + len) _ rfl HO2.out ao len cap zs rfl (by rw [HL.out]; omega) HN.out HC2.out H1.out (by omega) ?_; clear hi hz0 hz1 hz2 i0; intro w3 hown3 hgrow3)
      | (go_at_call 75; refine (HW.out w3 hown3 hgrow3).mono ?_; rintro e w4 ⟨rfl, v4, k0, k1, hown4, hgrow4⟩))
  all_goals
    go_wp2
    go_ret
    refine ⟨rfl, v4, k0, k1, hown4.mono (by have := hgrow3.size; simp at this; omega), chain HG2.out hgrow3 hgrow4⟩
end Go.Proofs.Ybulkfbw.lawS0295BFrame
