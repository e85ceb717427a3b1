/-
  LawS0295AFires: the walk of fire. By an AI agent.
-/
import Derived.Test.YbulkfbwFireRel
namespace Go.Proofs.Ybulkfbw.lawS0295AFires
open Go.ChangeShapes Go.WideShapes Go.RowKit
open Go.ChangeMaps (setBlock)
set_option linter.unusedVariables false
set_option linter.unusedSimpArgs false
variable {base : Nat} {w : World} {blk : Role → Option Nat} {L : Role → List Ent} {c : Role → Nat} {ws : List Nat} {B : Bool → Bool → Nat}

/-- At the head of each round of fire's first loop. -/
structure TblRel (base : Nat) (ws : List Nat) (B : Bool → Bool → Nat) (w : World) (S : Bool → Nat → Nat → Bool) (blk : Role → Option Nat) (ts : List Bool) (k : Nat) (tb : Nat) (cs : Array Value) (V : Nat → Value) (lg : Nat → List (Int × Nat)) (j : Nat) (wr : World) (Lr : Role → List Ent) (cr : Role → Nat) : Prop where
  st : St base ws B wr (mk (clearTs S (ts.take j) k)) blk Lr cr
  fm : Fm base w wr
  tbl : wr.heap[tb]? = some (.cells cs 70 (0, 0))
  into : ∀ i, (get (Lr .x) i).isSome = true ↔ ∃ t ∈ ts.take j, S t i k = true

set_option maxHeartbeats 1000000 in
set_option maxRecDepth 100000 in
theorem fire_any {S : Bool → Nat → Nat → Bool} {V : Nat → Value} {lg : Nat → List (Int × Nat)} (h : St base ws B w (mk S) blk L c) (hl : Logs base ws w V lg) (hlg : ∀ i, (lg i).length ≤ 1) {k : Nat} (hk : k < 5) (typ : Int) (ts : List Bool) (hts : ts.length ≤ 2) (tb : Nat) (cs : Array Value)
    (hT : w.heap[tb]? = some (.cells cs 70 (0, 0))) (hcs : ∀ (j : Nat) (t : Bool), ts[j]? = some t → cs[j * 2]? = some (.map (some (B false t))) ∧ cs[j * 2 + 1]? = some (.map (some (B true t)))) :
    Calls Yba.prog 23 #[.int .i32 typ, .string (path k), .slice (some ⟨tb, 0, none⟩) ts.length ts.length] w fun e w' => e = .returned (.tuple #[]) ∧ Fr KL base w w' ∧ ∃ blk' L' c' V', St base ws B w' (mk (clearTs S ts k)) blk' L' c' ∧ Logs base ws w' V' (fun i => if ts.any (fun t => S t i k) then lg i ++ [(typ, k)] else lg i) := by
  have hmm := @run_makeMap Yba.prog
  have hx1 := h.newX
  have HR : Hid (TblRel base ws B w S (upd blk .x (some w.heap.size)) ts k tb cs V lg 0 (w.alloc (.map #[] 0)) (upd L .x []) (upd c .x 0)) :=
    ⟨by rw [List.take_zero, clearTs_nil]; exact hx1, Fm.alloc _ _, (Fm.alloc (base := base) _ _).block _ _ hT (.inr (by simp)), fun i => by rw [upd_same]; simp [get]⟩
  have HL : Hid (Logs base ws w V lg) := hl
  have HC : Hid _ := hcs
  have HLG : Hid _ := hlg
  have hlow := h.low
  clear hx1 h hl hT hcs hlg
  go_enter Yba.func23, Yba.ntmps23
  go_wp2
  go_loopw [14] (fun i wr => ∃ (j : Nat) (Lr : Role → List Ent) (cr : Role → Nat), j ≤ ts.length ∧ i = .int .i64 j ∧ TblRel base ws B w S (upd blk .x (some w.heap.size)) ts k tb cs V lg j wr Lr cr) (fun i _ => ts.length - (intOf i).toNat)
  case atStart => exact ⟨0, _, _, Nat.zero_le _, rfl, HR.out⟩
  case round =>
    obtain ⟨j, Lr, cr, hj, hi, hR⟩ := hrel
    subst hi
    clear HR
    by_cases hlt : j < ts.length
    · obtain ⟨t, ht⟩ : ∃ t, ts[j]? = some t := ⟨_, List.getElem?_eq_getElem hlt⟩
      obtain ⟨hc0, hc1⟩ := HC.out j t ht
      have htk : ts.take (j + 1) = ts.take j ++ [t] := by rw [List.take_add_one, ht]; rfl
      have hk1 : wr.cell? ⟨tb, j * 2, none⟩ = some (.map (some (B false t))) := by simp [World.cell?, hR.tbl, hc0]
      have hk2 : wr.cell? ⟨tb, j * 2 + 1, none⟩ = some (.map (some (B true t))) := by simp [World.cell?, hR.tbl, hc1]
      have hst4 := hR.st.alloc (.cells #[.map (some (B false t)), .map (some (B true t))] 70)
      have htake : Hid _ := take_any hst4 t hk (bx := w.heap.size) (upd_same _ _ _)
      have HN : Hid (∀ w5, (Fm base (wr.alloc (.cells #[.map (some (B false t)), .map (some (B true t))] 70)) w5 ∧ ∃ L' c', St base ws B w5 (mk (clearT (clearTs S (ts.take j) k) t k)) (upd blk .x (some w.heap.size)) L' c' ∧ ∀ i, (get (L' .x) i).isSome = true ↔ (get (Lr .x) i).isSome = true ∨ clearTs S (ts.take j) k t i k = true) →
          ∃ (Lr' : Role → List Ent) (cr' : Role → Nat), TblRel base ws B w S (upd blk .x (some w.heap.size)) ts k tb cs V lg (j + 1) w5 Lr' cr') := by
        rintro w5 ⟨hm5, L5, c5, hst5, hget5⟩
        refine ⟨L5, c5, ?_, hR.fm.trans ((Fm.alloc _ _).trans hm5), hm5.block _ _ ((Fm.alloc (base := base) _ _).block _ _ hR.tbl (.inr (by simp))) (.inr (by simp)), fun i => ?_⟩
        · rw [htk, ← clearTs_step]; exact hst5
        · rw [hget5 i, hR.into i, htk]
          simp only [List.mem_append, List.mem_singleton, clearTs]
          constructor
          · rintro (⟨t', h1, h2⟩ | h1)
            · exact ⟨t', .inl h1, h2⟩
            · by_cases hm : t ∈ ts.take j
              · simp [hm] at h1
              · simp [hm] at h1; exact ⟨t, .inr rfl, h1⟩
          · rintro ⟨t', h1 | rfl, h2⟩
            · exact .inl ⟨t', h1, h2⟩
            · by_cases hm : t' ∈ ts.take j
              · exact .inl ⟨t', hm, h2⟩
              · right; simp [hm, h2]
      clear hR hst4 htk hc0 hc1 ht
      go_wp2_with fail
      refine Calls.mono htake.out ?_
      rintro e' w5 ⟨rfl, h5⟩
      have HN6 : Hid _ := HN.out w5 h5
      clear h5 HN htake
      go_wp2
      go_roundw
      case rel =>
        obtain ⟨Lr', cr', hR'⟩ := HN6.out
        exact ⟨j + 1, Lr', cr', by omega, by go_num, hR'⟩
      case measure => simp [intOf]; omega
    · obtain rfl : j = ts.length := by omega
      obtain ⟨wt, rfl⟩ : ∃ wt : World, wt = wr := ⟨_, rfl⟩
      have hst := hR.st
      rw [List.take_length] at hst
      have hinto := hR.into
      rw [List.take_length] at hinto
      have hold := (hst.fam.hold .x w.heap.size (upd_same _ _ _))
      have hev := fun w0 => event_any typ k w0
      unfold evA at hev
      have hcx := hold.2.lt
      obtain ⟨wb, hwb⟩ : ∃ x, x = (wt.alloc (.cells #[.int .i32 typ, .int .i32 3, .string (path k)] 77)).alloc (.cells #[.int .i32 typ, .int .i32 3, .string (path k)] 77) := ⟨_, rfl⟩
      have hstb : St base ws B wb (mk (clearTs S ts k)) (upd blk .x (some w.heap.size)) Lr cr := by rw [hwb]; exact (hst.alloc _).alloc _
      have hmb : Fm base w wb := by rw [hwb]; exact hR.fm.trans ((Fm.alloc _ _).trans (Fm.alloc _ _))
      have hszb : wb.heap.size = wt.heap.size + 2 := by rw [hwb]; simp
      have hebb : wb.heap[wt.heap.size + 1]? = some (.cells #[.int .i32 typ, .int .i32 3, .string (path k)] 77 (0, 0)) := by
        rw [hwb]; exact heap_alloc2_new _ _ _
      have hrn := run_range_obj (P := Yba.prog) (enc := encW) (t := 80) (kt := 121) (e := 35) Yba.underlying80 (hstb.fam.hold .x w.heap.size (upd_same _ _ _)).1
      rw [hszb] at hrn
      obtain ⟨wc, hwc⟩ : ∃ x, x = wb.alloc (.mapIter (some w.heap.size) (cr .x) #[] (cr .x)) := ⟨_, rfl⟩
      rw [← hwc] at hrn
      have HF : Hid (FireRel base ws B w (mk (clearTs S ts k)) (upd blk .x (some w.heap.size)) Lr cr (wt.heap.size + 1) (wt.heap.size + 2) w.heap.size (cr .x) typ k lg wc V #[] (cr .x)) := by
        have hmc : Fm base w wc := by rw [hwc]; exact hmb.trans (Fm.alloc _ _)
        refine ⟨by rw [hwc]; exact hstb.alloc _, hmc.fr, by rw [hwc]; exact (Fm.alloc (base := base) _ _).block _ _ hebb (.inr (by simp)), fun i hi e => ?_, by rw [hwc, ← hszb]; exact heap_alloc_new _ _, Nat.le_refl _, ?_⟩
        · have := ((HL.out.row i hi).lt _ e).2
          have := hR.fm.size
          omega
        · have e1 : (fun i => if told (Lr .x) #[] i then lg i ++ [(typ, k)] else lg i) = lg := by
            funext i
            have : told (Lr .x) #[] i = false := by simp [told]
            rw [this]; rfl
          rw [e1]
          exact HL.out.fm hmc
      have hwt : w.heap.size ≤ wt.heap.size := hR.fm.size
      have HI : Hid _ := hinto
      have HCX : Hid _ := hcx
      clear hR hst hold hstb hmb hebb hwc hinto hcx
      subst hwb
      have hcb0 : ((wt.alloc (.cells #[.int .i32 typ, .int .i32 3, .string (path k)] 77)).alloc (.cells #[.int .i32 typ, .int .i32 3, .string (path k)] 77)).heap.size = wt.heap.size + 2 := hszb
      clear hszb
      go_wp2_with (go_at_call 32; refine (hev _).mono ?_; rintro e' w9 ⟨rfl, rfl⟩)
      clear hrn hev hcb0
      go_loopw [10] (fun _ wr => ∃ (V' : Nat → Value) (seen : Array Nat) (c0 : Nat), FireRel base ws B w (mk (clearTs S ts k)) (upd blk .x (some w.heap.size)) Lr cr (wt.heap.size + 1) (wt.heap.size + 2) w.heap.size (cr .x) typ k lg wr V' seen c0) (fun _ wr => leftN wr w.heap.size (wt.heap.size + 2))
      case atStart => exact ⟨_, _, _, HF.out⟩
      case round =>
        obtain ⟨V', seen, c0, hF⟩ := hrel
        clear HF
        have hold := hF.st.fam.hold .x w.heap.size (upd_same _ _ _)
        rcases run_next_map (P := Yba.prog) hF.iter hold.1 hold.2 HCX.out hF.clk 0 with ⟨hall, hrun⟩ | ⟨e, he, hns, w3, hrun, hit3, hg3, hsz3, hen⟩
        · have hrun' : ∀ ty, (Instr.next (.pointer (some ⟨wt.heap.size + 2, 0, none⟩)) false ty).run Yba.prog wr = .ok (.tuple #[.bool false]) wr := fun ty => hrun
          have HE : Hid (Fr KL base w wr ∧ ∃ blk' L' c' V', St base ws B wr (mk (clearTs S ts k)) blk' L' c' ∧ Logs base ws wr V' (fun i => if ts.any (fun t => S t i k) then lg i ++ [(typ, k)] else lg i)) := by
            refine ⟨hF.fr, _, _, _, V', hF.st, ?_⟩
            have e1 : (fun i => if ts.any (fun t => S t i k) then lg i ++ [(typ, k)] else lg i) = (fun i => if told (Lr .x) seen i then lg i ++ [(typ, k)] else lg i) := by
              funext i
              have e2 : ts.any (fun t => S t i k) = told (Lr .x) seen i := by
                rw [Bool.eq_iff_iff, List.any_eq_true, ← HI.out i, get_isSome]
                simp only [told, List.any_eq_true, Bool.and_eq_true, beq_iff_eq]
                constructor
                · rintro ⟨x, hx, h1⟩
                  exact ⟨x, hx, h1, hall x hx⟩
                · rintro ⟨x, hx, h1, _⟩
                  exact ⟨x, hx, h1⟩
              rw [e2]
            rw [e1]
            exact hF.logs
          clear hF hold hrun hall
          go_wp2
          go_end0
          exact ⟨rfl, HE.out⟩
        · have hrun' : ∀ ty, (Instr.next (.pointer (some ⟨wt.heap.size + 2, 0, none⟩)) false ty).run Yba.prog wr = .ok (.tuple #[.bool true, .iface 28 (.pointer (some ⟨e.k, 0, none⟩)), e.v]) w3 := fun ty => hrun
          have hen' : (Instr.entry (.pointer (some ⟨wt.heap.size + 2, 0, none⟩))).run Yba.prog w3 = .ok (.tuple #[.iface 28 (.pointer (some ⟨e.k, 0, none⟩)), e.v]) w3 := hen
          obtain ⟨hws, hev3, hnot⟩ := hF.next HLG.out (upd_same _ _ _) HCX.out (Nat.le_refl _) (by omega) hlow he hns hit3 hg3 hsz3
          unfold evA at hnot
          have HNOT : Hid _ := hnot
          have hb0 : w3.cell? ⟨wt.heap.size + 1, 0, none⟩ = some (.int .i32 typ) := by simp [World.cell?, hev3]
          have hb1 : w3.cell? ⟨wt.heap.size + 1, 1, none⟩ = some (.int .i32 3) := by simp [World.cell?, hev3]
          have hb2 : w3.cell? ⟨wt.heap.size + 1, 2, none⟩ = some (.string (path k)) := by simp [World.cell?, hev3]
          clear hnot hF hold hrun hen hit3 hg3 hsz3 hev3 hns he
          have hm : ∀ (b : Nat) (w : World), (method 299 28 (.pointer (some ⟨b, 0, none⟩)) "Notify").run Yba.prog w = .ok (70, .pointer (some ⟨b, 0, none⟩)) w := fun _ _ => by kernel_rfl
          go_wp2_with fail
          refine Calls.mono HNOT.out ?_
          rintro e' w5 ⟨rfl, h5⟩
          have HN6 : Hid _ := h5
          clear h5 HNOT hm
          go_wp2
          go_roundw
          case rel =>
            obtain ⟨⟨V5, hF5⟩, _⟩ := HN6.out
            exact ⟨V5, _, _, hF5⟩
          case measure => exact HN6.out.2
end Go.Proofs.Ybulkfbw.lawS0295AFires
