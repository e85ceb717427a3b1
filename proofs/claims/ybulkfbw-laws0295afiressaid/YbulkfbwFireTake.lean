/-
  LawS0295AFires: what take does. By an AI agent.
-/
import Derived.Test.YbulkfbwFireDrop
import Derived.Maps.RangeWalk
namespace Go.Proofs.Ybulkfbw.lawS0295AFires
open Go.ChangeShapes Go.WideShapes Go.RowKit
open Go.ChangeMaps (setBlock)
set_option linter.unusedVariables false
variable {base : Nat} {w : World} {blk : Role → Option Nat} {L : Role → List Ent} {c : Role → Nat} {ws : List Nat} {B : Bool → Bool → Nat}

def clearT (S : Bool → Nat → Nat → Bool) (t : Bool) (k : Nat) : Bool → Nat → Nat → Bool := fun t' i k' => if t' = t ∧ k' = k then false else S t' i k'
def mapLen (w : World) (b : Nat) : Nat := match w.heap[b]? with | some (.map es _) => es.size | _ => 0
theorem mapLen_at {w : World} {b n : Nat} {enc : Nat → Value} {L : List Ent} (h : w.heap[b]? = some (mapObj enc L n)) : mapLen w b = L.length := by
  simp [mapLen, h, mapObj]
theorem del_shorter {L : List Ent} {e : Ent} (h : e ∈ L) : (del L e.k).length < L.length := by
  unfold del
  exact List.length_filter_lt_length_iff_exists.2 ⟨e, h, by simp⟩

theorem pw_eq {f : Ent → Nat} : ∀ {L : List Ent}, L.Pairwise (fun x y => f x ≠ f y) → ∀ {x y : Ent}, x ∈ L → y ∈ L → f x = f y → x = y
  | [], _, _, _, h, _, _ => by cases h
  | z :: zs, hp, x, y, hx, hy, e => by
    obtain ⟨h1, h2⟩ := List.pairwise_cons.1 hp
    rcases List.mem_cons.1 hx with rfl | hx' <;> rcases List.mem_cons.1 hy with rfl | hy'
    · rfl
    · exact absurd e (h1 y hy')
    · exact absurd e.symm (h1 x hx')
    · exact pw_eq h2 hx' hy' e

/-- At the head of each of take's rounds. -/
structure TakeRel (base : Nat) (ws : List Nat) (B : Bool → Bool → Nat) (w : World) (S : Bool → Nat → Nat → Bool) (blk : Role → Option Nat) (L : Role → List Ent) (t : Bool) (k b sc : Nat) (wr : World) (Sr : Bool → Nat → Nat → Bool) (Lr : Role → List Ent) (cr : Role → Nat) (seen : Array Nat) (c0 : Nat) : Prop where
  st : St base ws B wr (mk Sr) blk Lr cr
  fm : Fm base w wr
  box : wr.heap[w.heap.size]? = some (.cells #[.map (some (B false t)), .map (some (B true t))] 70 (0, 0))
  iter : wr.heap[w.heap.size + 1]? = some (.mapIter (some b) sc seen c0)
  old : ∀ e ∈ Lr (.i false t k), e.b < sc
  clk : sc ≤ c0
  clr : sc ≤ cr (.i false t k)
  fresh : ∀ e ∈ Lr (.i false t k), seen.contains e.b = false
  same : ∀ t' i k', ¬(t' = t ∧ k' = k) → Sr t' i k' = S t' i k'
  inner : ∀ e ∈ Lr (.i false t k), Sr t e.k k = true
  into : ∀ j, ((get (Lr .x) j).isSome = true ∨ Sr t j k = true) ↔ ((get (L .x) j).isSome = true ∨ S t j k = true)

theorem take_over {S : Bool → Nat → Nat → Bool} {t : Bool} {k b sc : Nat} {wr : World} {Sr : Bool → Nat → Nat → Bool} {Lr : Role → List Ent} {cr : Role → Nat} {seen : Array Nat} {c0 : Nat}
    (h : TakeRel base ws B w S blk L t k b sc wr Sr Lr cr seen c0) (ho : ∀ e ∈ Lr (.i false t k), seen.contains e.b = true) :
    Fm base w wr ∧ ∃ L' c', St base ws B wr (mk (clearT S t k)) blk L' c' ∧ ∀ j, (get (L' .x) j).isSome = true ↔ (get (L .x) j).isSome = true ∨ S t j k = true := by
  have hn : Lr (.i false t k) = [] := by
    cases hl : Lr (.i false t k) with
    | nil => rfl
    | cons e es =>
      have he : e ∈ Lr (.i false t k) := by rw [hl]; exact List.mem_cons_self ..
      have h1 := h.fresh e he
      rw [ho e he] at h1
      cases h1
  have hf : ∀ j, Sr t j k = false := by
    intro j
    cases hs : Sr t j k with
    | false => rfl
    | true =>
      have h1 := ((h.st.rel false t k j).1 hs).2
      rw [hn] at h1
      cases h1
  have hS : Sr = clearT S t k := by
    funext t' i k'
    unfold clearT
    by_cases hc : t' = t ∧ k' = k
    · rw [if_pos hc, hc.1, hc.2]; exact hf i
    · rw [if_neg hc]; exact h.same t' i k' hc
  refine ⟨h.fm, Lr, cr, by rw [← hS]; exact h.st, fun j => ?_⟩
  rw [← h.into j, hf j]
  simp

set_option maxHeartbeats 1000000 in
set_option maxRecDepth 100000 in
theorem take_any {S : Bool → Nat → Nat → Bool} (h : St base ws B w (mk S) blk L c) (t : Bool) {k : Nat} (hk : k < 5) {bx : Nat} (hx : blk .x = some bx) :
    Calls Yba.prog 31 #[.agg #[.map (some (B false t)), .map (some (B true t))], .string (path k), .map (some bx)] w fun e w' => e = .returned (.map (some bx)) ∧ Fm base w w' ∧ ∃ L' c', St base ws B w' (mk (clearT S t k)) blk L' c' ∧ ∀ j, (get (L' .x) j).isSome = true ↔ (get (L .x) j).isSome = true ∨ S t j k = true := by
  obtain ⟨w1, hw1⟩ : ∃ x, x = w.alloc (.cells #[.map (some (B false t)), .map (some (B true t))] 70) := ⟨_, rfl⟩
  have hm1 : Fm base w w1 := by rw [hw1]; exact Fm.alloc _ _
  have hbx : w1.heap[w.heap.size]? = some (.cells #[.map (some (B false t)), .map (some (B true t))] 70 (0, 0)) := by rw [hw1]; exact heap_alloc_new _ _
  have hs1 : St base ws B w1 (mk S) blk L c := by rw [hw1]; exact h.alloc _
  have hl1 := hs1.lookO false t (k := k) hk
  have hsz1 : w1.heap.size = w.heap.size + 1 := by rw [hw1]; simp
  have hc1 : w1.cell? ⟨w.heap.size, 0, none⟩ = some (.map (some (B false t))) := by simp [World.cell?, hbx]
  cases hg : get (L (.o false t)) k with
  | none =>
    have hE : Fm base w (w1.alloc (.mapIter none 0 #[] 0)) ∧ ∃ L' c', St base ws B (w1.alloc (.mapIter none 0 #[] 0)) (mk (clearT S t k)) blk L' c' ∧ ∀ j, (get (L' .x) j).isSome = true ↔ (get (L .x) j).isSome = true ∨ S t j k = true := by
      have hf : ∀ j, S t j k = false := by
        intro j
        cases hs : S t j k with
        | false => rfl
        | true =>
          have h1 := ((hs1.rel false t k j).1 hs).1
          rw [hg] at h1
          cases h1
      have hS : clearT S t k = S := by
        funext t' i k'
        unfold clearT
        by_cases hc : t' = t ∧ k' = k
        · rw [if_pos hc, hc.1, hc.2, hf i]
        · rw [if_neg hc]
      refine ⟨hm1.trans (Fm.alloc _ _), L, c, by rw [hS]; exact hs1.alloc _, fun j => by simp [hf j]⟩
    have HE : Hid _ := hE
    clear hE
    rw [hg] at hl1
    simp only [tO, encK, encP, Option.getD_none] at hl1
    have hrn := run_range_nil (P := Yba.prog) w1 (t := 80) (kt := 121) (e := 35) Yba.underlying80
    have hnn : ∀ ty, (Instr.next (.pointer (some ⟨w1.heap.size, 0, none⟩)) false ty).run Yba.prog (w1.alloc (.mapIter none 0 #[] 0)) = .ok (.tuple #[.bool false]) (w1.alloc (.mapIter none 0 #[] 0)) := fun ty => run_next_nil (heap_alloc_new _ _) ty
    rw [hsz1] at hrn hnn
    clear hs1 hm1 h hg hbx hsz1
    subst hw1
    go_enter Yba.func31, Yba.ntmps31
    go_wp2
    refine wp_loop_rounds 1 ?_
    rw [rounds_succ]
    go_wp2
    go_ret
    exact ⟨rfl, HE.out⟩
  | some v =>
    obtain ⟨b, hb, rfl⟩ := hs1.at_ hg
    have hold := hs1.fam.hold _ _ hb
    have hrn := run_range_obj (P := Yba.prog) (enc := encR (.i false t k)) (t := 80) (kt := 121) (e := 35) Yba.underlying80 hold.1
    rw [hsz1] at hrn
    rw [hg] at hl1
    simp only [tO, encK, encP, Option.getD_some] at hl1
    obtain ⟨w2, hw2⟩ : ∃ x, x = w1.alloc (.mapIter (some b) (c (.i false t k)) #[] (c (.i false t k))) := ⟨_, rfl⟩
    rw [← hw2] at hrn
    have HR : Hid (TakeRel base ws B w S blk L t k b (c (.i false t k)) w2 S L c #[] (c (.i false t k))) := by
      unfold Hid; refine ⟨by rw [hw2]; exact hs1.alloc _, by rw [hw2]; exact hm1.trans (Fm.alloc _ _), ?_, ?_, hold.2.lt, Nat.le_refl _, Nat.le_refl _, by simp, fun _ _ _ _ => rfl, ?_, fun j => Iff.rfl⟩
      · rw [hw2]; exact (Fm.alloc (base := base) _ _).block _ _ hbx (.inr (by simp))
      · rw [hw2, ← hsz1]; exact heap_alloc_new _ _
      · intro e he
        exact (hs1.rel false t k e.k).2 ⟨by rw [hg]; rfl, get_isSome.2 ⟨e, he, rfl⟩⟩
    clear hw2 hold hg hs1 hm1 hbx hsz1 h
    subst hw1
    go_enter Yba.func31, Yba.ntmps31
    go_wp2
    go_loopw [7] (fun _ wr => ∃ Sr Lr cr seen c0, TakeRel base ws B w S blk L t k b (c (.i false t k)) wr Sr Lr cr seen c0) (fun _ wr => mapLen wr b)
    case atStart => exact ⟨_, _, _, _, _, HR.out⟩
    case round =>
      obtain ⟨Sr, Lr, cr, seen, c0, hT⟩ := hrel
      have hold := hT.st.fam.hold _ _ hb
      clear hl1 hrn hc1 HR
      rcases run_next_map (P := Yba.prog) hT.iter hold.1 hold.2 hT.old hT.clk 0 with ⟨hall, hrun⟩ | ⟨e, he, hns, w3, hrun, hit3, hg3, hsz3, hen⟩
      · have hrun' : ∀ ty, (Instr.next (.pointer (some ⟨w.heap.size + 1, 0, none⟩)) false ty).run Yba.prog wr = .ok (.tuple #[.bool false]) wr := fun ty => hrun
        have HE : Hid _ := take_over hT hall
        clear hT hold hrun hall
        go_wp2
        go_ret
        exact ⟨rfl, HE.out⟩
      · have hrun' : ∀ ty, (Instr.next (.pointer (some ⟨w.heap.size + 1, 0, none⟩)) false ty).run Yba.prog wr = .ok (.tuple #[.bool true, encW e.k, e.v]) w3 := fun ty => hrun
        have hws : e.k ∈ ws := (hT.st.keyI false t k e he).1
        have hst3 : St base ws B w3 (mk Sr) blk Lr cr := hT.st.kept hg3 (fun r b' hb' e' => by
          cases e'
          have := (hT.st.fam.hold _ _ hb').1
          rw [hT.iter] at this
          cases this) (fun i hi => by
            obtain ⟨cs, ty, hc⟩ := hT.st.good i hi
            refine ⟨cs, ty, ?_⟩
            rw [hg3.block i (Array.getElem?_eq_some_iff.1 hc).1 (fun e' => by
              cases e'
              rw [hT.iter] at hc
              cases hc)]
            exact hc)
        obtain ⟨w4, hr4, hm4, hsz4, L4, c4, hst4, hL4, hget4⟩ := hst3.putX hx hws
        have hin4 : L4 (.i false t k) = Lr (.i false t k) := (hL4 _ (by simp)).1
        have hd := drop_any hst4 t hk hws (hT.inner e he)
        have hm3 : Fm base w w3 := hT.fm.step hg3 (by omega)
        have hbx3 : w3.heap[w.heap.size]? = some (.cells #[.map (some (B false t)), .map (some (B true t))] 70 (0, 0)) := by
          rw [hg3.block _ (Array.getElem?_eq_some_iff.1 hT.box).1 (by simp)]
          exact hT.box
        have hbx4 := hm4.block _ _ hbx3 (.inr (by simp))
        have hit4 := hm4.block _ _ hit3 (.inr (by simp))
        have hlo : mapLen wr b = (Lr (.i false t k)).length := mapLen_at hold.1
        have HN : Hid (∀ w5, (Fm base w4 w5 ∧ ∃ L', St base ws B w5 (mk (setT Sr t e.k k false)) blk L' c4 ∧ L' (.i false t k) = del (L4 (.i false t k)) e.k ∧ L' .x = L4 .x) →
            (∃ Sr' Lr' cr' seen' c0', TakeRel base ws B w S blk L t k b (c (.i false t k)) w5 Sr' Lr' cr' seen' c0') ∧ mapLen w5 b < mapLen wr b) := by
          rintro w5 ⟨hm5, L5, hst5, hL5, hx5⟩
          rw [hin4] at hL5
          refine ⟨⟨_, L5, c4, _, _, hst5, (hm3.trans hm4).trans hm5, hm5.block _ _ hbx4 (.inr (by simp)), hm5.block _ _ hit4 (.inr (by simp)), ?_, hT.clr, ?_, ?_, ?_, ?_, ?_⟩, ?_⟩
          · intro x hx'
            rw [hL5] at hx'
            exact hT.old x (List.mem_filter.1 hx').1
          · rw [(hL4 _ (by simp)).2]
            exact hT.clr
          · intro x hx'
            rw [hL5] at hx'
            obtain ⟨hx1, hx2⟩ := List.mem_filter.1 hx'
            rw [Array.contains_push, hT.fresh x hx1]
            have hne : x.b ≠ e.b := by
              intro e'
              have hxe : x = e := pw_eq hold.2.borns hx1 he e'
              rw [hxe] at hx2
              simp at hx2
            simp [hne]
          · intro t' i k' hne
            unfold setT
            rw [if_neg (fun e' => hne ⟨e'.1, e'.2.2⟩)]
            exact hT.same t' i k' hne
          · intro x hx'
            rw [hL5] at hx'
            obtain ⟨hx1, hx2⟩ := List.mem_filter.1 hx'
            unfold setT
            rw [if_neg (fun e' => by
              have h2 : x.k ≠ e.k := by simpa using hx2
              exact h2 e'.2.1)]
            exact hT.inner x hx1
          · intro j
            rw [← hT.into j, hx5, hget4 j]
            unfold setT
            by_cases hj : j = e.k
            · have := hT.inner e he
              rw [hj, this]
              simp
            · rw [if_neg (fun e' => hj e'.2.1)]
              simp [hj]
          · rw [hlo, mapLen_at (hst5.fam.hold _ _ hb).1, hL5]
            exact del_shorter he
        have hc4 : w4.cell? ⟨w.heap.size, 0, none⟩ = some (.map (some (B false t))) := by simp [World.cell?, hbx4]
        have hc4' : w4.cell? ⟨w.heap.size, 1, none⟩ = some (.map (some (B true t))) := by simp [World.cell?, hbx4]
        have hd' : Hid _ := hd
        have hlt4 : w.heap.size < w4.heap.size := World.block_lt_of_cell? w4 _ hc4
        clear hd hT hold hst3 hst4 hL4 hget4 hin4 hm3 hm4 hbx3 hbx4 hit4 hit3 hg3 hlo he hns hrun hws hsz3 hsz4
        unfold unit encW at *
        have hen' : (Instr.entry (.pointer (some ⟨w.heap.size + 1, 0, none⟩))).run Yba.prog w3 = .ok (.tuple #[.iface 28 (.pointer (some ⟨e.k, 0, none⟩)), e.v]) w3 := hen
        clear hen
        go_wp2_with fail
        refine Calls.mono hd'.out ?_
        rintro e' w5 ⟨rfl, h5⟩
        have HN5 := HN.out w5 h5
        have HN6 : Hid _ := HN5
        clear h5 HN HN5 hd'
        go_wp2
        go_roundw
        case rel => exact HN6.out.1
        case measure => exact HN6.out.2
end Go.Proofs.Ybulkfbw.lawS0295AFires
