/-
  LawS0307AReturned: what returnedOps answers. By an AI agent.
-/
import Derived.Test.YbulkfiiRetParts
namespace Go.Proofs.Ybulkfii.lawS0307AReturned
open Go.ChangeShapes Go.WideShapes Go.ChangeAt Go.RowKit
set_option linter.unusedVariables false

/-- The cells of the ops behind i writes. -/
def rowW (A : Nat → Int) (B kv : Nat → Nat) (Pd : Nat → Bool) : Nat → List Value
  | 0 => []
  | i + 1 => rowW A B kv Pd i ++ if Pd i then [] else [ptr (B i), .int .i64 (A (kv i))]
def cntW (Pd : Nat → Bool) : Nat → Nat
  | 0 => 0
  | i + 1 => cntW Pd i + if Pd i then 0 else 1
theorem rowW_len (A : Nat → Int) (B kv : Nat → Nat) (Pd : Nat → Bool) (i : Nat) : (rowW A B kv Pd i).length = cntW Pd i * 2 := by
  induction i with
  | zero => rfl
  | succ i ih => rw [rowW, cntW, List.length_append, ih]; split <;> simp <;> omega
theorem cntW_le (Pd : Nat → Bool) (i : Nat) : cntW Pd i ≤ i := by
  induction i with
  | zero => exact Nat.le_refl _
  | succ i ih => rw [cntW]; split <;> omega
/-- The pointers of those that are taken. -/
def rowU (C : Nat → Nat) (no : Nat → Bool) : Nat → List Value
  | 0 => []
  | i + 1 => rowU C no i ++ if no i then [] else [ptr (C i)]
theorem rowU_len (C : Nat → Nat) (no : Nat → Bool) (i : Nat) : (rowU C no i).length = cntW no i := by
  induction i with
  | zero => rfl
  | succ i ih => rw [rowU, cntW, List.length_append, ih]; split <;> simp

theorem rows_apart {w : World} {b1 b2 : Nat} {e1 e2 : TypeId} {s1 s2 : Nat} {v1 v2 : Value} {n1 n2 : Nat} {x1 x2 : List Value} (h1 : w.ownsRow b1 e1 s1 v1 n1 x1) (h2 : w.ownsRow b2 e2 s2 v2 n2 x2) (he : e1 ≠ e2) : ∀ e, v1.ownBlock = some e → some e ≠ v2.ownBlock := by
  intro e hv hv2
  rcases h1.2 with ⟨r1, _⟩ | ⟨g1, c1, u1, r1, _, hg1, _⟩
  · rw [r1] at hv; simp [Value.ownBlock] at hv
  rcases h2.2 with ⟨r2, _⟩ | ⟨g2, c2, u2, r2, _, hg2, _⟩
  · rw [r2] at hv2; simp [Value.ownBlock] at hv2
  rw [r1] at hv
  rw [r2] at hv2
  simp [Value.ownBlock] at hv hv2
  subst hv
  subst hv2
  rw [hg1] at hg2
  simp at hg2
  exact he hg2.2

/-- What is owned stays owned while another row grows. -/
theorem row_kept {w w' : World} {base : Nat} {e : TypeId} {size : Nat} {v : Value} {n : Nat} {xs : List Value} {row : Option Nat} (h : w.ownsRow base e size v n xs) (hg : w.grownBy w' row) (hne : ∀ e, v.ownBlock = some e → some e ≠ row) : w'.ownsRow base e size v n xs := by
  refine ⟨h.1, ?_⟩
  rcases h.2 with h0 | ⟨g, cap, cur, hv, hb, hgg, hr⟩
  · exact .inl h0
  · exact .inr ⟨g, cap, cur, hv, hb, (hg.block g (Array.getElem?_eq_some_iff.1 hgg).1 (hne g (by rw [hv]; rfl))).trans hgg, hr⟩

theorem two_new (w : World) (u v : Value) (t : TypeId) : ∀ j x, [u, v][j]? = some x → (w.alloc (.cells #[u, v] t)).cell? ((⟨w.heap.size, 0, none⟩ : Addr).add j) = some x := by
  intro j x hx
  match j, hx with
  | 0, hx => simp at hx; subst hx; show (w.alloc _).cell? ⟨w.heap.size, 0, none⟩ = _; rw [World.cell?_alloc_at _ _ _ _ rfl]; rfl
  | 1, hx => simp at hx; subst hx; show (w.alloc _).cell? ⟨w.heap.size, 1, none⟩ = _; rw [World.cell?_alloc_at _ _ _ _ rfl]; rfl
  | j + 2, hx => simp at hx
theorem two_one (b : Nat) (a : Int) : ∀ u ∈ [ptr b, .int .i64 a], u.oneCell' = true := by intro u hu; simp at hu; rcases hu with rfl | rfl <;> rfl

structure In5 (w : World) (rb n m : Nat) (aw ar : Option Addr) (c1 c2 : Nat) (B C kv kr : Nat → Nat) (Pd H : Nat → Bool) (A : Nat → Int) (mb : Nat) (vb : Nat → Nat) : Prop where
  hn : n ≤ 1024
  hm : m ≤ 1024
  rw : w.cell? ⟨rb, 2, none⟩ = some (.slice aw n c1)
  rr : w.cell? ⟨rb, 3, none⟩ = some (.slice ar m c2)
  wr : 0 < n → ∃ g o, aw = some ⟨g, o, none⟩ ∧ ∀ t, t < n → w.cell? ⟨g, o + t, none⟩ = some (ptr (B t))
  rd : 0 < m → ∃ g o, ar = some ⟨g, o, none⟩ ∧ ∀ t, t < m → w.cell? ⟨g, o + t, none⟩ = some (ptr (C t))
  wop : ∀ t, t < n → w.cell? ⟨B t, 3, none⟩ = some (.string (key (kv t))) ∧ w.cell? ⟨B t, 7, none⟩ = some (.bool (Pd t))
  rop : ∀ t, t < m → w.cell? ⟨C t, 3, none⟩ = some (.string (key (kr t)))
  kv5 : ∀ t, kv t < 5
  kr5 : ∀ t, kr t < 5
  kvh : ∀ t, t < n → H (kv t) = true
  mlt : mb < w.heap.size
  look : ∀ q, q < 5 → ∀ w' : World, w'.heap[mb]? = w.heap[mb]? → (Instr.lookup 45 (.map (some mb)) (.string (key q)) false).run Yba.prog w' = .ok (if H q then ptr (vb q) else .pointer none) w'
  val : ∀ q, q < 5 → H q = true → w.cell? ⟨vb q, 1, none⟩ = some (.int .i64 (A q))

set_option maxHeartbeats 4000000 in
set_option maxRecDepth 100000 in
theorem returned_any {w : World} {rb n m : Nat} {aw ar : Option Addr} {c1 c2 : Nat} {B C kv kr : Nat → Nat} {Pd H : Nat → Bool} {A : Nat → Int} {mb : Nat} {vb : Nat → Nat} (I : In5 w rb n m aw ar c1 c2 B C kv kr Pd H A mb vb) :
    Calls Yba.prog 5 #[ptr rb, .map (some mb)] w fun e w' => ∃ o u, e = .returned (.tuple #[o, u]) ∧ Below w.heap.size w w' ∧
      w'.ownsRow w.heap.size 53 2 o (cntW Pd n + cntW (fun t => !H (kr t)) m) (rowW A B kv Pd n ++ rowW A C kr (fun t => !H (kr t)) m) ∧
      w'.ownsRow w.heap.size 37 1 u (cntW (fun t => H (kr t)) m) (rowU C (fun t => H (kr t)) m) := by
  have HI : Hid (In5 w rb n m aw ar c1 c2 B C kv kr Pd H A mb vb) := I
  have hn := I.hn
  have hm := I.hm
  have r1 := I.rw
  have r2 := I.rr
  clear I
  unfold ptr
  have hwn : IntKind.i64.wrap ((n : Int) + (m : Int)) = (n : Int) + (m : Int) := by rw [IntKind.wrap_i64]; omega
  go_enter Yba.func5, Yba.ntmps5
  go_wp2
  refine wp_then (fun a0 a' w' => a' = putAll a0 [11, 12, 13, 14, 15, 16, 17, 18, 19, 20, 21, 22, 4] [ptr rb, ptr rb, .pointer (some ⟨rb, 2, none⟩), .slice aw n c1, .int .i64 n, ptr rb, ptr rb, .pointer (some ⟨rb, 3, none⟩), .slice ar m c2, .int .i64 m, .int .i64 (n + m), (.slice (some ⟨w.heap.size, 0, none⟩) 0 (n + m)), (.slice (some ⟨w.heap.size, 0, none⟩) 0 (n + m))] ∧ w'.ownsRow w.heap.size 53 2 (.slice (some ⟨w.heap.size, 0, none⟩) 0 (n + m)) 0 [] ∧ w.drew.grownBy w' none) ?_ ?_
  · intro a0 ha0
    have hsz : a0.tmps.size = 88 := by rw [ha0]; rfl
    have e0 : ∀ h : 0 < a0.tmps.size, a0.tmps[0]'h = .pointer (some ⟨rb, 0, none⟩) := by rw [ha0]; intro h; rfl
    clear ha0
    go_light
    refine wp_region_T 99 (fun w' => w'.cell? ⟨rb, 2, none⟩ = some (.slice aw n c1) ∧ w'.cell? ⟨rb, 3, none⟩ = some (.slice ar m c2)) (by kernel_rfl) ⟨r1, r2⟩ (fun hS => ?_)
    refine wpAnyT_takeY (i := 0) (v := ?_) (by simp only [List.getElem?_toArray, List.getElem?_cons_zero]; rfl) (by decide +kernel) (by decide +kernel) (by decide +kernel) (by decide) (fun _ _ _ h => h) (Or.inl ⟨by rfl, ?_⟩) hS ?_
    rotate_left
    · intro w _
      go_simp
      try with_reducible rfl
    refine wpAnyT_takeY (i := 1) (v := ?_) (by simp only [List.getElem?_toArray, List.getElem?_cons_succ, List.getElem?_cons_zero]; rfl) (by decide +kernel) (by decide +kernel) (by decide +kernel) (by decide) (fun _ _ _ h => h) (Or.inl ⟨by rfl, ?_⟩) hS ?_
    rotate_left
    · intro w _
      go_simp
      try with_reducible rfl
    refine wpAnyT_takeY (i := 2) (v := ?_) (by simp only [List.getElem?_toArray, List.getElem?_cons_succ, List.getElem?_cons_zero]; rfl) (by decide +kernel) (by decide +kernel) (by decide +kernel) (by decide) (fun _ _ _ h => h) (Or.inl ⟨by rfl, ?_⟩) hS ?_
    rotate_left
    · intro w _
      go_simp
      try with_reducible rfl
    refine wpAnyT_take (i := 3) (v := ?_) (by simp only [List.getElem?_toArray, List.getElem?_cons_succ, List.getElem?_cons_zero]; rfl) (by decide +kernel) (by decide +kernel) (by decide +kernel) (by decide +kernel) (by decide) (by decide +kernel) (fun _ _ _ h => h) (Or.inl ⟨by rfl, ?_⟩) hS ?_
    rotate_left
    · intro w hSw
      obtain ⟨s1, s2⟩ := hSw
      go_simp
      try with_reducible rfl
    refine wpAnyT_takeY (i := 4) (v := ?_) (by simp only [List.getElem?_toArray, List.getElem?_cons_succ, List.getElem?_cons_zero]; rfl) (by decide +kernel) (by decide +kernel) (by decide +kernel) (by decide) (fun _ _ _ h => h) (Or.inl ⟨by rfl, ?_⟩) hS ?_
    rotate_left
    · intro w _
      go_simp
      try with_reducible rfl
    refine wpAnyT_takeY (i := 5) (v := ?_) (by simp only [List.getElem?_toArray, List.getElem?_cons_succ, List.getElem?_cons_zero]; rfl) (by decide +kernel) (by decide +kernel) (by decide +kernel) (by decide) (fun _ _ _ h => h) (Or.inl ⟨by rfl, ?_⟩) hS ?_
    rotate_left
    · intro w _
      go_simp
      try with_reducible rfl
    refine wpAnyT_takeY (i := 6) (v := ?_) (by simp only [List.getElem?_toArray, List.getElem?_cons_succ, List.getElem?_cons_zero]; rfl) (by decide +kernel) (by decide +kernel) (by decide +kernel) (by decide) (fun _ _ _ h => h) (Or.inl ⟨by rfl, ?_⟩) hS ?_
    rotate_left
    · intro w _
      go_simp
      try with_reducible rfl
    refine wpAnyT_takeY (i := 7) (v := ?_) (by simp only [List.getElem?_toArray, List.getElem?_cons_succ, List.getElem?_cons_zero]; rfl) (by decide +kernel) (by decide +kernel) (by decide +kernel) (by decide) (fun _ _ _ h => h) (Or.inl ⟨by rfl, ?_⟩) hS ?_
    rotate_left
    · intro w _
      go_simp
      try with_reducible rfl
    refine wpAnyT_take (i := 8) (v := ?_) (by simp only [List.getElem?_toArray, List.getElem?_cons_succ, List.getElem?_cons_zero]; rfl) (by decide +kernel) (by decide +kernel) (by decide +kernel) (by decide +kernel) (by decide) (by decide +kernel) (fun _ _ _ h => h) (Or.inl ⟨by rfl, ?_⟩) hS ?_
    rotate_left
    · intro w hSw
      obtain ⟨s1, s2⟩ := hSw
      go_simp
      try with_reducible rfl
    refine wpAnyT_takeY (i := 9) (v := ?_) (by simp only [List.getElem?_toArray, List.getElem?_cons_succ, List.getElem?_cons_zero]; rfl) (by decide +kernel) (by decide +kernel) (by decide +kernel) (by decide) (fun _ _ _ h => h) (Or.inl ⟨by rfl, ?_⟩) hS ?_
    rotate_left
    · intro w _
      go_simp
      try with_reducible rfl
    refine wpAnyT_takeY (i := 10) (v := ?_) (by simp only [List.getElem?_toArray, List.getElem?_cons_succ, List.getElem?_cons_zero]; rfl) (by decide +kernel) (by decide +kernel) (by decide +kernel) (by decide) (fun _ _ _ h => h) (Or.inl ⟨by rfl, ?_⟩) hS ?_
    rotate_left
    · intro w _
      go_simp
      try with_reducible rfl
    obtain ⟨i0, hi, hz0, hz1, hz2⟩ := info_parts info53
    obtain ⟨w1, hrun, hown1, hgrow1⟩ := run_make_own (P := Yba.prog) w.drew w.heap.size 49 53 i0 (.agg #[.pointer none, .int .i64 0]) 2 Yba.underlying49 hi hz0 hz1 .i64 .i64 (n + m) (by rw [hz2]; omega) (by unfold maxLen; omega) (Nat.le_refl _)
    clear hi hz0 hz1 hz2 i0
    have hrun' : (Instr.makeSlice 49 (.int .i64 0) (.int .i64 ((n : Int) + (m : Int)))).run Yba.prog w.drew = .ok (.slice (some ⟨w.heap.size, 0, none⟩) 0 (n + m)) w1 := by rw [← Int.natCast_add]; exact hrun
    have hS1 : w1.cell? ⟨rb, 2, none⟩ = some (.slice aw n c1) ∧ w1.cell? ⟨rb, 3, none⟩ = some (.slice ar m c2) := ⟨(grown_cell hgrow1 _ _ (World.block_lt_of_cell? w _ r1) (by simp)).trans r1, (grown_cell hgrow1 _ _ (World.block_lt_of_cell? w _ r1) (by simp)).trans r2⟩
    refine wpAnyT_only (i := 11) (by decide +kernel) (by simp only [List.getElem?_toArray, List.getElem?_cons_succ, List.getElem?_cons_zero]; rfl) rfl ?_
    go_simp
    refine wpAnyT_only (i := 12) (by decide +kernel) (by simp only [List.getElem?_toArray, List.getElem?_cons_succ, List.getElem?_cons_zero]; rfl) rfl ?_
    go_simp
    refine wpAnyT_done (by decide +kernel) ?_ _
    exact ⟨by simp only [putAll, Act.put, ptr], hown1, hgrow1⟩
  · intro a0 a' w1 ha0 hR'
    obtain ⟨ha', hown1, hgrow1⟩ := hR'
    rw [ha', ha0]
    clear ha' ha0
    simp only [putAll, Act.put, List.setIfInBounds_toArray, List.set_cons_succ, List.set_cons_zero]
    have s1 : w1.cell? ⟨rb, 2, none⟩ = some (.slice aw n c1) := (grown_cell hgrow1 _ _ (World.block_lt_of_cell? w _ r1) (by simp)).trans r1
    have HB : Hid (Below w.heap.size w w1) := (Below.refl _ _).drew.grown hgrow1 (Nat.le_refl _) (by simp)
    have HO : Hid (w1.ownsRow w.heap.size 53 2 (.slice (some ⟨w.heap.size, 0, none⟩) 0 (n + m)) 0 []) := hown1
    clear hown1 hgrow1
    unfold ptr
    go_wp2
    go_loopw [28, 4] (fun i v wr => ∃ k : Nat, k ≤ n ∧ i = .int .i64 k ∧ Below w.heap.size w wr ∧ wr.ownsRow w.heap.size 53 2 v (cntW Pd k) (rowW A B kv Pd k)) (fun i _ _ => n - (intOf i).toNat)
    case atStart => exact ⟨0, Nat.zero_le _, rfl, HB.out, HO.out⟩
    case round =>
      obtain ⟨k, hk, rfl, hb0, ho0⟩ := hrel
      have HB1 : Hid (Below w.heap.size w wr) := hb0
      have HO1 : Hid (wr.ownsRow w.heap.size 53 2 u4 (cntW Pd k) (rowW A B kv Pd k)) := ho0
      have hsz := hb0.size
      clear hb0 ho0 HB HO
      by_cases hlt : k < n
      · obtain ⟨g, o, rfl, hc⟩ := HI.out.wr (by omega)
        have d0 := hc k hlt
        have d1 := HI.out.wop k hlt
        have c0 : wr.cell? ⟨g, o + k, none⟩ = some (.pointer (some ⟨B k, 0, none⟩)) := (HB1.out.cell (World.block_lt_of_cell? w _ d0)).trans d0
        have c3 : wr.cell? ⟨B k, 3, none⟩ = some (.string (key (kv k))) := (HB1.out.cell (World.block_lt_of_cell? w _ d1.1)).trans d1.1
        have c7 : wr.cell? ⟨B k, 7, none⟩ = some (.bool (Pd k)) := (HB1.out.cell (World.block_lt_of_cell? w _ d1.2)).trans d1.2
        clear hc d0 d1
        by_cases hp : Pd k = true
        · rw [hp] at c7
          go_wp2
          go_roundw
          case rel =>
            go_light
            refine ⟨k + 1, by omega, by go_num, HB1.out, ?_⟩
            simp only [cntW, rowW, hp, if_true, List.append_nil, Nat.add_zero]
            exact HO1.out
          case measure => simp [intOf]; omega
        · have hpf : Pd k = false := by simpa using hp
          rw [hpf] at c7
          have hH := HI.out.kvh k hlt
          have hl := HI.out.look (kv k) (HI.out.kv5 k) wr (HB1.out.block mb HI.out.mlt)
          rw [if_pos hH] at hl
          unfold ptr at hl
          have d2 := HI.out.val (kv k) (HI.out.kv5 k) hH
          have c8 : wr.cell? ⟨vb (kv k), 1, none⟩ = some (.int .i64 (A (kv k))) := (HB1.out.cell (World.block_lt_of_cell? w _ d2)).trans d2
          clear d2 hH hp
          have hcn := cntW_le Pd k
          go_wp2_with (at_builtin; obtain ⟨i0, hi, hz0, hz1, hz2⟩ := info_parts info53; go_must (refine wpList_append_own _ rfl (.tmp 38) (.tmp 51) 49 rfl w.heap.size 53 i0 (.agg #[.pointer none, .int .i64 0]) 2 16 Yba.underlying49 hi hz0 hz1 hz2 rfl (by decide) u4 (cntW Pd k) (rowW A B kv Pd k) rfl (HO1.out.alloc _) ⟨wr.heap.size, 0, none⟩ 1 1 [ptr (B k), .int .i64 (A (kv k))] rfl rfl (two_new _ _ _ _) (two_one _ _) (by unfold maxLen; omega) (by omega) (by simp; omega) ?_); clear hi hz0 hz1 hz2 i0; intro v5 w5 hown5 hgrow5 _)
          go_roundw
          case rel =>
            go_light
            refine ⟨k + 1, by omega, by go_num, (HB1.out.alloc hsz _).grown hgrow5 (by simp; omega) (fun e he => (HO1.out.lt e he).1), ?_⟩
            simp only [cntW, rowW, hpf]
            exact hown5
          case measure => simp [intOf]; omega
      · have hkn : k = n := by omega
        have HO2 : Hid (wr.ownsRow w.heap.size 53 2 u4 (cntW Pd n) (rowW A B kv Pd n)) := by
          have h := HO1.out
          rw [hkn] at h
          exact h
        obtain ⟨w2, hw2⟩ : ∃ x, x = wr := ⟨_, rfl⟩
        subst hw2
        have s2 : w2.cell? ⟨rb, 3, none⟩ = some (.slice ar m c2) := (HB1.out.cell (World.block_lt_of_cell? w _ r2)).trans r2
        clear HO1 hkn s1 hsz
        obtain ⟨v0, hv0⟩ : ∃ x, x = u4 := ⟨_, rfl⟩
        subst hv0
        go_wp2
        go_loopw [59, 4, 5] (fun i v u wr => ∃ k : Nat, k ≤ m ∧ i = .int .i64 k ∧ Below w.heap.size w wr ∧ wr.ownsRow w.heap.size 53 2 v (cntW Pd n + cntW (fun t => !H (kr t)) k) (rowW A B kv Pd n ++ rowW A C kr (fun t => !H (kr t)) k) ∧ wr.ownsRow w.heap.size 37 1 u (cntW (fun t => H (kr t)) k) (rowU C (fun t => H (kr t)) k)) (fun i _ _ _ => m - (intOf i).toNat)
        case atStart => exact ⟨0, Nat.zero_le _, rfl, HB1.out, by simpa [cntW, rowW] using HO2.out, World.ownsRow_nil _ _ _ _⟩
        case round =>
          obtain ⟨j, hj, rfl, hb0, ho0, hu0⟩ := hrel
          have HB3 : Hid (Below w.heap.size w wr) := hb0
          have HO3 : Hid (wr.ownsRow w.heap.size 53 2 u4 (cntW Pd n + cntW (fun t => !H (kr t)) j) (rowW A B kv Pd n ++ rowW A C kr (fun t => !H (kr t)) j)) := ho0
          have HU3 : Hid (wr.ownsRow w.heap.size 37 1 u5 (cntW (fun t => H (kr t)) j) (rowU C (fun t => H (kr t)) j)) := hu0
          have hsz := hb0.size
          clear hb0 ho0 hu0 HB1 HO2
          by_cases hjm : j < m
          · obtain ⟨g, o, rfl, hc⟩ := HI.out.rd (by omega)
            have d0 := hc j hjm
            have d1 := HI.out.rop j hjm
            have c0 : wr.cell? ⟨g, o + j, none⟩ = some (.pointer (some ⟨C j, 0, none⟩)) := (HB3.out.cell (World.block_lt_of_cell? w _ d0)).trans d0
            have c3 : wr.cell? ⟨C j, 3, none⟩ = some (.string (key (kr j))) := (HB3.out.cell (World.block_lt_of_cell? w _ d1)).trans d1
            clear hc d0 d1
            have hl := HI.out.look (kr j) (HI.out.kr5 j) wr (HB3.out.block mb HI.out.mlt)
            have hcn := cntW_le Pd n
            have hcj := cntW_le (fun t => !H (kr t)) j
            have hcu := cntW_le (fun t => H (kr t)) j
            by_cases hp : H (kr j) = true
            · rw [if_pos hp] at hl
              unfold ptr at hl
              have d2 := HI.out.val (kr j) (HI.out.kr5 j) hp
              have c8 : wr.cell? ⟨vb (kr j), 1, none⟩ = some (.int .i64 (A (kr j))) := (HB3.out.cell (World.block_lt_of_cell? w _ d2)).trans d2
              clear d2
              go_wp2_with (at_builtin; obtain ⟨i0, hi, hz0, hz1, hz2⟩ := info_parts info53; go_must (refine wpList_append_own _ rfl (.tmp 72) (.tmp 79) 49 rfl w.heap.size 53 i0 (.agg #[.pointer none, .int .i64 0]) 2 16 Yba.underlying49 hi hz0 hz1 hz2 rfl (by decide) u4 (cntW Pd n + cntW (fun t => !H (kr t)) j) (rowW A B kv Pd n ++ rowW A C kr (fun t => !H (kr t)) j) rfl (HO3.out.alloc _) ⟨wr.heap.size, 0, none⟩ 1 1 [ptr (C j), .int .i64 (A (kr j))] rfl rfl (two_new _ _ _ _) (two_one _ _) (by unfold maxLen; omega) (by omega) (by simp; omega) ?_); clear hi hz0 hz1 hz2 i0; intro v5 w5 hown5 hgrow5 _)
              go_roundw
              case rel =>
                go_light
                refine ⟨j + 1, by omega, by go_num, (HB3.out.alloc hsz _).grown hgrow5 (by simp; omega) (fun e he => (HO3.out.lt e he).1), ?_, ?_⟩
                · simp only [cntW, rowW, hp, ← List.append_assoc]
                  exact hown5
                · simp only [cntW, rowU, hp, if_true, List.append_nil, Nat.add_zero]
                  exact row_kept (HU3.out.alloc _) hgrow5 (rows_apart HU3.out HO3.out (by decide))
              case measure => simp [intOf]; omega
            · have hpf : H (kr j) = false := by simpa using hp
              rw [if_neg hp] at hl
              go_wp2_with (at_builtin; obtain ⟨i0, hi, hz0, hz1, hz2⟩ := info_parts info37; go_must (refine wpList_append_own _ rfl (.tmp 81) (.tmp 83) 30 rfl w.heap.size 37 i0 (.pointer none) 1 8 Yba.underlying30 hi hz0 hz1 hz2 rfl (by decide) u5 (cntW (fun t => H (kr t)) j) (rowU C (fun t => H (kr t)) j) rfl (HU3.out.alloc _) ⟨wr.heap.size, 0, none⟩ 1 1 [ptr (C j)] rfl rfl (cell_one_new _ _ _) (one_ptr _) (by unfold maxLen; omega) (by omega) (by simp; omega) ?_); clear hi hz0 hz1 hz2 i0; intro v5 w5 hown5 hgrow5 _)
              go_roundw
              case rel =>
                go_light
                refine ⟨j + 1, by omega, by go_num, (HB3.out.alloc hsz _).grown hgrow5 (by simp; omega) (fun e he => (HU3.out.lt e he).1), ?_, ?_⟩
                · simp only [cntW, rowW, hpf]
                  simpa using row_kept (HO3.out.alloc _) hgrow5 (rows_apart HO3.out HU3.out (by decide))
                · simp only [cntW, rowU, hpf]
                  exact hown5
              case measure => simp [intOf]; omega
          · have hjm' : j = m := by omega
            go_wp2
            go_ret2
            refine ⟨_, _, rfl, HB3.out, ?_, ?_⟩
            · have h := HO3.out
              rw [hjm'] at h
              exact h
            · have h := HU3.out
              rw [hjm'] at h
              exact h
end Go.Proofs.Ybulkfii.lawS0307AReturned
