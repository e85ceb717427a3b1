/-
  LawS0295AFires: the walk of the law. By an AI agent.
-/
import Derived.Test.YbulkfbwFireSecond
namespace Go.Proofs.Ybulkfbw.lawS0295AFires
open Go.ChangeShapes Go.WideShapes Go.RowKit
open Go.ChangeMaps (setBlock)
set_option linter.unusedVariables false
set_option linter.unusedSimpArgs false
set_option maxHeartbeats 4000000 in
set_option maxRecDepth 100000 in
theorem walk_small (a0 : Int) (a1 : Option Addr) (n cap1 : Nat) (a2 : Option Addr) (len2 cap2 : Nat) (C : Nat → Int) (X : Bool → Nat → Int) (w : World) (h0 : 0 ≤ a0) (h1 : a0 ≤ 255) (hn : n ≤ 1024)
    (hX : ∀ j, X true j = if j < len2 then C j else 0) (hb8 : ∀ t j, 0 ≤ X t j ∧ X t j ≤ 255)
    (hd : ∀ j, j < n → ∃ x, a1 = some x ∧ w.cell? (x.add j) = some (.int .u8 (X false j))) (hc : ∀ j, j < len2 → ∃ x, a2 = some x ∧ w.cell? (x.add j) = some (.int .u8 (C j))) :
    Calls Yba.prog 3 #[.int .u8 a0, .slice a1 n cap1, .slice a2 len2 cap2] w fun e w' => e = .returned (.bool true) ∧ Below w.heap.size w w' := by
  obtain ⟨k, hk, hka⟩ : ∃ k : Nat, k < 4 ∧ a0.tmod 4 = k := ⟨(a0 % 4).toNat, by omega, by rw [Int.tmod_eq_emod_of_nonneg h0]; omega⟩
  obtain ⟨cur, hcur, hmk⟩ := make27 n hn
  have HD : Hid _ := hd
  have HC : Hid _ := hc
  have HX : Hid _ := hX
  have HB8 : Hid _ := hb8
  have HCM : Hid (∀ (j : Nat) (wq : World), j ≤ 1024 → Below w.heap.size w wq → Calls Yba.prog 10 #[.slice a2 len2 cap2, .int .i64 j] wq fun e w' => e = .returned (.int .u8 (X true j)) ∧ w' = wq) := by
    intro j wq hj hbel
    have := cm_any a2 len2 cap2 C j wq hj (fun hlt => by
      obtain ⟨x, hx, hcell⟩ := hc j hlt
      exact ⟨x, hx, (hbel.cell (World.block_lt_of_cell? w _ hcell)).trans hcell⟩)
    rw [← hX j] at this
    exact this
  clear hd hc hX hb8
  go_enter Yba.func3, Yba.ntmps3
  go_wp2_with (first
    | (go_at_call 7; refine (new_any _).mono ?_; rintro e w1 ⟨rfl, hg1, hs1, ht1, hm1⟩)
    | (go_at_call 8; refine (path_any k (by omega) _).mono ?_; rintro e w2 ⟨rfl, rfl⟩)
    | (go_at_call 9; refine (parent_any k hk _).mono ?_; rintro e w3 ⟨rfl, rfl⟩))
  have HL : Hid (L1 w n X 0 0 (fun _ => 0) (w3.alloc (.cells cur 28)) [] (fun _ _ _ => false) (blk0 (BN w.heap.size)) (fun _ => []) (fun _ => 0) cur) := l1_start hg1 hs1 ht1 hm1 hcur _
  clear hg1 ht1 hm1 hmk
  go_loopw [12] (fun iv wr => ∃ (i : Nat) (ws : List Nat) (S : Bool → Nat → Nat → Bool) (blk : Role → Option Nat) (L : Role → List Ent) (c : Role → Nat) (cur : Array Value), i ≤ n ∧ iv = .int .i64 i ∧ L1 w n X i i (fun _ => 0) wr ws S blk L c cur) (fun iv _ => n - (intOf iv).toNat)
  case atStart => exact ⟨0, _, _, _, _, _, _, Nat.zero_le _, rfl, HL.out⟩
  case round =>
    obtain ⟨i, ws, S, blk, L, c, cur, hi, hiv, hL⟩ := hrel
    subst hiv
    clear HL
    by_cases hlt : i < n
    · obtain ⟨x1, rfl, hx⟩ := HD.out i hlt
      obtain ⟨wo, rfl⟩ : ∃ wo : World, wo = wr := ⟨_, rfl⟩
      obtain ⟨w5, hw5⟩ : ∃ x, x = (wo.setCell ⟨w.heap.size + 14, i, none⟩ (.pointer (some ⟨wo.heap.size, 0, none⟩))).alloc (.cells #[.slice none 0 0] 31) := ⟨_, rfl⟩
      have hrl : w.heap.size + 14 < wo.heap.size := (Array.getElem?_eq_some_iff.1 hL.row).1
      have hL5 := l1_new hL hlt (hw5.trans (World.setCell_alloc_past _ _ _ _ hrl).symm)
      have hrow1 : (wo.alloc (.cells #[.slice none 0 0] 31)).heap[w.heap.size + 14]? = some (.cells cur 28 (0, 0)) := (Below.heap_alloc _ _ _ hrl).trans hL.row
      obtain ⟨v0, hv0⟩ : ∃ v0, cur[i]? = some v0 := ⟨_, Array.getElem?_eq_getElem (by rw [hL.rsz]; exact hlt)⟩
      have hc1 : (wo.alloc (.cells #[.slice none 0 0] 31)).cell? ⟨w.heap.size + 14, i, none⟩ = some v0 := by simp [World.cell?, hrow1, hv0]
      have hf1 : (wo.alloc (.cells #[.slice none 0 0] 31)).frozen? ⟨w.heap.size + 14, i, none⟩ = false := by simp [World.frozen?, hrow1]
      have hx5 : w5.cell? (x1.add i) = some (.int .u8 (X false i)) := (hL5.below.cell (World.block_lt_of_cell? w _ hx)).trans hx
      have hcm := HCM.out i w5 (by omega) hL5.below
      have HL5 : Hid _ := hL5
      have HCM5 : Hid _ := hcm
      clear hL hL5 hrow1 hv0 hcm hx
      subst hw5
      go_wp2_with (go_at_call 10; refine Calls.mono HCM5.out ?_; rintro e w6 ⟨rfl, rfl⟩)
      obtain ⟨cur5, hcur5⟩ : ∃ x, x = cur.setIfInBounds i (.pointer (some ⟨wo.heap.size, 0, none⟩)) := ⟨_, rfl⟩
      rw [← hcur5] at HL5
      have hwsl : ws.length = i := by have := HL5.out.len; simp at this; omega
      clear hc1 hf1 hcur5 HCM5
      have hbf := HB8.out false i
      have hbt := HB8.out true i
      clear hx5
      go_loopw [16] (fun bv wr => ∃ (b : Nat) (S : Bool → Nat → Nat → Bool) (blk : Role → Option Nat) (L : Role → List Ent) (c : Role → Nat), b ≤ 5 ∧ bv = .int .i64 b ∧ L1 w n X i (i + 1) (fun _ => b) wr (ws ++ [wo.heap.size]) S blk L c cur5) (fun bv _ => 5 - (intOf bv).toNat)
      case atStart => exact ⟨0, _, _, _, _, by omega, rfl, HL5.out⟩
      case round =>
        obtain ⟨b, S2, blk2, L2, c2, hb, hbv, hL2⟩ := hrel
        subst hbv
        clear HL5
        have HL2 : Hid _ := hL2
        clear hL2
        by_cases hb5 : b < 5
        · by_cases hbitf : bit (X false i) b = true
          · have hbf' : (bits BinOp.and IntKind.u8 (X false i / 2 ^ b) 1 == 1) = true := hbitf
            go_wp2
            obtain ⟨x27, x28, x29, x30⟩ := tree_cells HL2.out.tree
            have hadd := add_any (l1_drew HL2.out).st false hb5 (i := wo.heap.size) (by simp [gk])
            unfold encW at hadd
            have HADD : Hid _ := hadd
            clear hadd
            obtain ⟨M1, hM1⟩ : ∃ M : World → Prop, Hid (∀ w', M w' ↔ ∃ (S' : Bool → Nat → Nat → Bool) (blk' : Role → Option Nat) (L' : Role → List Ent) (c' : Role → Nat), L1 w n X i (i + 1) (updB (fun _ => b) false (b + 1)) w' (ws ++ [wo.heap.size]) S' blk' L' c' cur5) := ⟨_, fun _ => Iff.rfl⟩
            refine wp_then (fun a0 a' w' => ∃ us : List Value, us.length = 9 ∧ a' = putAll a0 [77, 78, 79, 80, 81, 83, 84, 82, 85] us ∧ M1 w') ?_ ?_
            · intro a0 ha0
              have hsz : a0.tmps.size = 285 := by rw [ha0]; rfl
              have e7 : ∀ h : 7 < a0.tmps.size, a0.tmps[7]'h = .pointer (some ⟨w.heap.size + 13, 0, none⟩) := by rw [ha0]; intro h; rfl
              have e13 : ∀ h : 13 < a0.tmps.size, a0.tmps[13]'h = .pointer (some ⟨wo.heap.size, 0, none⟩) := by rw [ha0]; intro h; rfl
              have e16 : ∀ h : 16 < a0.tmps.size, a0.tmps[16]'h = .int .i64 b := by rw [ha0]; intro h; rfl
              clear ha0
              go_light
              refine wp_region_T 8 (fun w' => w'.cell? ⟨w.heap.size + 13, 27, none⟩ = some (.map (some (BN w.heap.size false false))) ∧ w'.cell? ⟨w.heap.size + 13, 28, none⟩ = some (.map (some (BN w.heap.size true false)))) (by kernel_rfl) ⟨x27, x28⟩ (fun hS => ?_)
              refine wpAnyT_takeY (i := 0) (v := ?_) (by simp only [List.getElem?_toArray, List.getElem?_cons_zero]; rfl) (by decide +kernel) (by decide +kernel) (by decide +kernel) (by decide) (fun _ _ _ h => h) (Or.inl ⟨by rfl, ?_⟩) hS ?_
              rotate_left
              · intro w _
                go_simp
                try with_reducible rfl
              refine wpAnyT_takeY (i := 1) (v := ?_) (by simp only [List.getElem?_toArray, List.getElem?_cons_succ, List.getElem?_cons_zero]; rfl) (by decide +kernel) (by decide +kernel) (by decide +kernel) (by decide) (fun _ _ _ h => h) (Or.inl ⟨by rfl, ?_⟩) hS ?_
              rotate_left
              · intro w _
                go_simp
                try with_reducible rfl
              refine wpAnyT_takeY (i := 2) (v := ?_) (by simp only [List.getElem?_toArray, List.getElem?_cons_succ, List.getElem?_cons_zero]; rfl) (by decide +kernel) (by decide +kernel) (by decide +kernel) (by decide) (fun _ _ _ h => h) (Or.inl ⟨by rfl, ?_⟩) hS ?_
              rotate_left
              · intro w _
                go_simp
                try with_reducible rfl
              refine wpAnyT_take (i := 3) (v := ?_) (by simp only [List.getElem?_toArray, List.getElem?_cons_succ, List.getElem?_cons_zero]; rfl) (by decide +kernel) (by decide +kernel) (by decide +kernel) (by decide +kernel) (by decide) (by decide +kernel) (fun _ _ _ h => h) (Or.inl ⟨by rfl, ?_⟩) hS ?_
              rotate_left
              · intro w hSw
                obtain ⟨s1, s2⟩ := hSw
                go_simp
                try with_reducible rfl
              refine wpAnyT_takeY (i := 4) (v := ?_) (by simp only [List.getElem?_toArray, List.getElem?_cons_succ, List.getElem?_cons_zero]; rfl) (by decide +kernel) (by decide +kernel) (by decide +kernel) (by decide) (fun _ _ _ h => h) (Or.inl ⟨by rfl, ?_⟩) hS ?_
              rotate_left
              · intro w _
                go_simp
                try with_reducible rfl
              refine wpAnyT_takeY (i := 6) (v := ?_) (by simp only [List.getElem?_toArray, List.getElem?_cons_succ, List.getElem?_cons_zero]; rfl) (by decide +kernel) (by decide +kernel) (by decide +kernel) (by decide) (fun _ _ _ h => h) (Or.inl ⟨by rfl, ?_⟩) hS ?_
              rotate_left
              · intro w _
                go_simp
                try with_reducible rfl
              refine wpAnyT_takeY (i := 7) (v := ?_) (by simp only [List.getElem?_toArray, List.getElem?_cons_succ, List.getElem?_cons_zero]; rfl) (by decide +kernel) (by decide +kernel) (by decide +kernel) (by decide) (fun _ _ _ h => h) (Or.inl ⟨by rfl, ?_⟩) hS ?_
              rotate_left
              · intro w _
                go_simp
                try with_reducible rfl
              refine wpAnyT_only (i := 5) (by decide +kernel) (by simp only [List.getElem?_toArray, List.getElem?_cons_succ, List.getElem?_cons_zero]; rfl) rfl ?_
              go_simp
              refine (path_any b hb5 _).mono ?_
              rintro e w' ⟨rfl, rfl⟩
              refine ⟨hS, ?_⟩
              refine wpAnyT_only (i := 8) (by decide +kernel) (by simp only [List.getElem?_toArray, List.getElem?_cons_succ, List.getElem?_cons_zero]; rfl) rfl ?_
              go_simp
              refine Calls.mono HADD.out ?_
              rintro e w' ⟨rfl, hfm, blk', L', c', hst'⟩
              have hM' := (hM1.out w').2 ⟨_, _, _, _, l1_add (l1_drew HL2.out) false hb5 (by rfl) hbitf (p := wo.heap.size) (by rw [List.getElem?_append_right (by rw [hwsl]; omega), hwsl]; simp) hfm hst'⟩
              refine wpAnyT_done (by decide +kernel) ?_ _
              exact ⟨[.pointer (some ⟨w.heap.size + 13, 0, none⟩), .pointer (some ⟨w.heap.size + 13, 0, none⟩), .pointer (some ⟨w.heap.size + 13, 27, none⟩), .agg #[.map (some (BN w.heap.size false false)), .map (some (BN w.heap.size true false))], .int .i64 b, .pointer (some ⟨wo.heap.size, 0, none⟩), .iface 28 (.pointer (some ⟨wo.heap.size, 0, none⟩)), .string (path b), .tuple #[]], rfl, by simp only [putAll, Act.put], hM'⟩
            · rintro a0 a' w8 ha0 ⟨us, hus, ha', hm⟩
              obtain ⟨u0', u1', u2', u3', u4', u5', u6', u7', u8', hus'⟩ := list9 hus
              rw [ha', ha0, hus']
              obtain ⟨S_f, blk_f, L_f, c_f, hL_f⟩ := (hM1.out w8).1 hm
              have HL_f : Hid _ := hL_f
              clear ha' ha0 hus hus' hm hM1 M1 hL_f HADD x27 x28 x29 x30
              simp only [putAll, Act.put, List.setIfInBounds_toArray, List.set_cons_succ, List.set_cons_zero]
              by_cases hbitt : bit (X true i) b = true
              · have hbt' : (bits BinOp.and IntKind.u8 (X true i / 2 ^ b) 1 == 1) = true := hbitt
                go_wp2
                obtain ⟨x27, x28, x29, x30⟩ := tree_cells HL_f.out.tree
                have hadd := add_any (l1_drew HL_f.out).st true hb5 (i := wo.heap.size) (by simp [gk])
                unfold encW at hadd
                have HADD : Hid _ := hadd
                clear hadd
                obtain ⟨M1, hM1⟩ : ∃ M : World → Prop, Hid (∀ w', M w' ↔ ∃ (S' : Bool → Nat → Nat → Bool) (blk' : Role → Option Nat) (L' : Role → List Ent) (c' : Role → Nat), L1 w n X i (i + 1) (updB (updB (fun _ => b) false (b + 1)) true (b + 1)) w' (ws ++ [wo.heap.size]) S' blk' L' c' cur5) := ⟨_, fun _ => Iff.rfl⟩
                refine wp_then (fun a0 a' w' => ∃ us : List Value, us.length = 9 ∧ a' = putAll a0 [92, 93, 94, 95, 96, 98, 99, 97, 100] us ∧ M1 w') ?_ ?_
                · intro a0 ha0
                  have hsz : a0.tmps.size = 285 := by rw [ha0]; rfl
                  have e7 : ∀ h : 7 < a0.tmps.size, a0.tmps[7]'h = .pointer (some ⟨w.heap.size + 13, 0, none⟩) := by rw [ha0]; intro h; rfl
                  have e13 : ∀ h : 13 < a0.tmps.size, a0.tmps[13]'h = .pointer (some ⟨wo.heap.size, 0, none⟩) := by rw [ha0]; intro h; rfl
                  have e16 : ∀ h : 16 < a0.tmps.size, a0.tmps[16]'h = .int .i64 b := by rw [ha0]; intro h; rfl
                  clear ha0
                  go_light
                  refine wp_region_T 8 (fun w' => w'.cell? ⟨w.heap.size + 13, 29, none⟩ = some (.map (some (BN w.heap.size false true))) ∧ w'.cell? ⟨w.heap.size + 13, 30, none⟩ = some (.map (some (BN w.heap.size true true)))) (by kernel_rfl) ⟨x29, x30⟩ (fun hS => ?_)
                  refine wpAnyT_takeY (i := 0) (v := ?_) (by simp only [List.getElem?_toArray, List.getElem?_cons_zero]; rfl) (by decide +kernel) (by decide +kernel) (by decide +kernel) (by decide) (fun _ _ _ h => h) (Or.inl ⟨by rfl, ?_⟩) hS ?_
                  rotate_left
                  · intro w _
                    go_simp
                    try with_reducible rfl
                  refine wpAnyT_takeY (i := 1) (v := ?_) (by simp only [List.getElem?_toArray, List.getElem?_cons_succ, List.getElem?_cons_zero]; rfl) (by decide +kernel) (by decide +kernel) (by decide +kernel) (by decide) (fun _ _ _ h => h) (Or.inl ⟨by rfl, ?_⟩) hS ?_
                  rotate_left
                  · intro w _
                    go_simp
                    try with_reducible rfl
                  refine wpAnyT_takeY (i := 2) (v := ?_) (by simp only [List.getElem?_toArray, List.getElem?_cons_succ, List.getElem?_cons_zero]; rfl) (by decide +kernel) (by decide +kernel) (by decide +kernel) (by decide) (fun _ _ _ h => h) (Or.inl ⟨by rfl, ?_⟩) hS ?_
                  rotate_left
                  · intro w _
                    go_simp
                    try with_reducible rfl
                  refine wpAnyT_take (i := 3) (v := ?_) (by simp only [List.getElem?_toArray, List.getElem?_cons_succ, List.getElem?_cons_zero]; rfl) (by decide +kernel) (by decide +kernel) (by decide +kernel) (by decide +kernel) (by decide) (by decide +kernel) (fun _ _ _ h => h) (Or.inl ⟨by rfl, ?_⟩) hS ?_
                  rotate_left
                  · intro w hSw
                    obtain ⟨s1, s2⟩ := hSw
                    go_simp
                    try with_reducible rfl
                  refine wpAnyT_takeY (i := 4) (v := ?_) (by simp only [List.getElem?_toArray, List.getElem?_cons_succ, List.getElem?_cons_zero]; rfl) (by decide +kernel) (by decide +kernel) (by decide +kernel) (by decide) (fun _ _ _ h => h) (Or.inl ⟨by rfl, ?_⟩) hS ?_
                  rotate_left
                  · intro w _
                    go_simp
                    try with_reducible rfl
                  refine wpAnyT_takeY (i := 6) (v := ?_) (by simp only [List.getElem?_toArray, List.getElem?_cons_succ, List.getElem?_cons_zero]; rfl) (by decide +kernel) (by decide +kernel) (by decide +kernel) (by decide) (fun _ _ _ h => h) (Or.inl ⟨by rfl, ?_⟩) hS ?_
                  rotate_left
                  · intro w _
                    go_simp
                    try with_reducible rfl
                  refine wpAnyT_takeY (i := 7) (v := ?_) (by simp only [List.getElem?_toArray, List.getElem?_cons_succ, List.getElem?_cons_zero]; rfl) (by decide +kernel) (by decide +kernel) (by decide +kernel) (by decide) (fun _ _ _ h => h) (Or.inl ⟨by rfl, ?_⟩) hS ?_
                  rotate_left
                  · intro w _
                    go_simp
                    try with_reducible rfl
                  refine wpAnyT_only (i := 5) (by decide +kernel) (by simp only [List.getElem?_toArray, List.getElem?_cons_succ, List.getElem?_cons_zero]; rfl) rfl ?_
                  go_simp
                  refine (path_any b hb5 _).mono ?_
                  rintro e w' ⟨rfl, rfl⟩
                  refine ⟨hS, ?_⟩
                  refine wpAnyT_only (i := 8) (by decide +kernel) (by simp only [List.getElem?_toArray, List.getElem?_cons_succ, List.getElem?_cons_zero]; rfl) rfl ?_
                  go_simp
                  refine Calls.mono HADD.out ?_
                  rintro e w' ⟨rfl, hfm, blk', L', c', hst'⟩
                  have hM' := (hM1.out w').2 ⟨_, _, _, _, l1_add (l1_drew HL_f.out) true hb5 (by simp [updB]) hbitt (p := wo.heap.size) (by rw [List.getElem?_append_right (by rw [hwsl]; omega), hwsl]; simp) hfm hst'⟩
                  refine wpAnyT_done (by decide +kernel) ?_ _
                  exact ⟨[.pointer (some ⟨w.heap.size + 13, 0, none⟩), .pointer (some ⟨w.heap.size + 13, 0, none⟩), .pointer (some ⟨w.heap.size + 13, 29, none⟩), .agg #[.map (some (BN w.heap.size false true)), .map (some (BN w.heap.size true true))], .int .i64 b, .pointer (some ⟨wo.heap.size, 0, none⟩), .iface 28 (.pointer (some ⟨wo.heap.size, 0, none⟩)), .string (path b), .tuple #[]], rfl, by simp only [putAll, Act.put], hM'⟩
                · rintro a0 a' w9 ha0 ⟨us, hus, ha', hm⟩
                  obtain ⟨v0', v1', v2', v3', v4', v5', v6', v7', v8', hus'⟩ := list9 hus
                  rw [ha', ha0, hus']
                  obtain ⟨S_t, blk_t, L_t, c_t, hL_t⟩ := (hM1.out w9).1 hm
                  have HL_t : Hid _ := hL_t
                  clear ha' ha0 hus hus' hm hM1 M1 hL_t HADD x27 x28 x29 x30
                  simp only [putAll, Act.put, List.setIfInBounds_toArray, List.set_cons_succ, List.set_cons_zero]
                  go_wp2
                  go_roundw
                  case rel =>
                    have hfin := HL_t.out
                    rw [updB_both] at hfin
                    exact ⟨b + 1, _, _, _, _, by omega, by go_num, hfin⟩
                  case measure => simp [intOf]; omega
              · have hbt' : (bits BinOp.and IntKind.u8 (X true i / 2 ^ b) 1 == 1) = false := by simpa [bit] using hbitt
                have HL_t : Hid _ := l1_skip HL_f.out true (b := b) (by simp [updB]) (by simpa using hbitt)
                clear HL_f
                go_wp2
                go_roundw
                case rel =>
                  have hfin := HL_t.out
                  rw [updB_both] at hfin
                  exact ⟨b + 1, _, _, _, _, by omega, by go_num, hfin⟩
                case measure => simp [intOf]; omega
          · have hbf' : (bits BinOp.and IntKind.u8 (X false i / 2 ^ b) 1 == 1) = false := by simpa [bit] using hbitf
            have HL_f : Hid _ := l1_skip HL2.out false (b := b) rfl (by simpa using hbitf)
            clear HL2
            by_cases hbitt : bit (X true i) b = true
            · have hbt' : (bits BinOp.and IntKind.u8 (X true i / 2 ^ b) 1 == 1) = true := hbitt
              go_wp2
              obtain ⟨x27, x28, x29, x30⟩ := tree_cells HL_f.out.tree
              have hadd := add_any (l1_drew HL_f.out).st true hb5 (i := wo.heap.size) (by simp [gk])
              unfold encW at hadd
              have HADD : Hid _ := hadd
              clear hadd
              obtain ⟨M1, hM1⟩ : ∃ M : World → Prop, Hid (∀ w', M w' ↔ ∃ (S' : Bool → Nat → Nat → Bool) (blk' : Role → Option Nat) (L' : Role → List Ent) (c' : Role → Nat), L1 w n X i (i + 1) (updB (updB (fun _ => b) false (b + 1)) true (b + 1)) w' (ws ++ [wo.heap.size]) S' blk' L' c' cur5) := ⟨_, fun _ => Iff.rfl⟩
              refine wp_then (fun a0 a' w' => ∃ us : List Value, us.length = 9 ∧ a' = putAll a0 [92, 93, 94, 95, 96, 98, 99, 97, 100] us ∧ M1 w') ?_ ?_
              · intro a0 ha0
                have hsz : a0.tmps.size = 285 := by rw [ha0]; rfl
                have e7 : ∀ h : 7 < a0.tmps.size, a0.tmps[7]'h = .pointer (some ⟨w.heap.size + 13, 0, none⟩) := by rw [ha0]; intro h; rfl
                have e13 : ∀ h : 13 < a0.tmps.size, a0.tmps[13]'h = .pointer (some ⟨wo.heap.size, 0, none⟩) := by rw [ha0]; intro h; rfl
                have e16 : ∀ h : 16 < a0.tmps.size, a0.tmps[16]'h = .int .i64 b := by rw [ha0]; intro h; rfl
                clear ha0
                go_light
                refine wp_region_T 8 (fun w' => w'.cell? ⟨w.heap.size + 13, 29, none⟩ = some (.map (some (BN w.heap.size false true))) ∧ w'.cell? ⟨w.heap.size + 13, 30, none⟩ = some (.map (some (BN w.heap.size true true)))) (by kernel_rfl) ⟨x29, x30⟩ (fun hS => ?_)
                refine wpAnyT_takeY (i := 0) (v := ?_) (by simp only [List.getElem?_toArray, List.getElem?_cons_zero]; rfl) (by decide +kernel) (by decide +kernel) (by decide +kernel) (by decide) (fun _ _ _ h => h) (Or.inl ⟨by rfl, ?_⟩) hS ?_
                rotate_left
                · intro w _
                  go_simp
                  try with_reducible rfl
                refine wpAnyT_takeY (i := 1) (v := ?_) (by simp only [List.getElem?_toArray, List.getElem?_cons_succ, List.getElem?_cons_zero]; rfl) (by decide +kernel) (by decide +kernel) (by decide +kernel) (by decide) (fun _ _ _ h => h) (Or.inl ⟨by rfl, ?_⟩) hS ?_
                rotate_left
                · intro w _
                  go_simp
                  try with_reducible rfl
                refine wpAnyT_takeY (i := 2) (v := ?_) (by simp only [List.getElem?_toArray, List.getElem?_cons_succ, List.getElem?_cons_zero]; rfl) (by decide +kernel) (by decide +kernel) (by decide +kernel) (by decide) (fun _ _ _ h => h) (Or.inl ⟨by rfl, ?_⟩) hS ?_
                rotate_left
                · intro w _
                  go_simp
                  try with_reducible rfl
                refine wpAnyT_take (i := 3) (v := ?_) (by simp only [List.getElem?_toArray, List.getElem?_cons_succ, List.getElem?_cons_zero]; rfl) (by decide +kernel) (by decide +kernel) (by decide +kernel) (by decide +kernel) (by decide) (by decide +kernel) (fun _ _ _ h => h) (Or.inl ⟨by rfl, ?_⟩) hS ?_
                rotate_left
                · intro w hSw
                  obtain ⟨s1, s2⟩ := hSw
                  go_simp
                  try with_reducible rfl
                refine wpAnyT_takeY (i := 4) (v := ?_) (by simp only [List.getElem?_toArray, List.getElem?_cons_succ, List.getElem?_cons_zero]; rfl) (by decide +kernel) (by decide +kernel) (by decide +kernel) (by decide) (fun _ _ _ h => h) (Or.inl ⟨by rfl, ?_⟩) hS ?_
                rotate_left
                · intro w _
                  go_simp
                  try with_reducible rfl
                refine wpAnyT_takeY (i := 6) (v := ?_) (by simp only [List.getElem?_toArray, List.getElem?_cons_succ, List.getElem?_cons_zero]; rfl) (by decide +kernel) (by decide +kernel) (by decide +kernel) (by decide) (fun _ _ _ h => h) (Or.inl ⟨by rfl, ?_⟩) hS ?_
                rotate_left
                · intro w _
                  go_simp
                  try with_reducible rfl
                refine wpAnyT_takeY (i := 7) (v := ?_) (by simp only [List.getElem?_toArray, List.getElem?_cons_succ, List.getElem?_cons_zero]; rfl) (by decide +kernel) (by decide +kernel) (by decide +kernel) (by decide) (fun _ _ _ h => h) (Or.inl ⟨by rfl, ?_⟩) hS ?_
                rotate_left
                · intro w _
                  go_simp
                  try with_reducible rfl
                refine wpAnyT_only (i := 5) (by decide +kernel) (by simp only [List.getElem?_toArray, List.getElem?_cons_succ, List.getElem?_cons_zero]; rfl) rfl ?_
                go_simp
                refine (path_any b hb5 _).mono ?_
                rintro e w' ⟨rfl, rfl⟩
                refine ⟨hS, ?_⟩
                refine wpAnyT_only (i := 8) (by decide +kernel) (by simp only [List.getElem?_toArray, List.getElem?_cons_succ, List.getElem?_cons_zero]; rfl) rfl ?_
                go_simp
                refine Calls.mono HADD.out ?_
                rintro e w' ⟨rfl, hfm, blk', L', c', hst'⟩
                have hM' := (hM1.out w').2 ⟨_, _, _, _, l1_add (l1_drew HL_f.out) true hb5 (by simp [updB]) hbitt (p := wo.heap.size) (by rw [List.getElem?_append_right (by rw [hwsl]; omega), hwsl]; simp) hfm hst'⟩
                refine wpAnyT_done (by decide +kernel) ?_ _
                exact ⟨[.pointer (some ⟨w.heap.size + 13, 0, none⟩), .pointer (some ⟨w.heap.size + 13, 0, none⟩), .pointer (some ⟨w.heap.size + 13, 29, none⟩), .agg #[.map (some (BN w.heap.size false true)), .map (some (BN w.heap.size true true))], .int .i64 b, .pointer (some ⟨wo.heap.size, 0, none⟩), .iface 28 (.pointer (some ⟨wo.heap.size, 0, none⟩)), .string (path b), .tuple #[]], rfl, by simp only [putAll, Act.put], hM'⟩
              · rintro a0 a' w9 ha0 ⟨us, hus, ha', hm⟩
                obtain ⟨v0', v1', v2', v3', v4', v5', v6', v7', v8', hus'⟩ := list9 hus
                rw [ha', ha0, hus']
                obtain ⟨S_t, blk_t, L_t, c_t, hL_t⟩ := (hM1.out w9).1 hm
                have HL_t : Hid _ := hL_t
                clear ha' ha0 hus hus' hm hM1 M1 hL_t HADD x27 x28 x29 x30
                simp only [putAll, Act.put, List.setIfInBounds_toArray, List.set_cons_succ, List.set_cons_zero]
                go_wp2
                go_roundw
                case rel =>
                  have hfin := HL_t.out
                  rw [updB_both] at hfin
                  exact ⟨b + 1, _, _, _, _, by omega, by go_num, hfin⟩
                case measure => simp [intOf]; omega
            · have hbt' : (bits BinOp.and IntKind.u8 (X true i / 2 ^ b) 1 == 1) = false := by simpa [bit] using hbitt
              have HL_t : Hid _ := l1_skip HL_f.out true (b := b) (by simp [updB]) (by simpa using hbitt)
              clear HL_f
              go_wp2
              go_roundw
              case rel =>
                have hfin := HL_t.out
                rw [updB_both] at hfin
                exact ⟨b + 1, _, _, _, _, by omega, by go_num, hfin⟩
              case measure => simp [intOf]; omega
        · obtain rfl : b = 5 := by omega
          have HLd : Hid _ := l1_done HL2.out (fun _ => rfl) (fun _ => 0)
          clear HL2
          go_wp2
          go_roundw
          case rel => exact ⟨i + 1, _, _, _, _, _, _, by omega, by go_num, HLd.out⟩
          case measure => simp [intOf]; omega
    · obtain rfl : i = n := by omega
      have hdel := deleted_any hL.st hL.logs hL.tree (by omega) hk
      obtain ⟨M1, hM1⟩ : ∃ M : World → Prop, Hid (∀ w', M w' ↔ ∃ (blk' : Role → Option Nat) (L' : Role → List Ent) (c' : Role → Nat) (V : Nat → Value), L3 w i X k w' ws S blk' L' c' V cur) := ⟨_, fun _ => Iff.rfl⟩
      have HDEL : Hid (Calls Yba.prog 12 #[.pointer (some ⟨w.heap.size + 13, 0, none⟩), .string (path k)] wr fun e w' => e = .returned (.tuple #[]) ∧ M1 w') := by
        refine hdel.mono ?_
        rintro e w' ⟨rfl, hfr, ht, blk', L', c', V, hst, hlog⟩
        exact ⟨rfl, (hM1.out w').2 ⟨blk', L', c', V, l3_of hL hfr ht hst hlog⟩⟩
      clear hdel hL
      go_upto_block 4 with (go_at_call 12; refine Calls.mono HDEL.out ?_; rintro e wd ⟨rfl, hmd⟩)
      obtain ⟨blk3, L3', c3, V, hL3⟩ := (hM1.out wd).1 hmd
      have HL3 : Hid _ := hL3
      clear hmd hM1 HDEL hL3 M1
      refine second _ i _ _ _ _ X k hk w hn HD HB8 HCM ws S blk3 L3' c3 V cur wd HL3 _ _ ?_ _ _ _ _ _ _ _ _ _ _ _ _ _ _ _ _ _ _ _ _ _ _ _ _ _ _ _ _ _ _ _ _ _ _ _ _ _ _ _ _ _ _ _ _ _ _ _ _ _ _ _ _ _ _ _ _ _ _ _ _ _ _ _ _ _ _ _ _ _ _ _ _ _ _ _ _ _ _ _ _ _ _ _ _ _ _ _ _ _ _ _ _ _ _ _ _ _ _ _ _ _ _ _ _ _ _ _ _ _ _ _ _ _ _ _ _ _ _ _ _ _ _ _ _ _ _ _ _ _ _ _ _ _ _ _ _ _ _ _ _ _ _ _ _ _ _ _ _ _ _ _ _ _ _ _ _ _ _ _ _ _ _ _ _ _ _ _ _ _ _ _ _ _ _ _ _ _ _ _ _ _ _ _ _ _ _ _ _ _ _ _ _ _ _ _ _ _ _ _ _ _ _ _ _ _ _ _ _ _ _ _ _ _ _ _ _ _ _ _ _ _ _ _ _ _ _ _ _ _ _ _ _ _ _ _ _ _ _ _ _ _ _ _ _ _ _ _ _ _ _ _ _ _ _ _ _ _ _ _ _ _ _ _ _ _ _ _ _ _ _ _ _ _ _ _ _ _
      intro us w'' hus hbel
      have HBE : Hid _ := hbel
      clear hbel HL3 HD HB8 HCM
      go_wp2
      refine bodyPost_ret (v := .bool true) ?_ rfl ⟨rfl, HBE.out⟩
      rw [results_tmp rfl]
      simp [hus]
end Go.Proofs.Ybulkfbw.lawS0295AFires
