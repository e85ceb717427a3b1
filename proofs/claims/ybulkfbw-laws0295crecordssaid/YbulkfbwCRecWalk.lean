/-
  LawS0295CRecords: the law's walk: over ids that are not nil, over nil. By an AI agent.
-/
import Derived.Test.YbulkfbwCRecBack
import Derived.ChangeOld
namespace Go.Proofs.Ybulkfbw.lawS0295CRecords
open Go.ChangeShapes Go.WideShapes Go.ChangeAt Go.RowKit
open Go.Maps (Keyed int_keyed)
set_option linter.unusedVariables false

theorem zero93 (w : World) : (zeroValue 93).run Yba.prog w = .ok (.int .i64 0) w := by kernel_rfl
theorem owns_drewN {w : World} {P : Program} {k : TypeId} {R : Value → Option (DataW Unit × List MemPlace)} {B n : Nat} {D : DataW Unit} (h : w.ownsMap P k R B n D) (q : Nat) : (w.drewN q).ownsMap P k R B n D := h
theorem lit_inj {a : DataW Unit} {x y : Int} (h1 : a = .lit (.int .i64 x)) (h2 : a = .lit (.int .i64 y)) : x = y := by rw [h1] at h2; simpa using h2
theorem apart_at {rs : List (Int × Int)} (h : rs.Pairwise (fun p q => p.1 ≠ q.1)) {t j : Nat} {p q : Int × Int} (hp : rs[t]? = some p) (hq : rs[j]? = some q) (htj : t < j) : p.1 ≠ q.1 := by
  obtain ⟨h1, rfl⟩ := List.getElem?_eq_some_iff.1 hp
  obtain ⟨h2, rfl⟩ := List.getElem?_eq_some_iff.1 hq
  exact List.pairwise_iff_getElem.1 h t j h1 h2 htj
theorem below_drewN {B : Nat} {a w : World} (h : Below B a w) (n : Nat) : Below B a (w.drewN n) := ⟨h.os, h.tape, h.output, h.size, h.block⟩

set_option maxHeartbeats 1000000 in
set_option maxRecDepth 100000 in
theorem walk_map (bi oi ci n : Nat) (x : Addr) (ay : Option Addr) (ly cy : Nat) (w : World) (hn : n ≤ 1024) (hly : ly ≤ maxLen) (hsi : 0 < n → x = ⟨bi, oi, none⟩)
    (hid : ∀ k, k < n → ∃ z, (Lit.int .i64 z).wf = true ∧ w.cell? ⟨bi, oi + k, none⟩ = some (.int .i64 z))
    (hag : 0 < ly → ∃ ba oa, ay = some ⟨ba, oa, none⟩ ∧ ∀ k, k < ly → ∃ z, (Lit.int .i64 z).wf = true ∧ w.cell? ⟨ba, oa + k, none⟩ = some (.int .i64 z)) :
    Calls Yba.prog 6 #[.slice (some x) n ci, .slice ay ly cy] w fun e w' => e = .returned (.bool true) ∧ Below w.heap.size w w' := by
  unfold maxLen at hly
  have q91 : ∀ (w : World) (a : Option Addr) (n c n' c' : Nat), (binOp .neq 91 (.slice a n c) (.slice none n' c')).run Yba.prog w = .ok (.bool (!a.isNone)) w := fun w a n c n' c' => run_neq_slice_nil_any w _ _ a n c n' c' Yba.underlying91
  have hmm := @run_makeMap Yba.prog
  have h9 : decide (1024 < (n : Int)) = false := by simp; omega
  have HID : Hid (∀ k, k < n → ∃ z, (Lit.int .i64 z).wf = true ∧ w.cell? ⟨bi, oi + k, none⟩ = some (.int .i64 z)) := hid
  have HAG : Hid (0 < ly → ∃ ba oa, ay = some ⟨ba, oa, none⟩ ∧ ∀ k, k < ly → ∃ z, (Lit.int .i64 z).wf = true ∧ w.cell? ⟨ba, oa + k, none⟩ = some (.int .i64 z)) := hag
  have HSI : Hid (0 < n → x = ⟨bi, oi, none⟩) := hsi
  clear hid hag hsi
  go_enter Yba.func6, Yba.ntmps6
  go_wp2_with fail
  go_loopw [6] (fun i wr => ∃ (k : Nat) (D : DataW Unit), k ≤ n ∧ i = .int .i64 k ∧ wr.ownsMap Yba.prog 2 (plainElem Yba.prog 93) w.heap.size k D ∧ Below w.heap.size w wr) (fun i _ => n - (intOf i).toNat)
  case atStart => exact ⟨0, .map [], Nat.zero_le _, rfl, World.ownsMap_made _ _ _ _, (Below.refl _ _).alloc (Nat.le_refl _) _⟩
  case round =>
    obtain ⟨k, D, hk, rfl, hown, hbel⟩ := hrel
    have HO : Hid (wr.ownsMap Yba.prog 2 (plainElem Yba.prog 93) w.heap.size k D) := hown
    have HB : Hid (Below w.heap.size w wr) := hbel
    clear hown hbel hmm q91
    by_cases hlt : k < n
    · obtain rfl := HSI.out (by omega)
      obtain ⟨z, hz, hcz⟩ := HID.out k hlt
      have r1 : wr.cell? ⟨bi, oi + k, none⟩ = some (.int .i64 z) := (HB.out.cell (World.block_lt_of_cell? w _ hcz)).trans hcz
      clear hcz
      by_cases hl0 : 0 < ly
      · obtain ⟨ba, oa, rfl, hca⟩ := HAG.out hl0
        obtain ⟨y, hy, hcy⟩ := hca (k % ly) (Nat.mod_lt _ hl0)
        have r2 : wr.cell? ⟨ba, oa + k % ly, none⟩ = some (.int .i64 y) := (HB.out.cell (World.block_lt_of_cell? w _ hcy)).trans hcy
        clear hca hcy
        have i1 : ((k : Int) % (ly : Int)) < (ly : Int) := Int.emod_lt_of_pos _ (by omega)
        have i0 : 0 ≤ ((k : Int) % (ly : Int)) := Int.emod_nonneg _ (by omega)
        go_wp2_with (first
          | (at_mapUpdate; go_must (refine wpList_mapUpdate_own _ rfl _ _ _ 92 rfl 2 93 law Yba.underlying92 _ w.heap.size k _ rfl HO.out (by unfold maxLen; omega) _ _ _ rfl rfl (Maps.keyOf_int_mk Yba.underlying2 hz) _ [] (plainElem_int Yba.underlying93 hy) ?_)))
        intro w1 hown1 hgrow1
        go_wp2
        go_roundw
        case rel => exact ⟨k + 1, _, by omega, by go_num, hown1, HB.out.grown hgrow1 HB.out.size (fun j hj => by cases hj; exact Nat.le_refl _)⟩
        case measure => simp [intOf]; omega
      · obtain rfl : ly = 0 := by omega
        clear hl0 hly
        go_wp2_with (first
          | (at_mapUpdate; go_must (refine wpList_mapUpdate_own _ rfl _ _ _ 92 rfl 2 93 law Yba.underlying92 _ w.heap.size k _ rfl HO.out (by unfold maxLen; omega) _ _ _ rfl rfl (Maps.keyOf_int_mk Yba.underlying2 hz) _ [] (plainElem_int Yba.underlying93 (by decide)) ?_)))
        intro w1 hown1 hgrow1
        go_wp2
        go_roundw
        case rel => exact ⟨k + 1, _, by omega, by go_num, hown1, HB.out.grown hgrow1 HB.out.size (fun j hj => by cases hj; exact Nat.le_refl _)⟩
        case measure => simp [intOf]; omega
    · have hsz := size_le HO.out
      have hM : (wr.alloc (.cells #[.slice none 0 0] 96)).ownsMap Yba.prog 2 (plainElem Yba.prog 93) w.heap.size k D := HO.out.alloc _
      have hBl := HO.out.lt
      have HE : Hid (Calls Yba.prog 15 #[msg (.map (some w.heap.size)), .pointer (some ⟨wr.heap.size, 0, none⟩)] (wr.alloc (.cells #[.slice none 0 0] 96)) fun e w' => e = .returned (.tuple #[]) ∧
          ∃ v' rs, rs.length = Maps.size D ∧ Recs D (fun _ => false) rs ∧ w'.cell? ⟨wr.heap.size, 0, none⟩ = some v' ∧ w'.ownsRow (wr.heap.size + 2) 5 1 v' (4 + 12 * rs.length) (b4 (Maps.size D) ++ rs.flatMap rcv) ∧ (wr.alloc (.cells #[.slice none 0 0] 96)).grownBy w' (some wr.heap.size)) := by
        have := encode_map w.heap.size wr.heap.size k D (wr.alloc (.cells #[.slice none 0 0] 96)) hM (by omega) (by simp) (by simp)
        unfold Hid
        simpa only [World.size_alloc] using this
      clear hM
      go_wp2_with fail
      refine HE.out.mono ?_
      rintro e w1 ⟨rfl, v1, rs, hlen, hR, hk1, hrow, hg⟩
      obtain ⟨g, cap, hv, hg1, hg2, hcap⟩ := own_form hrow (by omega)
      subst hv
      have hB1 : Below w.heap.size w w1 := (HB.out.alloc HB.out.size _).grown hg (by simp; omega) (by intro j hj; simp at hj; omega)
      have hM1 : w1.ownsMap Yba.prog 2 (plainElem Yba.prog 93) w.heap.size k D := (HO.out.alloc _).kept hg (by simp; omega)
      have HB1 : Hid (Below w.heap.size w w1) := hB1
      have HM1 : Hid (w1.ownsMap Yba.prog 2 (plainElem Yba.prog 93) w.heap.size k D) := hM1
      have HRW : Hid (w1.ownsRow (wr.heap.size + 2) 5 1 (.slice (some ⟨g, 0, none⟩) (4 + 12 * rs.length) cap) (4 + 12 * rs.length) (b4 (Maps.size D) ++ rs.flatMap rcv)) := hrow
      have HRS : Hid (Recs D (fun _ => false) rs) := hR
      have HLN : Hid (rs.length = Maps.size D) := hlen
      have hml : rs.length ≤ 1024 := by omega
      rw [← hlen] at hsz
      clear hB1 hM1 hrow hR hg HE hlen HB HO HID HAG HSI
      go_wp2_with (first
        | (go_at_call 16; go_in)
        | (at_len; refine wpList_len_own _ rfl _ 92 rfl 2 93 Yba.underlying92 _ w.heap.size k D rfl HM1.out ?_; rw [← HLN.out]))
      have hrw : w1.ownsRow (wr.heap.size + 2) 5 1 (.slice (some ⟨g, 0, none⟩) (4 + 12 * rs.length) cap) (4 + 12 * rs.length) (b4 (rs.length : Int) ++ rs.flatMap rcv) := by
        have := HRW.out
        rw [← HLN.out] at this
        exact this
      have HH : Hid (Calls Yba.prog 17 #[.slice (some ⟨g, 0, none⟩) 4 cap] w1 fun e w' => e = .returned (.int .u32 (rs.length : Int)) ∧ ∃ q', w' = w1.drewN q') := head_calls hrw hml 0 cap
      have HI : Hid (∀ (j : Nat) (p : Int × Int), rs[j]? = some p → ∀ q c' : Nat, 8 ≤ c' → Calls Yba.prog 18 #[.slice (some ⟨g, 4 + 12 * j, none⟩) 8 c'] (w1.drewN q) fun e w' => e = .returned (.int .u64 (uq p.1)) ∧ ∃ q', w' = w1.drewN q') := fun j p hp q c' => id_calls hrw j p hp q c'
      have HS : Hid (∀ (j : Nat) (p : Int × Int), rs[j]? = some p → ∀ q c' : Nat, Calls Yba.prog 17 #[.slice (some ⟨g, 4 + 12 * j + 8, none⟩) 4 c'] (w1.drewN q) fun e w' => e = .returned (.int .u32 (um p.2)) ∧ ∃ q', w' = w1.drewN q') := fun j p hp q c' => ms_calls hrw j p hp q c'
      clear hrw HRW HLN hk1
      refine HH.out.mono ?_
      rintro e w2 ⟨rfl, q, hw2⟩
      subst hw2
      clear HH
      go_wp2_with fail
      go_loopw [11] (fun i wr2 => ∃ j q : Nat, j ≤ rs.length ∧ i = .int .i64 j ∧ wr2 = w1.drewN q) (fun i _ => rs.length - (intOf i).toNat)
      case atStart => exact ⟨0, q, Nat.zero_le _, rfl, rfl⟩
      case round =>
        obtain ⟨j, q2, hj, rfl, rfl⟩ := hrel
        by_cases hjl : j < rs.length
        · obtain ⟨p, hp⟩ : ∃ p, rs[j]? = some p := ⟨rs[j], by simp [hjl]⟩
          have HP : Hid (rs[j]? = some p) := hp
          have hpm := HRS.out.mem p (List.mem_of_getElem? hp)
          obtain ⟨px, pc⟩ := p
          obtain ⟨hw1, hw2, hhas, _, hatk⟩ := hpm
          have b1 := bounds_i64 hw1
          have hx : wrap64 (uq px) = px := by unfold wrap64 uq; omega
          have hm : wrap32 (um pc) = wrap32 (pc.tdiv 1000000) := by unfold um wrap32; omega
          have HAT : Hid (∀ zd, D.atKey (.int .i64 px) zd = .lit (.int .i64 pc)) := hatk
          have HHS : Hid (Maps.has D (.int .i64 px) = true) := hhas
          have HW1 : Hid ((Lit.int .i64 px).wf = true) := hw1
          have b3 := bounds_i64 hw2
          clear hp hatk hhas hw1 hw2 b1
          go_wp2_with fail
          refine (HI.out j (px, pc) HP.out q2 _ (by omega)).mono ?_
          rintro e w3 ⟨rfl, q3, hw3⟩
          subst hw3
          go_wp2_with fail
          refine (HS.out j (px, pc) HP.out q3 _).mono ?_
          rintro e w3 ⟨rfl, q4, hw4⟩
          subst hw4
          go_wp2_with (first
            | (at_lookup; go_must (refine wpList_lookup_own_ok_int _ rfl _ _ 92 rfl 2 93 .i64 law Yba.underlying92 Yba.underlying93 (zero93 _) w.heap.size k D rfl (owns_drewN HM1.out q4) _ _ rfl (Maps.keyOf_int_mk Yba.underlying2 HW1.out) ?_); intro c hat hwc; obtain rfl : c = pc := lit_inj hat (HAT.out _); rw [HHS.out]; clear hat hwc))
          go_loopw [17] (fun i wr3 => ∃ t q : Nat, t ≤ j ∧ i = .int .i64 t ∧ wr3 = w1.drewN q) (fun i _ => j - (intOf i).toNat)
          case atStart => exact ⟨0, _, Nat.zero_le _, rfl, rfl⟩
          case round =>
            obtain ⟨t, q5, ht, rfl, rfl⟩ := hrel
            by_cases htj : t < j
            · obtain ⟨p2, hp2⟩ : ∃ p, rs[t]? = some p := ⟨rs[t], by simp [show t < rs.length by omega]⟩
              have HP2 : Hid (rs[t]? = some p2) := hp2
              obtain ⟨px2, pc2⟩ := p2
              have hm2 := HRS.out.mem _ (List.mem_of_getElem? hp2)
              have b2 := bounds_i64 hm2.1
              have hx2 : wrap64 (uq px2) = px2 := by unfold wrap64 uq; omega
              have hne : px2 ≠ px := apart_at HRS.out.apart hp2 HP.out htj
              have hne' : (px2 == px) = false := by simpa using hne
              clear hp2 hm2 b2 hne hx hm
              go_wp2_with fail
              refine (HI.out t (px2, pc2) HP2.out q5 _ (by omega)).mono ?_
              rintro e w6 ⟨rfl, q6, hw6⟩
              subst hw6
              go_wp2
              go_roundw
              case rel => exact ⟨t + 1, q6, by omega, by go_num, rfl⟩
              case measure => simp [intOf]; omega
            · go_wp2

              go_roundw
              case rel => exact ⟨j + 1, q5, by omega, by go_num, rfl⟩
              case measure => simp [intOf]; omega
        · go_wp2
          go_ret
          exact ⟨rfl, below_drewN HB1.out _⟩

set_option maxRecDepth 100000 in
theorem walk_nil (ay : Option Addr) (ly cy : Nat) (w : World) :
    Calls Yba.prog 6 #[.slice none 0 0, .slice ay ly cy] w fun e w' => e = .returned (.bool true) ∧ Below w.heap.size w w' := by
  have q91 : ∀ (w : World) (a : Option Addr) (n c n' c' : Nat), (binOp .neq 91 (.slice a n c) (.slice none n' c')).run Yba.prog w = .ok (.bool (!a.isNone)) w := fun w a n c n' c' => run_neq_slice_nil_any w _ _ a n c n' c' Yba.underlying91
  have HE : Hid (Calls Yba.prog 15 #[msg (.map none), .pointer (some ⟨w.heap.size, 0, none⟩)] (w.alloc (.cells #[.slice none 0 0] 96)) fun e w' => e = .returned (.tuple #[]) ∧
      ∃ v', w'.cell? ⟨w.heap.size, 0, none⟩ = some v' ∧ w'.ownsRow (w.heap.size + 2) 5 1 v' 4 (b4 0) ∧ (w.alloc (.cells #[.slice none 0 0] 96)).grownBy w' (some w.heap.size)) := by
    have := encode_nil w.heap.size (w.alloc (.cells #[.slice none 0 0] 96)) (by simp) (by simp)
    unfold Hid
    simpa only [World.size_alloc] using this
  go_enter Yba.func6, Yba.ntmps6
  go_wp2_with fail
  go_loopw [6] (fun i wr => i = .int .i64 0 ∧ wr = w) (fun _ _ => 0)
  case atStart => exact ⟨rfl, rfl⟩
  case round =>
    obtain ⟨rfl, rfl⟩ := hrel
    go_wp2_with fail
    refine HE.out.mono ?_
    rintro e w1 ⟨rfl, v1, hk1, hrow, hg⟩
    obtain ⟨g, cap, hv, hg1, hg2, hcap⟩ := own_form hrow (by omega)
    subst hv
    have HB1 : Hid (Below wr.heap.size wr w1) := ((Below.refl _ _).alloc (Nat.le_refl _) _).grown hg (by simp) (by intro j hj; simp at hj; omega)
    have HH : Hid (Calls Yba.prog 17 #[.slice (some ⟨g, 0, none⟩) 4 cap] w1 fun e w' => e = .returned (.int .u32 0) ∧ ∃ q', w' = w1.drewN q') := by
      have := head_calls (rs := []) (cap := cap) (by simpa using hrow) (by simp) 0 cap
      exact this
    clear hrow hg HE q91
    go_wp2_with (go_at_call 16; go_in)
    refine HH.out.mono ?_
    rintro e w2 ⟨rfl, q, hw2⟩
    subst hw2
    clear HH
    go_wp2_with fail
    refine wp_loop_rounds 1 ?_
    rw [rounds_succ]
    go_wp2
    go_ret
    exact ⟨rfl, below_drewN HB1.out _⟩
end Go.Proofs.Ybulkfbw.lawS0295CRecords
