/-
  LawS0295AFires: the walk of the law's second loop. By an AI agent.
-/
import Derived.Test.YbulkfbwFireInner
namespace Go.Proofs.Ybulkfbw.lawS0295AFires
open Go.ChangeShapes Go.WideShapes Go.RowKit
open Go.ChangeMaps (setBlock)
set_option linter.unusedVariables false
set_option linter.unusedSimpArgs false

set_option maxHeartbeats 4000000 in
set_option maxRecDepth 1000000 in
theorem second (a1 : Option Addr) (i cap1 : Nat) (a2 : Option Addr) (len2 cap2 : Nat) (X : Bool → Nat → Int) (k : Nat) (hk : k < 4) (w : World) (hn : i ≤ 1024)
    (HD : Hid (∀ j, j < i → ∃ x, a1 = some x ∧ w.cell? (x.add j) = some (.int .u8 (X false j)))) (HB8 : Hid (∀ t j, 0 ≤ X t j ∧ X t j ≤ 255))
    (HCM : Hid (∀ (j : Nat) (wq : World), j ≤ 1024 → Below w.heap.size w wq → Calls Yba.prog 10 #[.slice a2 len2 cap2, .int .i64 j] wq fun e w' => e = .returned (.int .u8 (X true j)) ∧ w' = wq))
    (ws : List Nat) (S : Bool → Nat → Nat → Bool) (blk3 : Role → Option Nat) (L3' : Role → List Ent) (c3' : Role → Nat) (V : Nat → Value) (cur : Array Value) (wd : World) (HL3 : Hid (L3 w i X k wd ws S blk3 L3' c3' V cur))
    (K : Act → World → Prop) (Q0 : Exit → Act → World → Prop) (HK : Hid (∀ (us : List Value) (w' : World), us.length = 285 → Below w.heap.size w w' → K ⟨us.toArray, []⟩ w'))
    (c0 c3 c4 c5 c6 c12 c13 c14 c15 c16 c18 c19 c20 c21 c22 c23 c24 c25 c26 c27 c28 c29 c30 c31 c32 c33 c34 c35 c36 c37 c38 c39 c40 c41 c42 c43 c44 c45 c46 c47 c48 c49 c50 c51 c52 c53 c54 c55 c56 c57 c58 c59 c60 c61 c62 c63 c64 c65 c66 c67 c68 c69 c70 c71 c72 c73 c74 c75 c76 c77 c78 c79 c80 c81 c82 c83 c84 c85 c86 c87 c88 c89 c90 c91 c92 c93 c94 c95 c96 c97 c98 c99 c100 c101 c102 c103 c104 c105 c106 c107 c108 c109 c110 c111 c112 c113 c114 c115 c116 c117 c118 c119 c120 c121 c122 c123 c124 c125 c126 c127 c128 c129 c130 c131 c132 c133 c134 c135 c136 c137 c138 c139 c140 c141 c142 c143 c144 c145 c146 c147 c148 c149 c150 c151 c152 c153 c154 c155 c156 c157 c158 c159 c160 c161 c162 c163 c164 c165 c166 c167 c168 c169 c170 c171 c172 c173 c174 c175 c176 c177 c178 c179 c180 c181 c182 c183 c184 c185 c186 c187 c188 c189 c190 c191 c192 c193 c194 c195 c196 c197 c198 c199 c200 c201 c202 c203 c204 c205 c206 c207 c208 c209 c210 c211 c212 c213 c214 c215 c216 c217 c218 c219 c220 c221 c222 c223 c224 c225 c226 c227 c228 c229 c230 c231 c232 c233 c234 c235 c236 c237 c238 c239 c240 c241 c242 c243 c244 c245 c246 c247 c248 c249 c250 c251 c252 c253 c254 c255 c256 c257 c258 c259 c260 c261 c262 c263 c264 c265 c266 c267 c268 c269 c270 c271 c272 c273 c274 c275 c276 c277 c278 c279 c280 c281 c282 c283 c284 : Value) :
    Code.wp Yba.prog code4 (Exit.then K Q0) ⟨#[c0, .slice a1 i cap1, .slice a2 len2 cap2, c3, c4, c5, c6, .pointer (some ⟨w.heap.size + 13, 0, none⟩), .int .i64 k, .string (path k), .int .i64 (par k), .slice (some ⟨w.heap.size + 14, 0, none⟩) i i, c12, c13, c14, c15, c16, .int .i64 0, c18, c19, c20, c21, c22, c23, c24, c25, c26, c27, c28, c29, c30, c31, c32, c33, c34, c35, c36, c37, c38, c39, c40, c41, c42, c43, c44, c45, c46, c47, c48, c49, c50, c51, c52, c53, c54, c55, c56, c57, c58, c59, c60, c61, c62, c63, c64, c65, c66, c67, c68, c69, c70, c71, c72, c73, c74, c75, c76, c77, c78, c79, c80, c81, c82, c83, c84, c85, c86, c87, c88, c89, c90, c91, c92, c93, c94, c95, c96, c97, c98, c99, c100, c101, c102, c103, c104, c105, c106, c107, c108, c109, c110, c111, c112, c113, c114, c115, c116, c117, c118, c119, c120, c121, c122, c123, c124, c125, c126, c127, c128, c129, c130, c131, c132, c133, c134, c135, c136, c137, c138, c139, c140, c141, c142, c143, c144, c145, c146, c147, c148, c149, c150, c151, c152, c153, c154, c155, c156, c157, c158, c159, c160, c161, c162, c163, c164, c165, c166, c167, c168, c169, c170, c171, c172, c173, c174, c175, c176, c177, c178, c179, c180, c181, c182, c183, c184, c185, c186, c187, c188, c189, c190, c191, c192, c193, c194, c195, c196, c197, c198, c199, c200, c201, c202, c203, c204, c205, c206, c207, c208, c209, c210, c211, c212, c213, c214, c215, c216, c217, c218, c219, c220, c221, c222, c223, c224, c225, c226, c227, c228, c229, c230, c231, c232, c233, c234, c235, c236, c237, c238, c239, c240, c241, c242, c243, c244, c245, c246, c247, c248, c249, c250, c251, c252, c253, c254, c255, c256, c257, c258, c259, c260, c261, c262, c263, c264, c265, c266, c267, c268, c269, c270, c271, c272, c273, c274, c275, c276, c277, c278, c279, c280, c281, c282, c283, c284], []⟩ wd := by
  conv => arg 2; whnf
  have hpar := par_lt k
  go_wp2_with fail
  go_loopw [17] (fun iv wz => ∃ (j : Nat), j ≤ i ∧ iv = .int .i64 j ∧ L3 w i X k wz ws S blk3 L3' c3' V cur) (fun iv _ => i - (intOf iv).toNat)
  case atStart => exact ⟨0, by omega, rfl, HL3.out⟩
  case round =>
    obtain ⟨j, hj, hjv, hL⟩ := hrel
    subst hjv
    clear HL3
    by_cases hlt2 : j < i
    · obtain ⟨p, hp⟩ : ∃ p, ws[j]? = some p := ⟨_, List.getElem?_eq_getElem (by rw [hL.len]; exact hlt2)⟩
      have hpw : p ∈ ws := List.mem_of_getElem? hp
      obtain ⟨x1, rfl, hx⟩ := HD.out j hlt2
      obtain ⟨wo, rfl⟩ : ∃ wo : World, wo = wr := ⟨_, rfl⟩
      have hrow : wo.cell? ⟨w.heap.size + 14, j, none⟩ = some (.pointer (some ⟨p, 0, none⟩)) := by simp [World.cell?, hL.row, hL.ptr j p hp]
      have hx5 : wo.cell? (x1.add j) = some (.int .u8 (X false j)) := (hL.below.cell (World.block_lt_of_cell? w _ hx)).trans hx
      have HCM5 : Hid _ := HCM.out j wo (by omega) hL.below
      have hlg := l3_log hL hk hp
      have HL : Hid _ := hL
      have HP : Hid (ws[j]? = some p) := hp
      have HPW : Hid (p ∈ ws) := hpw
      have hbf := HB8.out false j
      have hbt := HB8.out true j
      have hob := or_bit (X false j / 2 ^ k) (X true j / 2 ^ k)
      have hp77 : Yba.prog.stoodInHeld 77 = false := by kernel_rfl
      obtain ⟨A, hA⟩ : ∃ A : Bool, (bit (X false j) k || bit (X true j) k) = A := ⟨_, rfl⟩
      obtain ⟨P, hP⟩ : ∃ P : Bool, bit (X true j) (par k) = P := ⟨_, rfl⟩
      have hA' : (bits BinOp.and IntKind.u8 (bits BinOp.or IntKind.u8 (X false j / 2 ^ k) (X true j / 2 ^ k)) 1 == 1) = A := hob.trans hA
      have hP' : (bits BinOp.and IntKind.u8 (X true j / 2 ^ par k) 1 == 1) = P := hP
      rw [hA, hP] at hlg
      obtain ⟨a, cap, hlc, hcs⟩ := l3_cells hL hpw hlg
      obtain ⟨cA, cP, hlen, HE0, HE1, HNA, HNP⟩ := ev_cases hcs
      rw [hlen] at hlc
      have hcA1 : cA ≤ 1 := by
        rcases Bool.eq_false_or_eq_true A with e | e
        · rw [(HE0.out e).1]; omega
        · rw [HNA.out e]; omega
      have hcP1 : cP ≤ 1 := by
        rcases Bool.eq_false_or_eq_true P with e | e
        · rw [(HE1.out e).1]; omega
        · rw [HNP.out e]; omega
      clear hcs hlg hL hob hA hP hp hpw hx hlen
      go_upto_if 131 with (go_at_call 10; refine Calls.mono HCM5.out ?_; rintro e w6 ⟨rfl, hw6⟩; rw [hw6]; clear hw6)
      go_cut [21] from 104 to 284 (fun nv wx => nv = .int .i64 (cA : Nat) ∧ wo = wx)
      case first =>
        cases A with
        | true =>
          obtain ⟨rfl, g, rfl, y0, y1, y2⟩ := HE0.out rfl
          clear HE1 HNA HNP HE0
          go_wp2_with fail
          go_meet
          case rel => exact ⟨rfl, rfl⟩
        | false =>
          obtain rfl := HNA.out rfl
          clear HE1 HNA HNP HE0
          go_wp2_with fail
          go_meet
          case rel => exact ⟨rfl, rfl⟩
      case rest =>
        obtain ⟨rfl, rfl⟩ := hcut
        clear HE0 HNA hA'
        go_upto_if 156 with fail
        go_cut [21] from 104 to 284 (fun nv wx => nv = .int .i64 ((cA + cP : Nat)) ∧ wo.grownBy wx none)
        case first =>
          cases P with
          | true =>
            obtain ⟨rfl, g, rfl, y0, y1, y2⟩ := HE1.out rfl
            clear HNP HE1
            have hidx : 0 ≤ (cA : Int) ∧ (cA : Int) < ((cA + 1 : Nat) : Int) := by omega
            have hle : ¬ ((cA + 1 : Nat) : Int) ≤ (cA : Int) := by omega
            go_wp2_with fail
            refine wp_then (fun a0 a' w' => ∃ us : List Value, us.length = 10 ∧ a' = putAll a0 [164, 165, 166, 167, 168, 169, 170, 171, 172, 173, 174] (us ++ [.bool false]) ∧ w' = wo.drew) ?_ ?_
            · intro a0 ha0
              have hsz : a0.tmps.size = 285 := by rw [ha0]; rfl
              have e10 : ∀ h : 10 < a0.tmps.size, a0.tmps[10]'h = .int .i64 (par k) := by rw [ha0]; intro h; rfl
              have e18 : ∀ h : 18 < a0.tmps.size, a0.tmps[18]'h = .pointer (some ⟨p, 0, none⟩) := by rw [ha0]; intro h; rfl
              have e21 : ∀ h : 21 < a0.tmps.size, a0.tmps[21]'h = .int .i64 cA := by rw [ha0]; intro h; rfl
              clear ha0
              go_light
              refine wp_region_T 99 (fun w' => w'.cell? ⟨p, 0, none⟩ = some (.slice (some ⟨g, 0, none⟩) (cA + 1) cap) ∧ w'.cell? ⟨g, cA * 3, none⟩ = some (.int .i32 4) ∧ w'.cell? ⟨g, cA * 3 + 1, none⟩ = some (.int .i32 3) ∧ w'.cell? ⟨g, cA * 3 + 2, none⟩ = some (.string (path (par k)))) (by kernel_rfl) ⟨hlc, y0, y1, y2⟩ (fun hS => ?_)
              refine wpAnyT_takeY (i := 0) (v := ?_) (by simp only [List.getElem?_toArray, List.getElem?_cons_zero]; rfl) (by decide +kernel) (by decide +kernel) (by decide +kernel) (by decide) (fun _ _ _ h => h) (Or.inl ⟨by rfl, ?_⟩) hS ?_
              rotate_left
              · intro w _
                go_simp
                try with_reducible rfl
              refine wpAnyT_takeY (i := 1) (v := ?_) (by simp only [List.getElem?_toArray, List.getElem?_cons_succ, List.getElem?_cons_zero]; rfl) (by decide +kernel) (by decide +kernel) (by decide +kernel) (by decide) (fun _ _ _ h => h) (Or.inl ⟨by rfl, ?_⟩) hS ?_
              rotate_left
              · intro w _
                go_simp
                try with_reducible rfl
              refine wpAnyT_takeY (i := 2) (v := ?_) (by simp only [List.getElem?_toArray, List.getElem?_cons_succ, List.getElem?_cons_zero]; rfl) (by decide +kernel) (by decide +kernel) (by decide +kernel) (by decide) (fun _ _ _ h => h) (Or.inl ⟨by rfl, ?_⟩) hS ?_
              rotate_left
              · intro w _
                go_simp
                try with_reducible rfl
              refine wpAnyT_take (i := 3) (v := ?_) (by simp only [List.getElem?_toArray, List.getElem?_cons_succ, List.getElem?_cons_zero]; rfl) (by decide +kernel) (by decide +kernel) (by decide +kernel) (by decide +kernel) (by decide) (by decide +kernel) (fun _ _ _ h => h) (Or.inl ⟨by rfl, ?_⟩) hS ?_
              rotate_left
              · intro w hSw
                obtain ⟨s1, s2, s3, s4⟩ := hSw
                go_simp
                try with_reducible rfl
              refine wpAnyT_takeY (i := 4) (v := ?_) (by simp only [List.getElem?_toArray, List.getElem?_cons_succ, List.getElem?_cons_zero]; rfl) (by decide +kernel) (by decide +kernel) (by decide +kernel) (by decide) (fun _ _ _ h => h) (Or.inl ⟨by rfl, ?_⟩) hS ?_
              rotate_left
              · intro w _
                go_simp
                try with_reducible rfl
              refine wpAnyT_takeY (i := 5) (v := ?_) (by simp only [List.getElem?_toArray, List.getElem?_cons_succ, List.getElem?_cons_zero]; rfl) (by decide +kernel) (by decide +kernel) (by decide +kernel) (by decide) (fun _ _ _ h => h) (Or.inl ⟨by rfl, ?_⟩) hS ?_
              rotate_left
              · intro w _
                go_simp
                try with_reducible rfl
              refine wpAnyT_take (i := 6) (v := ?_) (by simp only [List.getElem?_toArray, List.getElem?_cons_succ, List.getElem?_cons_zero]; rfl) (by decide +kernel) (by decide +kernel) (by decide +kernel) (by decide +kernel) (by decide) (by decide +kernel) (fun _ _ _ h => h) (Or.inl ⟨by rfl, ?_⟩) hS ?_
              rotate_left
              · intro w hSw
                obtain ⟨s1, s2, s3, s4⟩ := hSw
                go_simp
                try with_reducible rfl
              refine wpAnyT_takeY (i := 7) (v := ?_) (by simp only [List.getElem?_toArray, List.getElem?_cons_succ, List.getElem?_cons_zero]; rfl) (by decide +kernel) (by decide +kernel) (by decide +kernel) (by decide) (fun _ _ _ h => h) (Or.inl ⟨by rfl, ?_⟩) hS ?_
              rotate_left
              · intro w _
                go_simp
                try with_reducible rfl
              refine wpAnyT_only (i := 8) (by decide +kernel) (by simp only [List.getElem?_toArray, List.getElem?_cons_succ, List.getElem?_cons_zero]; rfl) rfl ?_
              go_simp
              refine (path_any (par k) hpar _).mono ?_
              rintro e w' ⟨rfl, rfl⟩
              refine ⟨hS, ?_⟩
              refine wpAnyT_takeY (i := 9) (v := ?_) (by simp only [List.getElem?_toArray, List.getElem?_cons_succ, List.getElem?_cons_zero]; rfl) (by decide +kernel) (by decide +kernel) (by decide +kernel) (by decide) (fun _ _ _ h => h) (Or.inl ⟨by rfl, ?_⟩) hS ?_
              rotate_left
              · intro w _
                go_simp
                try with_reducible rfl
              refine wpAnyT_only (i := 10) (by decide +kernel) (by simp only [List.getElem?_toArray, List.getElem?_cons_succ, List.getElem?_cons_zero]; rfl) rfl ?_
              go_simp
              refine wpAnyT_done (by decide +kernel) ?_ _
              exact ⟨[.pointer (some ⟨p, 0, none⟩), .pointer (some ⟨p, 0, none⟩), .pointer (some ⟨p, 0, none⟩), .slice (some ⟨g, 0, none⟩) (cA + 1) cap, .int .i64 cA, .pointer (some ⟨g, cA * 3, none⟩), .agg #[.int .i32 4, .int .i32 3, .string (path (par k))], .int .i64 (par k), .string (path (par k)), .agg #[.int .i32 4, .int .i32 3, .string (path (par k))]], rfl, by simp only [putAll, Act.put, List.cons_append, List.nil_append], rfl⟩
            · rintro a0 a' w2 ha0 ⟨us, hus, ha', hw2⟩
              obtain ⟨q0, q1, q2, q3, q4, q5, q6, q7, q8, q9, hus'⟩ := list10 hus
              rw [ha', ha0, hus', hw2]
              clear ha' ha0 hus hus' hw2
              simp only [putAll, Act.put, List.cons_append, List.nil_append, List.setIfInBounds_toArray, List.set_cons_succ, List.set_cons_zero]
              go_wp2_with fail
              go_meet
              case rel => exact ⟨by go_num, ⟨rfl, rfl, rfl, Nat.le_refl _, fun _ _ _ => rfl⟩⟩
          | false =>
            obtain rfl := HNP.out rfl
            clear HNP HE1
            go_wp2_with fail
            go_meet
            case rel => exact ⟨rfl, ⟨rfl, rfl, rfl, Nat.le_refl _, fun _ _ _ => rfl⟩⟩
        case rest =>
          obtain ⟨rfl, hgr⟩ := hcut
          have HLc : Hid _ := l3_grown HL.out hgr
          have hlc' : wc.cell? ⟨p, 0, none⟩ = some (.slice a (cA + cP) cap) := hgr.cell hlc (by simp)
          clear hlc hgr HE1 HNP hP' hrow hx5 HCM5 HL hp77
          go_upto_block 6 with fail
          refine inner i X k hk w j p hbf hbt ws S blk3 L3' c3' V cur HP HPW wc HLc _ _ _ _ _ _ _ _ _ _ _ _ _ _ _ _ _ _ _ _ _ _ _ _ _ _ _ _ _ _ _ _ _ _ _ _ _ _ _ _ _ _ _ _ _ _ _ _ _ _ _ _ _ _ _ _ _ _ _ _ _ _ _ _ _ _ _ _ _ _ _ _ _ _ _ _ _ _ _ _ _ _ _ _ _ _ _ _ _ _ _ _ _ _ _ _ _ _ _ _ _ _ _ _ _ _ _ _ _ _ _ _ _ _ _ _ _ _ _ _ _ _ _ _ _ _ _ _ _ _ _ _ _ _ _ _ _ _ _ _ _ _ _ _ _ _ _ _ _ _ _ _ _ _ _ _ _ _ _ _ _ _ _ _ _ _ _ _ _ _ _ _ _ _ _ _ _ _ _ _ _ _ _ _ _ _ _ _ _ _ _ _ _ _ _ _ _ _ _ _ _ _ _ _ _ _ _ _ _ _ _ _ _ _ _ _ _ _ _ _ _ _ _ _ _ _ _ _ _ _ _ _ _ _ _ _ _ _ _ _ _ _ _ _ _ _ _ _ _ _ _ _ _ _ _ _ _ _ _ _ _ _ _ _ _ _ _ _ _ _ _ _ _ _ _ _ _ _ _ ?_
          intro u6 u22 u23 u24 u25 u26 u27 u28 u29 u30 u31 u32 u33 u184 u185 u186 u187 u188 u189 u190 u191 u192 u193 u194 u195 u196 u197 u198 u199 u200 u201 u202 u203 u204 u205 u206 u207 u208 u209 u210 u211 u212 u213 u214 u215 u216 u217 u218 u219 u220 u221 u222 u223 u224 u225 u226 u227 u228 u229 u230 u231 u232 u233 u234 u235 u236 u237 u238 u239 u240 u241 u242 u243 u244 u245 u246 u247 u248 u249 u250 u251 u252 u253 u254 u255 u256 u257 u258 u259 u260 u261 u262 u263 u264 u265 u266 u267 u268 u269 u270 u271 u272 u273 u274 u275 u276 u277 u278 u279 u280 u281 u282 u283 u284 w9 hL9
          have HL9 : Hid _ := hL9
          clear hL9 HLc hlc'
          go_wp2
          go_roundw
          case rel =>
            exact ⟨j + 1, by omega, by go_num, HL9.out⟩
          case measure => simp [intOf]; omega
    · have HBE : Hid _ := hL.below
      clear hL
      go_wp2
      exact HK.out _ _ rfl HBE.out
end Go.Proofs.Ybulkfbw.lawS0295AFires
