/-
  LawS0295AFires: the walk of the law's innermost loop. By an AI agent.
-/
import Derived.Test.YbulkfbwFireLoop
import Derived.Deep.DeepCutAuto
import Derived.Deep.CutBlock
namespace Go.Proofs.Ybulkfbw.lawS0295AFires
open Go.ChangeShapes Go.WideShapes Go.RowKit
open Go.ChangeMaps (setBlock)
set_option linter.unusedVariables false
set_option linter.unusedSimpArgs false
theorem info28p : (Yba.prog.info? 28).map (fun i => (i.zero, i.size, i.bytes)) = some (some (.pointer none), 1, 8) := by kernel_rfl
theorem make27 (n : Nat) (hn : n ≤ 1024) : ∃ cur : Array Value, cur.size = n ∧ ∀ w : World, (Instr.makeSlice 27 (.int .i64 n) (.int .i64 n)).run Yba.prog w = .ok (.slice (some ⟨w.heap.size, 0, none⟩) n n) (w.alloc (.cells cur 28)) := by
  obtain ⟨i0, hi, hz0, hz1, hz2⟩ := info_parts info28p
  refine ⟨madeCells (Value.pointer none).cells (n * i0.size), ?_, fun w => ?_⟩
  · rw [hz1]
    simp [madeCells]
  · have := run_makeSlice w 27 28 i0 (.pointer none) Yba.underlying27 hi hz0 .i64 .i64 n n (by omega) (Int.le_refl _) (by rw [hz1]; simp; omega) (by rw [hz2]; omega) (by omega)
    simpa using this

theorem ev_cases {wr : World} {A P : Bool} {k q : Nat} {a : Option Addr}
    (hcs : ((if A then [((2 : Int), k)] else []) ++ (if P then [((4 : Int), q)] else [])) ≠ [] → ∃ g, a = some ⟨g, 0, none⟩ ∧ ∀ (j : Nat) (x : Int × Nat), ((if A then [((2 : Int), k)] else []) ++ (if P then [((4 : Int), q)] else []))[j]? = some x → wr.cell? ⟨g, j * 3, none⟩ = some (.int .i32 x.1) ∧ wr.cell? ⟨g, j * 3 + 1, none⟩ = some (.int .i32 3) ∧ wr.cell? ⟨g, j * 3 + 2, none⟩ = some (.string (path x.2))) :
    ∃ cA cP : Nat, ((if A then [((2 : Int), k)] else []) ++ (if P then [((4 : Int), q)] else [])).length = cA + cP ∧
      Hid (A = true → cA = 1 ∧ ∃ g, a = some ⟨g, 0, none⟩ ∧ wr.cell? ⟨g, 0, none⟩ = some (.int .i32 2) ∧ wr.cell? ⟨g, 1, none⟩ = some (.int .i32 3) ∧ wr.cell? ⟨g, 2, none⟩ = some (.string (path k))) ∧
      Hid (P = true → cP = 1 ∧ ∃ g, a = some ⟨g, 0, none⟩ ∧ wr.cell? ⟨g, cA * 3, none⟩ = some (.int .i32 4) ∧ wr.cell? ⟨g, cA * 3 + 1, none⟩ = some (.int .i32 3) ∧ wr.cell? ⟨g, cA * 3 + 2, none⟩ = some (.string (path q))) ∧
      Hid (A = false → cA = 0) ∧ Hid (P = false → cP = 0) := by
  cases A <;> cases P
  · exact ⟨0, 0, rfl, fun e => (by cases e), fun e => (by cases e), fun _ => rfl, fun _ => rfl⟩
  · obtain ⟨g, hg, h⟩ := hcs (by simp)
    exact ⟨0, 1, rfl, fun e => (by cases e), fun _ => ⟨rfl, g, hg, h 0 (4, q) rfl⟩, fun _ => rfl, fun e => (by cases e)⟩
  · obtain ⟨g, hg, h⟩ := hcs (by simp)
    exact ⟨1, 0, rfl, fun _ => ⟨rfl, g, hg, h 0 (2, k) rfl⟩, fun e => (by cases e), fun e => (by cases e), fun _ => rfl⟩
  · obtain ⟨g, hg, h⟩ := hcs (by simp)
    exact ⟨1, 1, rfl, fun _ => ⟨rfl, g, hg, h 0 (2, k) rfl⟩, fun _ => ⟨rfl, g, hg, h 1 (4, q) rfl⟩, fun e => (by cases e), fun e => (by cases e)⟩
theorem cases_want (d c : Int) (b k q : Nat) : ∃ tD tC bk bp : Bool, (bits BinOp.and IntKind.u8 (d / 2 ^ b) 1 == 1) = tD ∧ (bits BinOp.and IntKind.u8 (c / 2 ^ b) 1 == 1) = tC ∧ ((b : Int) != (k : Int)) = bk ∧ ((b : Int) != (q : Int)) = bp ∧ (bit d b && (b != k)) = (tD && bk) ∧ (bit c b && (b != k) && (b != q)) = (tC && bk && bp) := by
  have e : ∀ x y : Nat, ((x : Int) != (y : Int)) = (x != y) := by
    intro x y
    rw [Bool.eq_iff_iff, bne_iff_ne, bne_iff_ne]
    omega
  exact ⟨_, _, _, _, rfl, rfl, rfl, rfl, by rw [e]; rfl, by rw [e, e]; rfl⟩
theorem updB_both (b b' : Nat) : updB (updB (fun _ => b) false b') true b' = fun _ => b' := by
  funext t
  cases t <;> simp [updB]
theorem list9 {us : List Value} (h : us.length = 9) : ∃ u0 u1 u2 u3 u4 u5 u6 u7 u8, us = [u0, u1, u2, u3, u4, u5, u6, u7, u8] := by
  match us, h with
  | [u0, u1, u2, u3, u4, u5, u6, u7, u8], _ => exact ⟨u0, u1, u2, u3, u4, u5, u6, u7, u8, rfl⟩
theorem tree_cells {tb : Nat} {B : Bool → Bool → Nat} {n : Int} {w' : World} (h : Tree tb B n w') :
    w'.cell? ⟨tb, 27, none⟩ = some (.map (some (B false false))) ∧ w'.cell? ⟨tb, 28, none⟩ = some (.map (some (B true false))) ∧ w'.cell? ⟨tb, 29, none⟩ = some (.map (some (B false true))) ∧ w'.cell? ⟨tb, 30, none⟩ = some (.map (some (B true true))) := by
  obtain ⟨cs, hcs, c25, c27, c28, c29, c30⟩ := h.shape
  simp [World.cell?, hcs, c27, c28, c29, c30]

def findBlock (n : Nat) : Code → Option Code
  | .block m c => if m == n then some (.block m c) else findBlock n c
  | .seq a b => match findBlock n a with
    | some c => some c
    | none => findBlock n b
  | .loop c => findBlock n c
  | .scope c => findBlock n c
  | .cond _ a b => match findBlock n a with
    | some c => some c
    | none => findBlock n b
  | _ => none
/-- The law's second loop, and the loop inside it, as the translation has them. -/
noncomputable def code4 : Code := (Yba.f3.body.bind (findBlock 4)).getD .skip
noncomputable def code6 : Code := (Yba.f3.body.bind (findBlock 6)).getD .skip

set_option maxHeartbeats 4000000 in
set_option maxRecDepth 1000000 in
theorem inner (i : Nat) (X : Bool → Nat → Int) (k : Nat) (hk : k < 4) (w : World) (j p : Nat) (hbf : 0 ≤ X false j ∧ X false j ≤ 255) (hbt : 0 ≤ X true j ∧ X true j ≤ 255)
    (ws : List Nat) (S : Bool → Nat → Nat → Bool) (blk3 : Role → Option Nat) (L3' : Role → List Ent) (c3' : Role → Nat) (V : Nat → Value) (cur : Array Value) (HP : Hid (ws[j]? = some p)) (HPW : Hid (p ∈ ws)) (wd : World) (HL : Hid (L3 w i X k wd ws S blk3 L3' c3' V cur))
    (Q0 : Exit → Act → World → Prop)
    (c0 c1 c2 c3 c4 c5 c6 c9 c11 c12 c13 c14 c15 c16 c17 c21 c23 c24 c25 c26 c27 c28 c29 c30 c31 c32 c33 c34 c35 c36 c37 c38 c39 c40 c41 c42 c43 c44 c45 c46 c47 c48 c49 c50 c51 c52 c53 c54 c55 c56 c57 c58 c59 c60 c61 c62 c63 c64 c65 c66 c67 c68 c69 c70 c71 c72 c73 c74 c75 c76 c77 c78 c79 c80 c81 c82 c83 c84 c85 c86 c87 c88 c89 c90 c91 c92 c93 c94 c95 c96 c97 c98 c99 c100 c101 c102 c103 c104 c105 c106 c107 c108 c109 c110 c111 c112 c113 c114 c115 c116 c117 c118 c119 c120 c121 c122 c123 c124 c125 c126 c127 c128 c129 c130 c131 c132 c133 c134 c135 c136 c137 c138 c139 c140 c141 c142 c143 c144 c145 c146 c147 c148 c149 c150 c151 c152 c153 c154 c155 c156 c157 c158 c159 c160 c161 c162 c163 c164 c165 c166 c167 c168 c169 c170 c171 c172 c173 c174 c175 c176 c177 c178 c179 c180 c181 c182 c183 c184 c185 c186 c187 c188 c189 c190 c191 c192 c193 c194 c195 c196 c197 c198 c199 c200 c201 c202 c203 c204 c205 c206 c207 c208 c209 c210 c211 c212 c213 c214 c215 c216 c217 c218 c219 c220 c221 c222 c223 c224 c225 c226 c227 c228 c229 c230 c231 c232 c233 c234 c235 c236 c237 c238 c239 c240 c241 c242 c243 c244 c245 c246 c247 c248 c249 c250 c251 c252 c253 c254 c255 c256 c257 c258 c259 c260 c261 c262 c263 c264 c265 c266 c267 c268 c269 c270 c271 c272 c273 c274 c275 c276 c277 c278 c279 c280 c281 c282 c283 c284 : Value)
    (HK : Hid (∀ (u6 u22 u23 u24 u25 u26 u27 u28 u29 u30 u31 u32 u33 u184 u185 u186 u187 u188 u189 u190 u191 u192 u193 u194 u195 u196 u197 u198 u199 u200 u201 u202 u203 u204 u205 u206 u207 u208 u209 u210 u211 u212 u213 u214 u215 u216 u217 u218 u219 u220 u221 u222 u223 u224 u225 u226 u227 u228 u229 u230 u231 u232 u233 u234 u235 u236 u237 u238 u239 u240 u241 u242 u243 u244 u245 u246 u247 u248 u249 u250 u251 u252 u253 u254 u255 u256 u257 u258 u259 u260 u261 u262 u263 u264 u265 u266 u267 u268 u269 u270 u271 u272 u273 u274 u275 u276 u277 u278 u279 u280 u281 u282 u283 u284 : Value) (w' : World), L3 w i X k w' ws S blk3 L3' c3' V cur → Q0 .normal ⟨#[c0, c1, c2, c3, c4, c5, u6, .pointer (some ⟨w.heap.size + 13, 0, none⟩), .int .i64 k, c9, .int .i64 (par k), c11, c12, c13, c14, c15, c16, c17, .pointer (some ⟨p, 0, none⟩), .int .u8 (X false j), .int .u8 (X true j), c21, u22, u23, u24, u25, u26, u27, u28, u29, u30, u31, u32, u33, c34, c35, c36, c37, c38, c39, c40, c41, c42, c43, c44, c45, c46, c47, c48, c49, c50, c51, c52, c53, c54, c55, c56, c57, c58, c59, c60, c61, c62, c63, c64, c65, c66, c67, c68, c69, c70, c71, c72, c73, c74, c75, c76, c77, c78, c79, c80, c81, c82, c83, c84, c85, c86, c87, c88, c89, c90, c91, c92, c93, c94, c95, c96, c97, c98, c99, c100, c101, c102, c103, c104, c105, c106, c107, c108, c109, c110, c111, c112, c113, c114, c115, c116, c117, c118, c119, c120, c121, c122, c123, c124, c125, c126, c127, c128, c129, c130, c131, c132, c133, c134, c135, c136, c137, c138, c139, c140, c141, c142, c143, c144, c145, c146, c147, c148, c149, c150, c151, c152, c153, c154, c155, c156, c157, c158, c159, c160, c161, c162, c163, c164, c165, c166, c167, c168, c169, c170, c171, c172, c173, c174, c175, c176, c177, c178, c179, c180, c181, c182, c183, u184, u185, u186, u187, u188, u189, u190, u191, u192, u193, u194, u195, u196, u197, u198, u199, u200, u201, u202, u203, u204, u205, u206, u207, u208, u209, u210, u211, u212, u213, u214, u215, u216, u217, u218, u219, u220, u221, u222, u223, u224, u225, u226, u227, u228, u229, u230, u231, u232, u233, u234, u235, u236, u237, u238, u239, u240, u241, u242, u243, u244, u245, u246, u247, u248, u249, u250, u251, u252, u253, u254, u255, u256, u257, u258, u259, u260, u261, u262, u263, u264, u265, u266, u267, u268, u269, u270, u271, u272, u273, u274, u275, u276, u277, u278, u279, u280, u281, u282, u283, u284], []⟩ w')) :
    Code.wp Yba.prog code6 Q0 ⟨#[c0, c1, c2, c3, c4, c5, c6, .pointer (some ⟨w.heap.size + 13, 0, none⟩), .int .i64 k, c9, .int .i64 (par k), c11, c12, c13, c14, c15, c16, c17, .pointer (some ⟨p, 0, none⟩), .int .u8 (X false j), .int .u8 (X true j), c21, .int .i64 0, c23, c24, c25, c26, c27, c28, c29, c30, c31, c32, c33, c34, c35, c36, c37, c38, c39, c40, c41, c42, c43, c44, c45, c46, c47, c48, c49, c50, c51, c52, c53, c54, c55, c56, c57, c58, c59, c60, c61, c62, c63, c64, c65, c66, c67, c68, c69, c70, c71, c72, c73, c74, c75, c76, c77, c78, c79, c80, c81, c82, c83, c84, c85, c86, c87, c88, c89, c90, c91, c92, c93, c94, c95, c96, c97, c98, c99, c100, c101, c102, c103, c104, c105, c106, c107, c108, c109, c110, c111, c112, c113, c114, c115, c116, c117, c118, c119, c120, c121, c122, c123, c124, c125, c126, c127, c128, c129, c130, c131, c132, c133, c134, c135, c136, c137, c138, c139, c140, c141, c142, c143, c144, c145, c146, c147, c148, c149, c150, c151, c152, c153, c154, c155, c156, c157, c158, c159, c160, c161, c162, c163, c164, c165, c166, c167, c168, c169, c170, c171, c172, c173, c174, c175, c176, c177, c178, c179, c180, c181, c182, c183, c184, c185, c186, c187, c188, c189, c190, c191, c192, c193, c194, c195, c196, c197, c198, c199, c200, c201, c202, c203, c204, c205, c206, c207, c208, c209, c210, c211, c212, c213, c214, c215, c216, c217, c218, c219, c220, c221, c222, c223, c224, c225, c226, c227, c228, c229, c230, c231, c232, c233, c234, c235, c236, c237, c238, c239, c240, c241, c242, c243, c244, c245, c246, c247, c248, c249, c250, c251, c252, c253, c254, c255, c256, c257, c258, c259, c260, c261, c262, c263, c264, c265, c266, c267, c268, c269, c270, c271, c272, c273, c274, c275, c276, c277, c278, c279, c280, c281, c282, c283, c284], []⟩ wd := by
  conv => arg 2; whnf
  have hpar := par_lt k
  go_wp2_with fail
  go_loopw [22] (fun bv wz => ∃ (b : Nat), b ≤ 5 ∧ bv = .int .i64 b ∧ L3 w i X k wz ws S blk3 L3' c3' V cur) (fun bv _ => 5 - (intOf bv).toNat)
  case atStart => exact ⟨0, by omega, rfl, HL.out⟩
  case round =>
    obtain ⟨b, hb, hbv, hLb⟩ := hrel
    subst hbv
    clear HL
    obtain ⟨wy, rfl⟩ : ∃ wy : World, wy = wr := ⟨_, rfl⟩
    by_cases hb5 : b < 5
    · obtain ⟨x27, x28, x29, x30⟩ := tree_cells hLb.tree
      have htl : w.heap.size + 13 < wy.heap.size := World.block_lt_of_cell? wy _ x27
      have hLB := l3_grown hLb (World.grownBy_alloc wy (.cells #[] 35) none)
      have hLC := l3_grown hLB (World.grownBy_alloc _ (.cells #[] 35) none)
      have hLD := l3_grown hLC (World.grownBy_alloc _ (.cells #[] 35) none)
      have HLE : Hid _ := l3_grown hLD (World.grownBy_alloc _ (.cells #[] 35) none)
      have x27B := (tree_cells hLB.tree).1
      have x30C := (tree_cells hLC.tree).2.2.2
      have x29D := (tree_cells hLD.tree).2.2.1
      clear x27 x29 x30
      obtain ⟨m1, hm1, hn1⟩ := hLb.st.look2 true false (k := p) (i := b) HPW.out hb5
      obtain ⟨m2, hm2, hn2⟩ := hLB.st.look2 false false (k := b) (i := p) hb5 HPW.out
      obtain ⟨m3, hm3, hn3⟩ := hLC.st.look2 true true (k := p) (i := b) HPW.out hb5
      obtain ⟨m4, hm4, hn4⟩ := hLD.st.look2 false true (k := b) (i := p) hb5 HPW.out
      simp only [tO, tI, encK, encP, encW, mk, Bool.not_true, Bool.not_false, unit, l3_data hLb hk HP.out hb5, l3_child hLb hk HP.out hb5] at hm1 hn1 hm2 hn2 hm3 hn3 hm4 hn4
      obtain ⟨vD, hvD⟩ : ∃ v : Bool, (bit (X false j) b && (b != k)) = v := ⟨_, rfl⟩
      obtain ⟨vC, hvC⟩ : ∃ v : Bool, (bit (X true j) b && (b != k) && (b != par k)) = v := ⟨_, rfl⟩
      rw [hvD] at hn1 hn2
      rw [hvC] at hn3 hn4
      have HVD : Hid _ := hvD
      have HVC : Hid _ := hvC
      have HPA : Hid _ := fun wq => path_any b hb5 wq
      clear hLb hLB hLC hLD hvD hvC
      go_upto_region 48 with (go_at_call 8; refine Calls.mono (HPA.out _) ?_; rintro e w7 ⟨rfl, hw7⟩; rw [hw7]; clear hw7)
      go_cut [24] from 184 to 284 (fun v wx => v = .bool vD ∧ wy = wx)
      case first =>
        clear hn1 hn2 hn3 hn4 hm1 hm2 hm3 hm4
        obtain ⟨tD, tC, bk, bp, htD, htC, hbk, hbp, hwD, hwC⟩ := cases_want (X false j) (X true j) b k (par k)
        have hvD := hwD.symm.trans HVD.out
        clear htC hbp hwD hwC HVD HVC HPA
        cases tD <;> cases bk <;> simp only [Bool.and_false, Bool.false_and, Bool.and_true] at hvD <;> subst hvD
        all_goals
          go_wp2_with fail
          go_meet
          case rel => exact ⟨rfl, rfl⟩
      case rest =>
        obtain ⟨rfl, rfl⟩ := hcut
        go_upto_region 53 with fail
        clear hn1 hn2 hm1 hm2
        go_cut [29] from 184 to 284 (fun v wx => v = .bool vC ∧ ((wy.alloc (.cells #[] 35)).alloc (.cells #[] 35)) = wx)
        case first =>
          clear hn3 hn4 hm3 hm4
          obtain ⟨tD, tC, bk, bp, htD, htC, hbk, hbp, hwD, hwC⟩ := cases_want (X false j) (X true j) b k (par k)
          have hvC := hwC.symm.trans HVC.out
          clear htD hwD hwC HVD HVC HPA
          cases tC <;> cases bk <;> cases bp <;> simp only [Bool.and_false, Bool.false_and, Bool.and_true] at hvC <;> subst hvC
          all_goals
            go_wp2_with fail
            go_meet
            case rel => exact ⟨rfl, rfl⟩
        case rest =>
          obtain ⟨rfl, rfl⟩ := hcut
          clear HVD HVC HPA
          go_wp2_with fail
          go_roundw
          case rel =>
            exact ⟨b + 1, by omega, by go_num, HLE.out⟩
          case measure => simp [intOf]; omega
    · obtain rfl : b = 5 := by omega
      have HLb : Hid _ := hLb
      clear hLb
      go_wp2
      exact HK.out _ _ _ _ _ _ _ _ _ _ _ _ _ _ _ _ _ _ _ _ _ _ _ _ _ _ _ _ _ _ _ _ _ _ _ _ _ _ _ _ _ _ _ _ _ _ _ _ _ _ _ _ _ _ _ _ _ _ _ _ _ _ _ _ _ _ _ _ _ _ _ _ _ _ _ _ _ _ _ _ _ _ _ _ _ _ _ _ _ _ _ _ _ _ _ _ _ _ _ _ _ _ _ _ _ _ _ _ _ _ _ _ _ _ _ HLb.out
end Go.Proofs.Ybulkfbw.lawS0295AFires
