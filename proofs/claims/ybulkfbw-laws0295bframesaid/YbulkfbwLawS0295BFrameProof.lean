/-
  LawS0295BFrame: the law's walk, and the shell's frame round it. By an AI agent.
-/
import Derived.Test.YbulkfbwRows
import Derived.Test.YbulkfbwBFrameParts
import Derived.WalkKit
import Derived.WalkSpells
import Derived.ProofKit
import Derived.OpenShut
import Derived.ShutString
import Derived.ChangeOld
import Derived.Below
namespace Go.Proofs.Ybulkfbw.lawS0295BFrame
open Go.ChangeShapes Go.WideShapes Go.ChangeAt Go.RowKit
open Go.ChangeMaps (open_string shut_string)
set_option linter.unusedVariables false

theorem own : ownKnob Yba.prog.godebug = none := by kernel_rfl
theorem laidOut : laidOutB Yba.prog = true := by kernel_rfl

/-- WHAT THE WALK IS TOLD OF A SLICE OF INTEGERS THAT CAME IN: it is nil; or it leads to a row of 'cap' cells, the numbers 'zs' (the first 'len' are its elements, the rest its spare room), each fitting its kind. -/
def IsRow (k : IntKind) (w : World) (a : Option Addr) (len cap : Nat) (zs : List Int) : Prop :=
  (a = none ∧ len = 0 ∧ cap = 0 ∧ zs = []) ∨
  ∃ x, a = some x ∧ len ≤ cap ∧ cap ≤ maxLen ∧ zs.length = cap ∧ (∀ i, i < zs.length → w.cell? (x.add i) = some (.int k (zs.getD i 0))) ∧ ∀ n ∈ zs, (Lit.int k n).wf = true

theorem below_drewN {B : Nat} {a w : World} (h : Below B a w) (n : Nat) : Below B a (w.drewN n) := ⟨h.os, h.tape, h.output, h.size, h.block⟩

set_option maxRecDepth 100000 in
theorem walk1 (b0 off0 len cap : Nat) (zs : List Int) (w : World) (hlen0 : 0 < len) (hlen : len ≤ 4096) (hzl : zs.length = len) (hz : ∀ j, j < len → w.cell? ⟨b0, off0 + j, none⟩ = some (.int .u8 (zs.getD j 0))) :
    Calls Yba.prog 4 #[.slice (some ⟨b0, off0, none⟩) len cap] w fun e w' => e = .returned (.bool true) ∧ Below w.heap.size w w' := by
  have HF : Hid (Calls Yba.prog 13 #[.iface 82 (.pointer (some ⟨w.heap.size, 0, none⟩)), .slice (some ⟨b0, off0, none⟩) len cap] (w.alloc (.cells #[.slice none 0 0, .int .i64 0, .nilIface] 86)) fun e w' => e = .returned .nilIface ∧
      ∃ v', w'.cell? ⟨w.heap.size, 0, none⟩ = some v' ∧ w'.cell? ⟨w.heap.size, 1, none⟩ = some (.int .i64 1) ∧
        w'.ownsRow (w.heap.size + 1) 5 1 v' (4 + len) ([.int .u8 ((len : Int) / 16777216), .int .u8 ((len : Int) / 65536 % 256), .int .u8 ((len : Int) / 256 % 256), .int .u8 ((len : Int) % 256)] ++ zs.map (Value.int .u8)) ∧ (w.alloc (.cells #[.slice none 0 0, .int .i64 0, .nilIface] 86)).grownBy w' (some w.heap.size)) := by
    have := frame_any w.heap.size (some ⟨b0, off0, none⟩) len cap (zs.map (Value.int .u8)) (w.alloc (.cells #[.slice none 0 0, .int .i64 0, .nilIface] 86)) hlen (by simp [hzl]) (by intro u hu; simp at hu; obtain ⟨z, _, rfl⟩ := hu; rfl) (by simp)
      (by
        intro ad had j u hu
        obtain rfl := Option.some.inj had
        obtain ⟨hj, rfl⟩ := List.getElem?_eq_some_iff.1 hu
        have hj' : j < len := by simpa [hzl] using hj
        have h := hz j hj'
        rw [Addr.add_lit, World.cell?_alloc_lt _ _ _ (World.block_lt_of_cell? w _ h), h]
        simp [List.getD, show j < zs.length by omega])
      (by simp) (by simp) (by simp) (by simp) (by simp)
    unfold Hid
    simpa using this
  have h9 : decide (4096 < (len : Int)) = false := by simp; omega
  go_enter Yba.func4, Yba.ntmps4
  go_wp2_with fail
  refine HF.out.mono ?_
  rintro e w1 ⟨rfl, v', k0, k1, hown, hgrow⟩
  obtain ⟨g, cap2, hv, hg1, hg2⟩ := own_form hown (by omega)
  subst hv
  have e0 : w1.cell? ⟨g, 0, none⟩ = some (.int .u8 ((len : Int) / 16777216)) := by rw [hown.cellAt 0 (by omega)]; rfl
  have e1 : w1.cell? ⟨g, 1, none⟩ = some (.int .u8 ((len : Int) / 65536 % 256)) := by rw [hown.cellAt 1 (by omega)]; rfl
  have e2 : w1.cell? ⟨g, 2, none⟩ = some (.int .u8 ((len : Int) / 256 % 256)) := by rw [hown.cellAt 2 (by omega)]; rfl
  have e3 : w1.cell? ⟨g, 3, none⟩ = some (.int .u8 ((len : Int) % 256)) := by rw [hown.cellAt 3 (by omega)]; rfl
  have HB : Hid (Below w.heap.size w w1) := by
    unfold Hid
    exact ((Below.refl _ _).alloc (Nat.le_refl _) _).grown hgrow (by simp) (by intro k hk; simp at hk; omega)
  have HE : Hid (∀ k, k < len → w1.cell? ⟨g, 4 + k, none⟩ = some (.int .u8 (zs.getD k 0)) ∧ w1.cell? ⟨b0, off0 + k, none⟩ = some (.int .u8 (zs.getD k 0))) := by
    intro k hk
    refine ⟨?_, ?_⟩
    · rw [hown.cellAt (4 + k) (by omega), List.getElem?_append_right (by simp)]
      simp [List.getD, show k < zs.length by omega]
    · rw [HB.out.cell (by simpa using World.block_lt_of_cell? w _ (hz k hk))]; exact hz k hk
  clear hown hgrow hz HF
  have HK0 : Hid (w1.cell? ⟨w.heap.size, 0, none⟩ = some (.slice (some ⟨g, 0, none⟩) (4 + len) cap2)) := k0
  have hgs : g < w1.heap.size := hg2
  have hBs : w.heap.size < w1.heap.size := World.block_lt_of_cell? w1 _ k0
  go_wp2
  clear e0 e1 e2 e3 k0 k1
  go_loopw [6] (fun i wr => ∃ k : Nat, k ≤ len ∧ i = .int .i64 k ∧ Below w1.heap.size w1 wr) (fun i _ => len - (intOf i).toNat)
  case atStart => exact ⟨0, Nat.zero_le _, rfl, Below.refl _ _⟩
  case round =>
    obtain ⟨k, hk, rfl, hbel⟩ := hrel
    by_cases hlt : k < len
    · obtain ⟨t1, t2⟩ := HE.out k hlt
      have t2' := World.block_lt_of_cell? w1 _ t2
      have r0 : wr.cell? ⟨w.heap.size, 0, none⟩ = some (.slice (some ⟨g, 0, none⟩) (4 + len) cap2) := (hbel.cell hBs).trans HK0.out
      have r1 : wr.cell? ⟨g, 4 + k, none⟩ = some (.int .u8 (zs.getD k 0)) := (hbel.cell hgs).trans t1
      have r2 : wr.cell? ⟨b0, off0 + k, none⟩ = some (.int .u8 (zs.getD k 0)) := (hbel.cell t2').trans t2
      have q1 : ((4 : Int) + (k : Int)) < ((4 + len : Nat) : Int) := by omega
      have q2 : (k : Int) < (len : Int) := by omega
      clear t1 t2
      go_wp2
      go_quiet (fail)
      go_wp2
      go_roundw
      case rel => exact ⟨k + 1, by omega, by go_num, below_drewN hbel _⟩
      case measure => simp [intOf]; omega
    · go_wp2
      go_ret
      exact ⟨rfl, HB.out.trans (hbel.mono (by omega))⟩

set_option maxRecDepth 100000 in
theorem walk0 (ao : Option Addr) (cap : Nat) (w : World) (hnone : ao = none → cap = 0) :
    Calls Yba.prog 4 #[.slice ao 0 cap] w fun e w' => e = .returned (.bool true) ∧ Below w.heap.size w w' := by
  have HF : Hid (Calls Yba.prog 13 #[.iface 82 (.pointer (some ⟨w.heap.size, 0, none⟩)), .slice ao 0 cap] (w.alloc (.cells #[.slice none 0 0, .int .i64 0, .nilIface] 86)) fun e w' => e = .returned .nilIface ∧
      ∃ v', w'.cell? ⟨w.heap.size, 0, none⟩ = some v' ∧ w'.cell? ⟨w.heap.size, 1, none⟩ = some (.int .i64 1) ∧
        w'.ownsRow (w.heap.size + 1) 5 1 v' 4 ([.int .u8 0, .int .u8 0, .int .u8 0, .int .u8 0]) ∧ (w.alloc (.cells #[.slice none 0 0, .int .i64 0, .nilIface] 86)).grownBy w' (some w.heap.size)) := by
    have := frame_any w.heap.size ao 0 cap [] (w.alloc (.cells #[.slice none 0 0, .int .i64 0, .nilIface] 86)) (by omega) rfl (by simp) (fun h => ⟨rfl, hnone h⟩) (by simp) (by simp) (by simp) (by simp) (by simp) (by simp)
    unfold Hid
    simpa using this
  go_enter Yba.func4, Yba.ntmps4
  go_wp2_with fail
  refine HF.out.mono ?_
  rintro e w1 ⟨rfl, v', k0, k1, hown, hgrow⟩
  obtain ⟨g, cap2, hv, hg1, hg2⟩ := own_form hown (by omega)
  subst hv
  have e0 : w1.cell? ⟨g, 0, none⟩ = some (.int .u8 0) := by rw [hown.cellAt 0 (by omega)]; rfl
  have e1 : w1.cell? ⟨g, 1, none⟩ = some (.int .u8 0) := by rw [hown.cellAt 1 (by omega)]; rfl
  have e2 : w1.cell? ⟨g, 2, none⟩ = some (.int .u8 0) := by rw [hown.cellAt 2 (by omega)]; rfl
  have e3 : w1.cell? ⟨g, 3, none⟩ = some (.int .u8 0) := by rw [hown.cellAt 3 (by omega)]; rfl
  have HB : Hid (Below w.heap.size w w1) := by
    unfold Hid
    exact ((Below.refl _ _).alloc (Nat.le_refl _) _).grown hgrow (by simp) (by intro k hk; simp at hk; omega)
  clear hown hgrow HF hnone
  go_wp2
  clear e0 e1 e2 e3 k0 k1
  go_loopw [6] (fun i wr => i = .int .i64 0 ∧ wr = w1) (fun _ _ => 0)
  case atStart => exact ⟨rfl, rfl⟩
  case round =>
    obtain ⟨rfl, rfl⟩ := hrel
    go_wp2
    go_ret
    exact ⟨rfl, HB.out⟩

/-! ### STEP 1: THE WALK: the Go text returns true, AND WRITES NOTHING THAT WAS THERE: 'Below w.heap.size w w'' (Derived/Below.lean: '.refl', '.alloc', '.drew', '.setCell' at a new block, '.trans'). Open each 'IsRow' by 'rcases' AHEAD of 'go_enter'; part every test ahead of the walk. -/
theorem walk (a0 : Option Addr) (len0 cap0 : Nat) (z0 : List Int) (w : World) (w0 : IsRow .u8 w a0 len0 cap0 z0) :
    Calls Yba.prog 4 #[.slice a0 len0 cap0] w fun e w' => e = .returned (.bool true) ∧ Below w.heap.size w w' := by
  by_cases hlen : 4096 < (len0 : Int)
  · go_enter Yba.func4, Yba.ntmps4
    go_wp2
    go_ret
    exact ⟨rfl, Below.refl _ _⟩
  · rcases w0 with ⟨rfl, rfl, rfl, rfl⟩ | ⟨x, rfl, hlc, hcm, hzl, hcell, hwf⟩
    · exact walk0 none 0 w (fun _ => rfl)
    · by_cases h0 : len0 = 0
      · subst h0
        exact walk0 (some x) cap0 w (by simp)
      · obtain ⟨b, off, spot⟩ := x
        have hspot : spot = none := by simpa [Addr.add] using World.cell?_spot (hcell 0 (by omega))
        subst hspot
        refine walk1 b off len0 cap0 (z0.take len0) w (by omega) (by omega) (by simp; omega) ?_
        intro j hj
        have h := hcell j (by omega)
        rw [Addr.add_lit] at h
        rw [h]
        simp [List.getD, hj]

/-! ### THE ROW's STEP: WRITTEN OUT: LEAVE IT -/
set_option maxRecDepth 100000 in
theorem lifted (os : Os) (started : os.Started) (H : Type) (enc : TypeId × Value → H) :
    ReturnsInHanded {} Yba.checked os 4 .any (Rows.lawS0295BFrameSpec.pre6 enc Yba.prog Yba.f4 Rows.lawS0295BFrameRow.domain false) (Rows.lawS0295BFrameSpec.post enc Yba.prog Yba.f4 false true false false) := by
  refine returnsInHanded_of_change (C := Yba.checked) own started (by kernel_rfl) Yba.func4
    (ChangeSpec.witness6 (enc := enc) (C := Yba.checked) false ⟨#[], #[.slice none 0 0], []⟩ 8 (by kernel_rfl) (by kernel_rfl) (by kernel_rfl) (by kernel_rfl)) ?_
  intro W base args ds gs before hval0 hW hcnd _
  have hval : ∀ (j : Nat) t v, Yba.f4.params[j]? = some t → args[j]? = some v → Value.okWide Yba.prog W .any base t v := hval0
  have hW' := hW
  obtain ⟨p, q, hA0, hV, rfl, hfz, hnd⟩ := hW
  have hA : DataW.TrodAll enc Yba.prog W 0 (fun _ => true) true Yba.f4.params.toList args.toList ds p := hA0
  rw [Yba.params4] at hA hval
  obtain ⟨v0, vs0, d0, ds0, p0, q0, hargs, rfl, rfl, h0, r0⟩ := trodAll_cons hA
  obtain ⟨rfl, rfl, rfl⟩ := trodAll_nil r0
  obtain rfl : args = #[v0] := by cases args; simp_all
  obtain ⟨rfl, rfl⟩ := trodVars_none hV
  obtain ⟨a0, len0, cap0, rfl⟩ := okWide_slice Yba.underlying22 (hval 0 22 v0 rfl rfl)
  have k0 := h0
  have lt0 : ∀ x ∈ p0, x.block < W.heap.size := by obtain ⟨m, hm⟩ := k0; exact DataW.trod_lt m _ _ _ hm
  obtain ⟨z0, w0⟩ : ∃ zs, IsRow .u8 W a0 len0 cap0 zs := by
    obtain ⟨fuel, hf⟩ := h0
    rcases open_ints Yba.underlying22 Yba.underlying5 (by kernel_rfl) hf with ⟨hcs, _⟩ | ⟨x, l, c, zs, hcs, _, hl, hm, hz, _, hcell, hwz⟩
    · simp [Value.cells] at hcs
      obtain ⟨rfl, rfl, rfl⟩ := hcs
      exact ⟨[], .inl ⟨rfl, rfl, rfl, rfl⟩⟩
    · simp [Value.cells] at hcs
      obtain ⟨rfl, rfl, rfl⟩ := hcs
      exact ⟨zs, .inr ⟨_, rfl, hl, hm, by simpa using hz, hcell, hwz⟩⟩
  clear hA0 hval0
  refine (walk a0 len0 cap0 z0 W w0).mono fun e W' ⟨he, bel⟩ => ?_
  subst he
  exact ⟨_, rfl, _, _, _, [], _, [], hW', trodAll_mk1 (shut_bool Yba.underlying4 _), (trodAll_cons_mk (Below.trod laidOut (by kernel_rfl) (of_decide_eq_true (by kernel_rfl)) k0 bel lt0) trodAll_mk0), rfl, bel.frame _, fun h => by cases h⟩

theorem over : Rows.lawS0295BFrameRow.holds Yba.pinned (OpenSpec.ofChange Rows.lawS0295BFrameSpec) :=
  OpenClaim.holds_of_wide 4 Yba.f4 rfl rfl rfl rfl rfl rfl rfl ⟨rfl, rfl, rfl, rfl, rfl⟩ rfl rfl rfl rfl rfl (by kernel_rfl) Yba.func4 (by kernel_rfl)
    (of_decide_eq_true (by kernel_rfl)) (by unfold Func.isWrapper; first | (rw [if_pos (by decide +kernel)]; kernel_rfl) | (rw [if_neg (by decide +kernel)]; exact ⟨rfl, rfl⟩))
    (fun os started H enc _ => lifted os started H enc)

/-- ████ THE STATEMENT ████ -/
theorem proved : Rows.LawS0295BFrameSaid := over
end Go.Proofs.Ybulkfbw.lawS0295BFrame
