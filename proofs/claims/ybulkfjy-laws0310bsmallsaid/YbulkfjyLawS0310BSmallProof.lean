/-
  LawS0310BSmall: the callees' contracts, the walk, and the shell's frame round it. By an AI agent.
-/
import Derived.Test.YbulkfjyRows
import Derived.WalkKit
import Derived.WalkSpells
import Derived.ProofKit
import Derived.OpenShut
import Derived.ShutString
namespace Go.Proofs.Ybulkfjy.lawS0310BSmall
open Go.ChangeShapes Go.WideShapes Go.ChangeAt Go.RowKit
open Go.ChangeMaps (open_string shut_string)
set_option linter.unusedVariables false      -- a walk need not use every 'w<i>' (that an integer argument fits its kind)

theorem own : ownKnob Yba.prog.godebug = none := by kernel_rfl

/-! ### THE TWO CALLEES compute one plain function. -/
def kd (c : Int) (constant chars : Bool) : Int :=
  if constant = false then 1 else if 1 ≤ c ∧ c ≤ 4 then 3 else if c = 8 then 4 else if c = 5 then (if chars then 5 else 6) else 7

theorem kd_other (c : Int) (h : c ≠ 5) (b : Bool) : kd c b true = kd c b false := by
  simp [kd, h]

theorem parts (c : Int) : c = 1 ∨ c = 2 ∨ c = 3 ∨ c = 4 ∨ c = 5 ∨ c = 8 ∨ ((c == 1) = false ∧ (c == 2) = false ∧ (c == 3) = false ∧ (c == 4) = false ∧ (c == 5) = false ∧ (c == 8) = false ∧ (c < 1 ∨ 4 < c)) := by
  simp only [beq_eq_false_iff_ne]; omega

theorem kindOf_any (c : Int) (a1 a2 : Bool) (w : World) :
    Calls Yba.prog 5 #[.int .u64 c, .bool a1, .bool a2] w fun e w' => e = .returned (.int .i64 (kd c a1 a2)) ∧ w' = w := by
  cases a1
  · go_enter Yba.func5, Yba.ntmps5
    go_wp2
    go_ret
    exact ⟨rfl, rfl⟩
  · rcases parts c with rfl | rfl | rfl | rfl | rfl | rfl | ⟨h1, h2, h3, h4, h5, h8, h⟩
    · cases a2 <;> (go_enter Yba.func5, Yba.ntmps5; go_wp2; go_ret; exact ⟨rfl, rfl⟩)
    · cases a2 <;> (go_enter Yba.func5, Yba.ntmps5; go_wp2; go_ret; exact ⟨rfl, rfl⟩)
    · cases a2 <;> (go_enter Yba.func5, Yba.ntmps5; go_wp2; go_ret; exact ⟨rfl, rfl⟩)
    · cases a2 <;> (go_enter Yba.func5, Yba.ntmps5; go_wp2; go_ret; exact ⟨rfl, rfl⟩)
    · cases a2 <;> (go_enter Yba.func5, Yba.ntmps5; go_wp2; go_ret; exact ⟨rfl, rfl⟩)
    · cases a2 <;> (go_enter Yba.func5, Yba.ntmps5; go_wp2; go_ret; exact ⟨rfl, rfl⟩)
    · have hk : ∀ b, kd c true b = 7 := by
        intro b; simp only [beq_eq_false_iff_ne] at *; simp only [kd]; rw [if_neg (by simp), if_neg (by omega), if_neg h8, if_neg h5]
      rw [hk]
      rcases h with h | h
      · have h0 : decide (1 ≤ c) = false := by simp; omega
        cases a2 <;> (go_enter Yba.func5, Yba.ntmps5; go_wp2; go_ret; exact ⟨rfl, rfl⟩)
      · have h0 : decide (1 ≤ c) = true := by simp; omega
        have h9 : decide (c ≤ 4) = false := by simp; omega
        cases a2 <;> (go_enter Yba.func5, Yba.ntmps5; go_wp2; go_ret; exact ⟨rfl, rfl⟩)

theorem model_any (c : Int) (a1 a2 : Bool) (w : World) :
    Calls Yba.prog 6 #[.int .u64 c, .bool a1, .bool a2] w fun e w' => e = .returned (.int .i64 (kd c a1 a2)) ∧ w' = w := by
  cases a1
  · go_enter Yba.func6, Yba.ntmps6
    go_wp2
    go_ret
    exact ⟨rfl, rfl⟩
  · rcases parts c with rfl | rfl | rfl | rfl | rfl | rfl | ⟨h1, h2, h3, h4, h5, h8, h⟩
    · cases a2 <;> (go_enter Yba.func6, Yba.ntmps6; go_wp2; go_ret; exact ⟨rfl, rfl⟩)
    · cases a2 <;> (go_enter Yba.func6, Yba.ntmps6; go_wp2; go_ret; exact ⟨rfl, rfl⟩)
    · cases a2 <;> (go_enter Yba.func6, Yba.ntmps6; go_wp2; go_ret; exact ⟨rfl, rfl⟩)
    · cases a2 <;> (go_enter Yba.func6, Yba.ntmps6; go_wp2; go_ret; exact ⟨rfl, rfl⟩)
    · cases a2 <;> (go_enter Yba.func6, Yba.ntmps6; go_wp2; go_ret; exact ⟨rfl, rfl⟩)
    · cases a2 <;> (go_enter Yba.func6, Yba.ntmps6; go_wp2; go_ret; exact ⟨rfl, rfl⟩)
    · have hk : ∀ b, kd c true b = 7 := by
        intro b; simp only [beq_eq_false_iff_ne] at *; simp only [kd]; rw [if_neg (by simp), if_neg (by omega), if_neg h8, if_neg h5]
      rw [hk]
      rcases h with h | h
      · have h0 : decide (1 ≤ c) = false := by simp; omega
        cases a2 <;> (go_enter Yba.func6, Yba.ntmps6; go_wp2; go_ret; exact ⟨rfl, rfl⟩)
      · have h0 : decide (1 ≤ c) = true := by simp; omega
        have h9 : decide (c ≤ 4) = false := by simp; omega
        cases a2 <;> (go_enter Yba.func6, Yba.ntmps6; go_wp2; go_ret; exact ⟨rfl, rfl⟩)

/-! ### STEP 1: THE WALK: the Go text returns true. 'Grown w w'': the world has at most new blocks (Derived/RowKit3.lean). Part the cases AHEAD of 'go_enter' where a test parts the walk; take each callee by a contract of your own. -/
theorem walk (a0 : Int) (a1 : Bool) (a2 : Bool) (w0 : (Lit.int .u8 a0).wf = true) (w : World) :
    Calls Yba.prog 4 #[.int .u8 a0, .bool a1, .bool a2] w fun e w' => e = .returned (.bool true) ∧ Grown w w' := by
  have hb := bounds_u8 w0
  obtain ⟨c, hc⟩ : ∃ c, c = a0 % 16 := ⟨_, rfl⟩
  have hc0 : 0 ≤ c := by omega
  have hc1 : c ≤ 15 := by omega
  have hm : a0 % 16 = c := hc.symm
  clear hc
  by_cases h5 : c = 5
  · subst h5
    cases a1 <;> cases a2 <;> (go_enter Yba.func4, Yba.ntmps4; go_wp2_with (first | (go_at_call 5; refine (kindOf_any _ _ _ _).mono ?_; rintro e w' ⟨rfl, rfl⟩) | (go_at_call 6; refine (model_any _ _ _ _).mono ?_; rintro e w' ⟨rfl, rfl⟩)); go_ret; exact ⟨by simp [kd], Grown.refl _⟩)
  · have h5' : (c == 5) = false := by simp [h5]
    have hq := kd_other c h5
    cases a1 <;> cases a2 <;> (go_enter Yba.func4, Yba.ntmps4; go_wp2_with (first | (go_at_call 5; refine (kindOf_any _ _ _ _).mono ?_; rintro e w' ⟨rfl, rfl⟩) | (go_at_call 6; refine (model_any _ _ _ _).mono ?_; rintro e w' ⟨rfl, rfl⟩)); go_ret; exact ⟨by simp, Grown.refl _⟩)

/-! ### THE ROW's STEP: WRITTEN OUT: LEAVE IT -/
set_option maxRecDepth 100000 in
theorem lifted (os : Os) (started : os.Started) (H : Type) (enc : TypeId × Value → H) :
    ReturnsInHanded {} Yba.checked os 4 .any (Rows.lawS0310BSmallSpec.pre6 enc Yba.prog Yba.f4 Rows.lawS0310BSmallRow.domain false) (Rows.lawS0310BSmallSpec.post enc Yba.prog Yba.f4 false true false false) := by
  refine returnsInHanded_of_change (C := Yba.checked) own started (by kernel_rfl) Yba.func4
    (ChangeSpec.witness6 (enc := enc) (C := Yba.checked) false ⟨#[], #[.int .u8 0, .bool false, .bool false], []⟩ 8 (by kernel_rfl) (by kernel_rfl) (by kernel_rfl) (by kernel_rfl)) ?_
  intro W base args ds gs before hval0 hW hcnd _
  have hval : ∀ (j : Nat) t v, Yba.f4.params[j]? = some t → args[j]? = some v → Value.okWide Yba.prog W .any base t v := hval0
  have hW' := hW
  obtain ⟨p, q, hA0, hV, rfl, hfz, hnd⟩ := hW
  have hA : DataW.TrodAll enc Yba.prog W 0 (fun _ => true) true Yba.f4.params.toList args.toList ds p := hA0
  rw [Yba.params4] at hA hval
  obtain ⟨v0, vs0, d0, ds0, p0, q0, hargs, rfl, rfl, h0, r0⟩ := trodAll_cons hA
  obtain ⟨v1, vs1, d1, ds1, p1, q1, rfl, rfl, rfl, h1, r1⟩ := trodAll_cons r0
  obtain ⟨v2, vs2, d2, ds2, p2, q2, rfl, rfl, rfl, h2, r2⟩ := trodAll_cons r1
  obtain ⟨rfl, rfl, rfl⟩ := trodAll_nil r2
  obtain rfl : args = #[v0, v1, v2] := by cases args; simp_all
  obtain ⟨rfl, rfl⟩ := trodVars_none hV
  obtain ⟨a0, rfl, rfl, rfl, w0⟩ := open_int Yba.underlying5 (hval 0 5 v0 rfl rfl) h0
  obtain ⟨a1, rfl, rfl, rfl⟩ := open_bool Yba.underlying4 (hval 1 4 v1 rfl rfl) h1
  obtain ⟨a2, rfl, rfl, rfl⟩ := open_bool Yba.underlying4 (hval 2 4 v2 rfl rfl) h2
  clear hA0 hval0
  simp only [List.append_nil] at hW'
  refine (walk a0 a1 a2 w0 W).mono fun e W' ⟨he, hg⟩ => ?_
  subst he
  exact ⟨_, rfl, post_of_same (pa := []) (pv := []) hW' (fun _ _ _ => (trodAll_cons_mk (shut_bool Yba.underlying4 _) trodAll_mk0)) (fun sp _ => (trodAll_cons_mk (shut_int Yba.underlying5 w0) (trodAll_cons_mk (shut_bool Yba.underlying4 _) (trodAll_cons_mk (shut_bool Yba.underlying4 _) trodAll_mk0)))) (fun _ _ => rfl) rfl
    (hg.frame _) hg.2.1 (ok_one (by kernel_rfl) rfl (okWide_bool_mk Yba.underlying4 _))⟩

theorem over : Rows.lawS0310BSmallRow.holds Yba.pinned (OpenSpec.ofChange Rows.lawS0310BSmallSpec) :=
  OpenClaim.holds_of_wide 4 Yba.f4 rfl rfl rfl rfl rfl rfl rfl ⟨rfl, rfl, rfl, rfl, rfl⟩ rfl rfl rfl rfl rfl (by kernel_rfl) Yba.func4 (by kernel_rfl)
    (of_decide_eq_true (by kernel_rfl)) (by unfold Func.isWrapper; first | (rw [if_pos (by decide +kernel)]; kernel_rfl) | (rw [if_neg (by decide +kernel)]; exact ⟨rfl, rfl⟩))
    (fun os started H enc _ => lifted os started H enc)

/-- ████ THE STATEMENT ████ -/
theorem proved : Rows.LawS0310BSmallSaid :=
  over
end Go.Proofs.Ybulkfjy.lawS0310BSmall
