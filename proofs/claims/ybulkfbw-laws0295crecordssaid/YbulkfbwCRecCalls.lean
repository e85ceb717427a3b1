/-
  LawS0295CRecords: the callees' contracts: the two readers, binary's two appenders, the encoder's Int and Long. By an AI agent.
-/
import Derived.Test.YbulkfbwRows
import Derived.WalkKit
import Derived.WalkSpells
import Derived.ProofKit
import Derived.Below
import Derived.BigQuiet
import Derived.Outline
import Derived.Deep.QuietTactic
import Derived.Deep.RegionHeld3
import Derived.Deep.Onto
import Derived.Lib.EndianBits
namespace Go.Proofs.Ybulkfbw.lawS0295CRecords
open Go.ChangeShapes Go.WideShapes Go.ChangeAt Go.RowKit
set_option linter.unusedVariables false
theorem info5 : (Yba.prog.info? 5).map (fun i => (i.zero, i.size, i.bytes)) = some (some (.int .u8 0), 1, 1) := by kernel_rfl

theorem hi24 (x y : Int) (hx₀ : 0 ≤ x) (hx : x % 16777216 = 0) (hx₁ : x < 4294967296) (hy₀ : 0 ≤ y) (hy : y < 16777216) : bits .or .u32 x y = x + y :=
  bits_join .u32 32 (by decide) wraps_u32 24 x y hx₀ hx hx₁ hy₀ hy (by omega)
theorem hi16 (x y : Int) (hx₀ : 0 ≤ x) (hx : x % 65536 = 0) (hx₁ : x < 4294967296) (hy₀ : 0 ≤ y) (hy : y < 65536) : bits .or .u32 x y = x + y :=
  bits_join .u32 32 (by decide) wraps_u32 16 x y hx₀ hx hx₁ hy₀ hy (by omega)
theorem hi8 (x y : Int) (hx₀ : 0 ≤ x) (hx : x % 256 = 0) (hx₁ : x < 4294967296) (hy₀ : 0 ≤ y) (hy : y < 256) : bits .or .u32 x y = x + y :=
  bits_join .u32 32 (by decide) wraps_u32 8 x y hx₀ hx hx₁ hy₀ hy (by omega)
theorem hi32 (x y : Int) (hx₀ : 0 ≤ x) (hx : x % 4294967296 = 0) (hx₁ : x < 18446744073709551616) (hy₀ : 0 ≤ y) (hy : y < 4294967296) : bits .or .u64 x y = x + y :=
  bits_join .u64 64 (by decide) wraps_u64 32 x y hx₀ hx hx₁ hy₀ hy (by omega)
theorem or4 (b0 b1 b2 b3 : Int) (r0 : 0 ≤ b0 ∧ b0 < 256) (r1 : 0 ≤ b1 ∧ b1 < 256) (r2 : 0 ≤ b2 ∧ b2 < 256) (r3 : 0 ≤ b3 ∧ b3 < 256) :
    bits .or .u32 (bits .or .u32 (bits .or .u32 (b0 * 16777216) (b1 * 65536)) (b2 * 256)) b3 = b3 + b2 * 256 + b1 * 65536 + b0 * 16777216 := by
  rw [hi24 (b0 * 16777216) (b1 * 65536) (by omega) (by omega) (by omega) (by omega) (by omega), hi16 (b0 * 16777216 + b1 * 65536) (b2 * 256) (by omega) (by omega) (by omega) (by omega) (by omega),
    hi8 (b0 * 16777216 + b1 * 65536 + b2 * 256) b3 (by omega) (by omega) (by omega) (by omega) (by omega)]
  omega
theorem ret_int {k : IntKind} {a b : Int} (h : a = b) : Ending.returned (.int k a) = .returned (.int k b) := by rw [h]

set_option maxRecDepth 100000 in
theorem be32_any (g o n c : Nat) (b0 b1 b2 b3 : Int) (w : World) (hn : 4 ≤ n) (r0 : 0 ≤ b0 ∧ b0 < 256) (r1 : 0 ≤ b1 ∧ b1 < 256) (r2 : 0 ≤ b2 ∧ b2 < 256) (r3 : 0 ≤ b3 ∧ b3 < 256)
    (c0 : w.cell? ⟨g, o, none⟩ = some (.int .u8 b0)) (c1 : w.cell? ⟨g, o + 1, none⟩ = some (.int .u8 b1)) (c2 : w.cell? ⟨g, o + 2, none⟩ = some (.int .u8 b2)) (c3 : w.cell? ⟨g, o + 3, none⟩ = some (.int .u8 b3)) :
    Calls Yba.prog 17 #[.slice (some ⟨g, o, none⟩) n c] w fun e w' => e = .returned (.int .u32 (b3 + b2 * 256 + b1 * 65536 + b0 * 16777216)) ∧ ∃ q, w' = w.drewN q := by
  have q0 : (0 : Nat) < n := by omega
  have q1 : (1 : Int) < (n : Int) := by omega
  have q2 : (2 : Int) < (n : Int) := by omega
  have q3 : (3 : Int) < (n : Int) := by omega
  obtain ⟨r00, r01⟩ := r0; obtain ⟨r10, r11⟩ := r1; obtain ⟨r20, r21⟩ := r2; obtain ⟨r30, r31⟩ := r3
  go_enter Yba.func17, Yba.ntmps17
  go_wp2
  go_quiet (fail)
  go_wp2
  go_ret
  exact ⟨ret_int (or4 b0 b1 b2 b3 ⟨r00, r01⟩ ⟨r10, r11⟩ ⟨r20, r21⟩ ⟨r30, r31⟩), _, rfl⟩

/-- The number that four bytes spell, the greatest first. -/
def num4 (f : Nat → Int) (o : Nat) : Int := f (o + 3) + f (o + 2) * 256 + f (o + 1) * 65536 + f o * 16777216

theorem num4_range (f : Nat → Int) (o : Nat) (h : ∀ j, j < o + 4 → 0 ≤ f j ∧ f j < 256) : 0 ≤ num4 f o ∧ num4 f o < 4294967296 := by
  have h0 := h o (by omega); have h1 := h (o + 1) (by omega); have h2 := h (o + 2) (by omega); have h3 := h (o + 3) (by omega)
  unfold num4
  omega

theorem or8 (hi lo : Int) (rh : 0 ≤ hi ∧ hi < 4294967296) (rl : 0 ≤ lo ∧ lo < 4294967296) : bits .or .u64 (hi * 4294967296) lo = lo + hi * 4294967296 := by
  rw [hi32 (hi * 4294967296) lo (by omega) (by omega) (by omega) (by omega) (by omega)]
  omega

set_option maxRecDepth 100000 in
theorem be64_any (g o n c : Nat) (f : Nat → Int) (w : World) (hn : 8 ≤ n) (hnc : n ≤ c) (hf : ∀ j, j < 8 → 0 ≤ f j ∧ f j < 256) (hc : ∀ j, j < 8 → w.cell? ⟨g, o + j, none⟩ = some (.int .u8 (f j))) :
    Calls Yba.prog 18 #[.slice (some ⟨g, o, none⟩) n c] w fun e w' => e = .returned (.int .u64 (num4 f 4 + num4 f 0 * 4294967296)) ∧ ∃ q, w' = w.drewN q := by
  have rh := num4_range f 0 (fun j hj => hf j (by omega))
  have rl := num4_range f 4 (fun j hj => hf j (by omega))
  have HH : Hid (∀ q c' : Nat, Calls Yba.prog 17 #[.slice (some ⟨g, o, none⟩) 4 c'] (w.drewN q) fun e w' => e = .returned (.int .u32 (num4 f 0)) ∧ ∃ q', w' = (w.drewN q).drewN q') := fun q c' =>
    be32_any g o 4 c' (f 0) (f 1) (f 2) (f 3) (w.drewN q) (by omega) (hf 0 (by omega)) (hf 1 (by omega)) (hf 2 (by omega)) (hf 3 (by omega)) (hc 0 (by omega)) (hc 1 (by omega)) (hc 2 (by omega)) (hc 3 (by omega))
  have HL : Hid (∀ q c' : Nat, Calls Yba.prog 17 #[.slice (some ⟨g, o + 4, none⟩) 4 c'] (w.drewN q) fun e w' => e = .returned (.int .u32 (num4 f 4)) ∧ ∃ q', w' = (w.drewN q).drewN q') := fun q c' =>
    be32_any g (o + 4) 4 c' (f 4) (f 5) (f 6) (f 7) (w.drewN q) (by omega) (hf 4 (by omega)) (hf 5 (by omega)) (hf 6 (by omega)) (hf 7 (by omega)) (hc 4 (by omega)) (hc 5 (by omega)) (hc 6 (by omega)) (hc 7 (by omega))
  clear hc hf
  generalize num4 f 0 = hi at *
  generalize num4 f 4 = lo at *
  obtain ⟨rh0, rh1⟩ := rh; obtain ⟨rl0, rl1⟩ := rl
  have q4 : (4 : Int) ≤ (c : Int) := by omega
  have q8 : (8 : Int) ≤ (c : Int) := by omega
  have q0 : ¬ c = 0 := by omega
  have qq : ¬ c = 4 := by omega
  go_enter Yba.func18, Yba.ntmps18
  go_wp2
  go_quiet (first
    | (go_at_call_of 17 (some (Addr.mk g o none)); exact Calls.quiet_of (HH.out _ _))
    | (go_at_call 17; exact Calls.quiet_of (HL.out _ _)))
  go_wp2
  go_ret
  exact ⟨ret_int (or8 hi lo ⟨rh0, rh1⟩ ⟨rl0, rl1⟩), _, rfl⟩

/-- A slice of the call's own, four bytes on. -/
def b4 (v : Int) : List Value := [.int .u8 (v / 16777216), .int .u8 (v / 65536 % 256), .int .u8 (v / 256 % 256), .int .u8 (v % 256)]

set_option maxRecDepth 100000 in
theorem app32_any (base n : Nat) (sv : Value) (xs : List Value) (v : Int) (w : World) (h0 : 0 ≤ v) (h1 : v < 4294967296) (hown : w.ownsRow base 5 1 sv n xs) (hbase : base ≤ w.heap.size) (hn : n ≤ 20000) :
    Calls Yba.prog 34 #[.agg #[], sv, .int .u32 v] w fun e w' => ∃ v', e = .returned v' ∧ w'.ownsRow base 5 1 v' (n + 4) (xs ++ b4 v) ∧ w.grownBy w' sv.ownBlock := by
  have HO : Hid (w.ownsRow base 5 1 sv n xs) := hown
  have HC : Hid (∀ (a : Obj) (j : Nat) (u : Value), (b4 v)[j]? = some u → ((w.alloc a).alloc (.cells (b4 v).toArray 5)).cell? ((⟨w.heap.size + 1, 0, none⟩ : Addr).add j) = some u) := by
    intro a j u hu
    rw [Addr.add_lit, Nat.zero_add]
    have := World.cell?_alloc_new (w.alloc a) (b4 v).toArray 5 j
    simp only [World.size_alloc] at this
    rw [this]
    simpa using hu
  have H1 : Hid (∀ u ∈ b4 v, u.oneCell' = true) := by
    intro u hu
    simp [b4] at hu
    rcases hu with rfl | rfl | rfl | rfl <;> rfl
  clear hown
  go_enter Yba.func34, Yba.ntmps34
  go_wp2_with (first
    | (at_builtin; obtain ⟨i0, hi, hz0, hz1, hz2⟩ := info_parts info5; go_must (refine wpList_append_own _ rfl (.tmp 7) (.tmp 19) 22 rfl base 5 i0 (.int .u8 0) 1 1 Yba.underlying22 hi hz0 hz1 hz2 rfl (by decide) _ n xs rfl ((HO.out.alloc _).alloc _) ⟨w.heap.size + 1, 0, none⟩ 4 4 (b4 v) rfl rfl (HC.out _) H1.out (by unfold maxLen; omega) (by omega) (by simp; omega) ?_); clear hi hz0 hz1 hz2 i0; intro v' w1 hown' hgrow _))
  go_ret
  exact ⟨v', rfl, hown', ((World.grownBy_alloc w _ _).trans (World.grownBy_alloc _ _ _)).trans hgrow⟩

def b8 (v : Int) : List Value := [.int .u8 (v / 72057594037927936), .int .u8 (v / 281474976710656 % 256), .int .u8 (v / 1099511627776 % 256), .int .u8 (v / 4294967296 % 256), .int .u8 (v / 16777216 % 256), .int .u8 (v / 65536 % 256), .int .u8 (v / 256 % 256), .int .u8 (v % 256)]

set_option maxRecDepth 100000 in
theorem app64_any (base n : Nat) (sv : Value) (xs : List Value) (v : Int) (w : World) (h0 : 0 ≤ v) (h1 : v < 18446744073709551616) (hown : w.ownsRow base 5 1 sv n xs) (hbase : base ≤ w.heap.size) (hn : n ≤ 20000) :
    Calls Yba.prog 35 #[.agg #[], sv, .int .u64 v] w fun e w' => ∃ v', e = .returned v' ∧ w'.ownsRow base 5 1 v' (n + 8) (xs ++ b8 v) ∧ w.grownBy w' sv.ownBlock := by
  have HO : Hid (w.ownsRow base 5 1 sv n xs) := hown
  have HC : Hid (∀ (a : Obj) (j : Nat) (u : Value), (b8 v)[j]? = some u → ((w.alloc a).alloc (.cells (b8 v).toArray 5)).cell? ((⟨w.heap.size + 1, 0, none⟩ : Addr).add j) = some u) := by
    intro a j u hu
    rw [Addr.add_lit, Nat.zero_add]
    have := World.cell?_alloc_new (w.alloc a) (b8 v).toArray 5 j
    simp only [World.size_alloc] at this
    rw [this]
    simpa using hu
  have H1 : Hid (∀ u ∈ b8 v, u.oneCell' = true) := by
    intro u hu
    simp [b8] at hu
    rcases hu with rfl | rfl | rfl | rfl | rfl | rfl | rfl | rfl <;> rfl
  clear hown
  go_enter Yba.func35, Yba.ntmps35
  go_wp2_with (first
    | (at_builtin; obtain ⟨i0, hi, hz0, hz1, hz2⟩ := info_parts info5; go_must (refine wpList_append_own _ rfl (.tmp 7) (.tmp 31) 22 rfl base 5 i0 (.int .u8 0) 1 1 Yba.underlying22 hi hz0 hz1 hz2 rfl (by decide) _ n xs rfl ((HO.out.alloc _).alloc _) ⟨w.heap.size + 1, 0, none⟩ 8 8 (b8 v) rfl rfl (HC.out _) H1.out (by unfold maxLen; omega) (by omega) (by simp; omega) ?_); clear hi hz0 hz1 hz2 i0; intro v' w1 hown' hgrow _))
  go_ret
  exact ⟨v', rfl, hown', ((World.grownBy_alloc w _ _).trans (World.grownBy_alloc _ _ _)).trans hgrow⟩

theorem own_form {w : World} {base : Nat} {e : TypeId} {size : Nat} {v : Value} {n : Nat} {xs : List Value} (h : w.ownsRow base e size v n xs) (hn : 0 < n) :
    ∃ g cap, v = .slice (some ⟨g, 0, none⟩) n cap ∧ base ≤ g ∧ g < w.heap.size ∧ n ≤ cap := by
  rcases h.2 with ⟨_, h0⟩ | ⟨g, cap, cur, hv, hb, hg, hc, _⟩
  · omega
  · exact ⟨g, cap, hv, hb, (Array.getElem?_eq_some_iff.1 hg).1, hc⟩
theorem own_shape {w : World} {base : Nat} {e : TypeId} {size : Nat} {v : Value} {n : Nat} {xs : List Value} (h : w.ownsRow base e size v n xs) :
    ∃ ao cap, v = .slice ao n cap ∧ ∀ k, v.ownBlock = some k → base ≤ k := by
  have hb := fun k hk => (h.lt k hk).1
  rcases h.2 with ⟨hv, h0⟩ | ⟨g, cap, cur, hv, _⟩
  · exact ⟨none, 0, by rw [hv, h0], hb⟩
  · exact ⟨_, _, hv, hb⟩
theorem grown_cell {w w' : World} {row : Option Nat} (h : w.grownBy w' row) (b o : Nat) (hb : b < w.heap.size) (hne : some b ≠ row) : w'.cell? ⟨b, o, none⟩ = w.cell? ⟨b, o, none⟩ :=
  World.cell?_of_block (h.block b hb hne)
theorem grown_frozen {w w' : World} {row : Option Nat} (h : w.grownBy w' row) (b o : Nat) (hb : b < w.heap.size) (hne : some b ≠ row) : w'.frozen? ⟨b, o, none⟩ = w.frozen? ⟨b, o, none⟩ :=
  World.frozen?_of_block (h.block b hb hne)
theorem grown_of_drew {w w' : World} {row : Option Nat} (h : w.drew.grownBy w' row) : w.grownBy w' row := ⟨h.os, h.tape, h.output, h.size, h.block⟩
theorem grown_setCell (w : World) (a : Addr) (u : Value) : w.grownBy (w.setCell a u) (some a.block) :=
  ⟨rfl, rfl, rfl, by simp, fun k _ hne => Below.heap_setCell _ _ _ _ (fun e => hne (by rw [e]))⟩

set_option maxRecDepth 100000 in
theorem int_any (eb base n : Nat) (sv : Value) (xs : List Value) (v : Int) (w : World) (hv0 : -2147483648 ≤ v) (hv1 : v ≤ 2147483647) (c0 : w.cell? ⟨eb, 0, none⟩ = some sv) (f0 : w.frozen? ⟨eb, 0, none⟩ = false)
    (hown : w.ownsRow base 5 1 sv n xs) (hbase : base ≤ w.heap.size) (heb : eb < base) (hn : n ≤ 20000) :
    Calls Yba.prog 26 #[.pointer (some ⟨eb, 0, none⟩), .int .i32 v] w fun e w' => e = .returned (.tuple #[]) ∧ ∃ v' w1, w.grownBy w1 sv.ownBlock ∧ w1.grownBy w' (some eb) ∧
      w'.cell? ⟨eb, 0, none⟩ = some v' ∧ w'.frozen? ⟨eb, 0, none⟩ = false ∧ w'.ownsRow base 5 1 v' (n + 4) (xs ++ b4 (v % 4294967296)) := by
  obtain ⟨ao, cap, hs, hblk⟩ := own_shape hown
  subst hs
  have hne : some eb ≠ (Value.slice ao n cap).ownBlock := fun e => by have := hblk eb e.symm; omega
  have hel : eb < w.heap.size := World.block_lt_of_cell? w _ c0
  have HA : Hid (∀ W : World, W.ownsRow base 5 1 (.slice ao n cap) n xs → base ≤ W.heap.size → Calls Yba.prog 34 #[.agg #[], .slice ao n cap, .int .u32 (v % 4294967296)] W fun e w' => ∃ v', e = .returned v' ∧ w'.ownsRow base 5 1 v' (n + 4) (xs ++ b4 (v % 4294967296)) ∧ W.grownBy w' (Value.slice ao n cap).ownBlock) :=
    fun W h hb => app32_any base n _ xs (v % 4294967296) W (by omega) (by omega) h hb hn
  have HO : Hid (w.drew.ownsRow base 5 1 (.slice ao n cap) n xs) := hown
  clear hown
  go_enter Yba.func26, Yba.ntmps26
  go_wp2
  go_region_with (first
    | (go_at_call 34; refine (HA.out _ HO.out hbase).mono ?_; rintro e w1 ⟨v', rfl, hown1, hgrow1⟩; obtain ⟨g2, cap2, hv', hg2, hg2', hc2⟩ := own_form hown1 (by omega); subst hv'; have s1 : w1.cell? ⟨eb, 0, none⟩ = some (.slice ao n cap) := (grown_cell hgrow1 eb 0 hel hne).trans c0; have s2 : w1.frozen? ⟨eb, 0, none⟩ = false := (grown_frozen hgrow1 eb 0 hel hne).trans f0; have HO1 : Hid (w1.ownsRow base 5 1 (.slice (some ⟨g2, 0, none⟩) (n + 4) cap2) (n + 4) (xs ++ b4 (v % 4294967296))) := hown1; have HG1 : Hid (w.drew.grownBy w1 (Value.slice ao n cap).ownBlock) := hgrow1; clear hown1 hgrow1))
  all_goals
    go_end0
    exact ⟨rfl, _, w1, grown_of_drew HG1.out, grown_setCell w1 ⟨eb, 0, none⟩ _, World.cell?_setCell_same _ _ _ s1, (World.frozen?_setCell _ _ _ _).trans s2, ownsRow_setCell_below HO1.out (by exact heb) _⟩

set_option maxRecDepth 100000 in
theorem long_any (eb base n : Nat) (sv : Value) (xs : List Value) (v : Int) (w : World) (hv0 : -9223372036854775808 ≤ v) (hv1 : v ≤ 9223372036854775807) (c0 : w.cell? ⟨eb, 0, none⟩ = some sv) (f0 : w.frozen? ⟨eb, 0, none⟩ = false)
    (hown : w.ownsRow base 5 1 sv n xs) (hbase : base ≤ w.heap.size) (heb : eb < base) (hn : n ≤ 20000) :
    Calls Yba.prog 27 #[.pointer (some ⟨eb, 0, none⟩), .int .i64 v] w fun e w' => e = .returned (.tuple #[]) ∧ ∃ v' w1, w.grownBy w1 sv.ownBlock ∧ w1.grownBy w' (some eb) ∧
      w'.cell? ⟨eb, 0, none⟩ = some v' ∧ w'.frozen? ⟨eb, 0, none⟩ = false ∧ w'.ownsRow base 5 1 v' (n + 8) (xs ++ b8 (v % 18446744073709551616)) := by
  obtain ⟨ao, cap, hs, hblk⟩ := own_shape hown
  subst hs
  have hne : some eb ≠ (Value.slice ao n cap).ownBlock := fun e => by have := hblk eb e.symm; omega
  have hel : eb < w.heap.size := World.block_lt_of_cell? w _ c0
  have HA : Hid (∀ W : World, W.ownsRow base 5 1 (.slice ao n cap) n xs → base ≤ W.heap.size → Calls Yba.prog 35 #[.agg #[], .slice ao n cap, .int .u64 (v % 18446744073709551616)] W fun e w' => ∃ v', e = .returned v' ∧ w'.ownsRow base 5 1 v' (n + 8) (xs ++ b8 (v % 18446744073709551616)) ∧ W.grownBy w' (Value.slice ao n cap).ownBlock) :=
    fun W h hb => app64_any base n _ xs (v % 18446744073709551616) W (by omega) (by omega) h hb hn
  have HO : Hid (w.drew.ownsRow base 5 1 (.slice ao n cap) n xs) := hown
  clear hown
  go_enter Yba.func27, Yba.ntmps27
  go_wp2
  go_region_with (first
    | (go_at_call 35; refine (HA.out _ HO.out hbase).mono ?_; rintro e w1 ⟨v', rfl, hown1, hgrow1⟩; obtain ⟨g2, cap2, hv', hg2, hg2', hc2⟩ := own_form hown1 (by omega); subst hv'; have s1 : w1.cell? ⟨eb, 0, none⟩ = some (.slice ao n cap) := (grown_cell hgrow1 eb 0 hel hne).trans c0; have s2 : w1.frozen? ⟨eb, 0, none⟩ = false := (grown_frozen hgrow1 eb 0 hel hne).trans f0; have HO1 : Hid (w1.ownsRow base 5 1 (.slice (some ⟨g2, 0, none⟩) (n + 8) cap2) (n + 8) (xs ++ b8 (v % 18446744073709551616))) := hown1; have HG1 : Hid (w.drew.grownBy w1 (Value.slice ao n cap).ownBlock) := hgrow1; clear hown1 hgrow1))
  all_goals
    go_end0
    exact ⟨rfl, _, w1, grown_of_drew HG1.out, grown_setCell w1 ⟨eb, 0, none⟩ _, World.cell?_setCell_same _ _ _ s1, (World.frozen?_setCell _ _ _ _).trans s2, ownsRow_setCell_below HO1.out (by exact heb) _⟩
end Go.Proofs.Ybulkfbw.lawS0295CRecords
