/-
  LawS0307AReturned: what holds at the heads of the first loops, and what a round does to it. By an AI agent.
-/
import Derived.Test.YbulkfiiRows
import Derived.Test.YbulkfiiTake
import Derived.WalkKit
import Derived.WalkSpells
import Derived.ProofKit
import Derived.OpenShut
import Derived.Below
import Derived.BigQuiet
import Derived.Outline
import Derived.LoopN
import Derived.Deep.QuietTactic
import Derived.Deep.RegionLaw
import Derived.Deep.Onto
import Derived.Deep.Light
import Derived.Maps.OwnSet
namespace Go.Proofs.Ybulkfii.lawS0307AReturned
open Go.ChangeShapes Go.WideShapes Go.ChangeAt Go.RowKit
set_option linter.unusedVariables false

def key (q : Nat) : ByteArray := match q with
  | 1 => ⟨#[97]⟩ | 2 => ⟨#[98]⟩ | 3 => ⟨#[99]⟩ | 4 => ⟨#[100]⟩ | _ => ⟨#[]⟩

theorem key_any (q : Nat) (hq : q < 5) (w : World) : Calls Yba.prog 4 #[.int .i64 q] w fun e w' => e = .returned (.string (key q)) ∧ w' = w := by
  match q, hq with
  | 0, _ => go_enter Yba.func4, Yba.ntmps4; go_wp2; go_ret; exact ⟨rfl, rfl⟩
  | 1, _ => go_enter Yba.func4, Yba.ntmps4; go_wp2; go_ret; exact ⟨rfl, rfl⟩
  | 2, _ => go_enter Yba.func4, Yba.ntmps4; go_wp2; go_ret; exact ⟨rfl, rfl⟩
  | 3, _ => go_enter Yba.func4, Yba.ntmps4; go_wp2; go_ret; exact ⟨rfl, rfl⟩
  | 4, _ => go_enter Yba.func4, Yba.ntmps4; go_wp2; go_ret; exact ⟨rfl, rfl⟩

theorem info3 : (Yba.prog.info? 3).map (fun i => (i.zero, i.size, i.bytes)) = some (some (.int .i64 0), 1, 8) := by kernel_rfl
theorem info37 : (Yba.prog.info? 37).map (fun i => (i.zero, i.size, i.bytes)) = some (some (.pointer none), 1, 8) := by kernel_rfl
theorem info53 : (Yba.prog.info? 53).map (fun i => (i.zero, i.size, i.bytes)) = some (some (.agg #[.pointer none, .int .i64 0]), 2, 16) := by kernel_rfl


/-- What the tests of the present byte give. -/
def hb (p : Int) (j : Nat) : Bool := match j with
  | 0 => bits .and .u8 p 1 != 0 | 1 => bits .and .u8 p 2 != 0 | 2 => bits .and .u8 p 4 != 0 | 3 => bits .and .u8 p 8 != 0 | _ => bits .and .u8 p 16 != 0
def kW (V : Nat → Int) (i : Nat) : Nat := (V i % 5).toNat
/-- have[j] behind i writes. -/
def hv (p : Int) (V : Nat → Int) (i j : Nat) : Bool := hb p j || (List.range i).any (fun t => kW V t == j)
theorem hv_succ (p : Int) (V : Nat → Int) (i j : Nat) : hv p V (i + 1) j = (hv p V i j || kW V i == j) := by
  simp [hv, List.range_succ, Bool.or_assoc]
theorem kW_lt (V : Nat → Int) (i : Nat) (h : 0 ≤ V i) : kW V i < 5 := by unfold kW; omega

theorem own_shape {w : World} {base : Nat} {e : TypeId} {size : Nat} {v : Value} {n : Nat} {xs : List Value} (h : w.ownsRow base e size v n xs) : ∃ ao cap, v = .slice ao n cap := by
  rcases h.2 with ⟨hv, h0⟩ | ⟨g, cap, cur, hv, _⟩
  · exact ⟨none, 0, by rw [hv, h0]⟩
  · exact ⟨_, _, hv⟩

def ptr (b : Nat) : Value := .pointer (some ⟨b, 0, none⟩)
/-- An operation in memory. -/
def opArr (s : ByteArray) (pd : Bool) (line : Int) : Array Value := #[.string ⟨#[]⟩, .int .i64 0, .int .i64 0, .string s, .slice none 0 0, .int .i64 0, .int .i64 0, .bool pd, .bool false, .int .i64 line]

structure St2 (w : World) (A : Nat → Int) (p : Int) (V : Nat → Int) (Pd : Nat → Bool) (n i : Nat) (v : Value) (bs : List Nat) (wr : World) : Prop where
  below : Below w.heap.size w wr
  ages : ∀ j, j < 5 → wr.cell? ⟨w.heap.size, j, none⟩ = some (.int .i64 (A j))
  hav : ∀ j, j < 5 → wr.cell? ⟨w.heap.size + 1, j, none⟩ = some (.bool (hv p V i j)) ∧ wr.frozen? ⟨w.heap.size + 1, j, none⟩ = false
  rw : wr.cell? ⟨w.heap.size + 1 + 1, 2, none⟩ = some v ∧ wr.frozen? ⟨w.heap.size + 1 + 1, 2, none⟩ = false
  rr : wr.cell? ⟨w.heap.size + 1 + 1, 3, none⟩ = some (.slice none 0 0) ∧ wr.frozen? ⟨w.heap.size + 1 + 1, 3, none⟩ = false
  idx : ∀ t, t < n → wr.cell? ⟨w.heap.size + 1 + 1 + 1, t, none⟩ = some (.int .i64 (if t < i then kW V t else 0)) ∧ wr.frozen? ⟨w.heap.size + 1 + 1 + 1, t, none⟩ = false
  row : wr.ownsRow (w.heap.size + 4) 37 1 v i (bs.map ptr)
  len : bs.length = i
  opsb : ∀ b ∈ bs, w.heap.size + 4 ≤ b
  ops : ∀ t b, bs[t]? = some b → wr.heap[b]? = some (Obj.cells (opArr (key (kW V t)) (Pd t) (t + 1)) 44 (0, 0))
  size : w.heap.size + 4 ≤ wr.heap.size

/-- A cut: what holds behind a statement is said once; the frame goes by a name. -/
def postN (R : Act → World → Prop) : Exit → Act → World → Prop
  | .normal, a, w => R a w
  | _, _, _ => False
theorem wp_then {P : Program} {c : Code} {Q : Exit → Act → World → Prop} {a : Act} {w : World} (R : Act → Act → World → Prop)
    (h : ∀ a0, a0 = a → Code.wp P c (postN (R a0)) a0 w) (k : ∀ a0 a' w', a0 = a → R a0 a' w' → Q .normal a' w') : Code.wp P c Q a w :=
  Code.wp_mono (fun e a' w' hr => by cases e <;> first | exact k a a' w' rfl hr | exact (hr : False).elim) (h a rfl)
theorem list18 {us : List Value} (h : us.length = 18) : ∃ u0 u1 u2 u3 u4 u5 u6 u7 u8 u9 u10 u11 u12 u13 u14 u15 u16 u17, us = [u0, u1, u2, u3, u4, u5, u6, u7, u8, u9, u10, u11, u12, u13, u14, u15, u16, u17] := by
  match us, h with
  | [u0, u1, u2, u3, u4, u5, u6, u7, u8, u9, u10, u11, u12, u13, u14, u15, u16, u17], _ => exact ⟨u0, u1, u2, u3, u4, u5, u6, u7, u8, u9, u10, u11, u12, u13, u14, u15, u16, u17, rfl⟩

def putAll : Act → List Nat → List Value → Act
  | a, s :: ss, u :: us => putAll (a.put (some s) u) ss us
  | a, _, _ => a

theorem own_form {w : World} {base : Nat} {e : TypeId} {size : Nat} {v : Value} {n : Nat} {xs : List Value} (h : w.ownsRow base e size v n xs) (hn : 0 < n) :
    ∃ g cap, v = .slice (some ⟨g, 0, none⟩) n cap ∧ base ≤ g ∧ g < w.heap.size := by
  rcases h.2 with ⟨_, h0⟩ | ⟨g, cap, cur, hv, hb, hg, _⟩
  · omega
  · exact ⟨g, cap, hv, hb, (Array.getElem?_eq_some_iff.1 hg).1⟩
theorem grown_cell {w w' : World} {row : Option Nat} (h : w.grownBy w' row) (b o : Nat) (hb : b < w.heap.size) (hne : some b ≠ row) : w'.cell? ⟨b, o, none⟩ = w.cell? ⟨b, o, none⟩ :=
  World.cell?_of_block (h.block b hb hne)
theorem grown_frozen {w w' : World} {row : Option Nat} (h : w.grownBy w' row) (b o : Nat) (hb : b < w.heap.size) (hne : some b ≠ row) : w'.frozen? ⟨b, o, none⟩ = w.frozen? ⟨b, o, none⟩ :=
  World.frozen?_of_block (h.block b hb hne)
/-- What holds behind 'r.f = append(r.f, &operation{..})': the slots that it wrote are scratch; the field (block rb, cell o) holds a slice that owns one pointer more, to the new operation. -/
def CutA (W : World) (rb o base k : Nat) (ss : List Nat) (v : Value) (op : Array Value) (ps : List Value) (a0 a' : Act) (w' : World) : Prop :=
  ∃ (us : List Value) (v5 : Value) (w5 : World), us.length = ss.length ∧ a' = putAll a0 ss us ∧ w' = w5.setCell ⟨rb, o, none⟩ v5 ∧ w5.ownsRow base 37 1 v5 (k + 1) (ps ++ [ptr W.heap.size]) ∧
    (((W.alloc (.cells op 44)).alloc (.cells #[ptr W.heap.size] 37)).drew).grownBy w5 v.ownBlock

theorem one_new (Wx : World) (o : Obj) (u : Value) : ∀ j x, [u][j]? = some x → ((Wx.alloc o).alloc (.cells #[u] 37)).cell? ((⟨Wx.heap.size + 1, 0, none⟩ : Addr).add j) = some x := by
  intro j x hx
  have h := cell_one_new (Wx.alloc o) u 37 j x hx
  simpa using h
theorem one_ptr (b : Nat) : ∀ u ∈ [ptr b], u.oneCell' = true := by intro u hu; simp at hu; subst hu; rfl

theorem step_append {P : Program} {ops : Array Oper} {o : Oper} {a : Act} {w : World} {K : Act → World → Prop} {Q : Exit → Act → World → Prop} {E : Prop}
    (hgd : o.guard = none) (s x : Operand) (t : TypeId) (ho : o.op = .call { callee := .builtin .append, args := #[s, x], argTypes := #[t, t] })
    (base : Nat) (e : TypeId) (i : TypeInfo) (z : Value) (size bytes : Nat) (ht : P.underlying t = some (.slice e)) (hi : P.info? e = some i) (hz : i.zero = some z)
    (hsize : i.size = size) (hby : i.bytes = bytes) (hzs : z.cells.size = size) (hsz : 0 < size)
    (v : Value) (n : Nat) (xs : List Value) (hs : a.eval s = v) (hown : w.ownsRow base e size v n xs)
    (ad : Addr) (m c : Nat) (news : List Value) (hx : a.eval x = .slice (some ad) m c) (hl : news.length = m * size) (hnews : ∀ j u, news[j]? = some u → w.cell? (ad.add j) = some u) (h1 : ∀ u ∈ news, u.oneCell' = true)
    (h63 : n + m ≤ maxLen) (hbytes : (n + m) * bytes ≤ 140737488355328) (hbase : base ≤ w.heap.size)
    (h : ∀ v' w', w'.ownsRow base e size v' (n + m) (xs ++ news) → w.grownBy w' v.ownBlock → K (a.put o.dst v') w') :
    if Region.wanted o (yielded ops a.tmps) = true then Oper.wp P o a w K Q else E := by
  have hw : Region.wanted o (yielded ops a.tmps) = true := by simp [Region.wanted, hgd]
  rw [if_pos hw]
  exact wp_append_own w s x t ho base e i z size bytes ht hi hz hsize hby hzs hsz v n xs hs hown ad m c news hx hl hnews h1 h63 hbytes hbase fun v' w' h2 h3 _ => h v' w' h2 h3


/-- What is kept from wr, over two stores into old blocks, a new block, the operation's two blocks, the append and the store of the slice. -/
theorem kept_block {wr Wx w5 : World} {a1 a2 : Addr} {x1 x2 : Value} {o o1 o2 : Obj} {row : Option Nat} (hWx : Wx = ((wr.setCell a1 x1).setCell a2 x2).alloc o) (hg : (((Wx.alloc o1).alloc o2).drew).grownBy w5 row) {b : Nat} (hb : b < wr.heap.size) (hrow : some b ≠ row) :
    w5.heap[b]? = ((wr.setCell a1 x1).setCell a2 x2).heap[b]? := by
  have hs : Wx.heap.size = wr.heap.size + 1 := by rw [hWx]; simp
  rw [hg.block b (by simp; omega) hrow]
  show ((Wx.alloc o1).alloc o2).heap[b]? = _
  rw [Below.heap_alloc _ _ _ (by simp; omega), Below.heap_alloc _ _ _ (by omega), hWx, Below.heap_alloc _ _ _ (by simp; omega)]

theorem St2.step {w : World} {A : Nat → Int} {p : Int} {V : Nat → Int} {Pd : Nat → Bool} {n k : Nat} {v : Value} {bs : List Nat} {wr : World} (h : St2 w A p V Pd n k v bs wr) (hlt : k < n) {q : Nat} (hq : kW V k = q) (hq5 : q < 5) {Wx : World}
    (hWx : Wx = ((wr.setCell ⟨w.heap.size + 1 + 1 + 1, k, none⟩ (.int .i64 q)).setCell ⟨w.heap.size + 1, q, none⟩ (.bool true)).alloc (.cells #[.int .u8 (V k), .bool (Pd k)] 36)) {v5 : Value} {w5 : World}
    (hown5 : w5.ownsRow (w.heap.size + 4) 37 1 v5 (k + 1) (bs.map ptr ++ [ptr Wx.heap.size]))
    (hgrow5 : (((Wx.alloc (.cells (opArr (key q) (Pd k) (k + 1)) 44)).alloc (.cells #[ptr Wx.heap.size] 37)).drew).grownBy w5 v.ownBlock) :
    St2 w A p V Pd n (k + 1) v5 (bs ++ [Wx.heap.size]) (w5.setCell ⟨w.heap.size + 1 + 1, 2, none⟩ v5) := by
  have hsz := h.size
  have hWs : Wx.heap.size = wr.heap.size + 1 := by rw [hWx]; simp
  have hown : ∀ e, v.ownBlock = some e → w.heap.size + 4 ≤ e ∧ e < wr.heap.size := fun e he => h.row.lt e he
  have hno : ∀ b, b < w.heap.size + 4 → some b ≠ v.ownBlock := fun b hb e => by have := (hown b e.symm).1; omega
  have kb : ∀ b, b < wr.heap.size → some b ≠ v.ownBlock → w5.heap[b]? = ((wr.setCell ⟨w.heap.size + 1 + 1 + 1, k, none⟩ (.int .i64 q)).setCell ⟨w.heap.size + 1, q, none⟩ (.bool true)).heap[b]? := fun b hb hr => kept_block hWx hgrow5 hb hr
  have kc : ∀ b o, b < wr.heap.size → some b ≠ v.ownBlock → w5.cell? ⟨b, o, none⟩ = ((wr.setCell ⟨w.heap.size + 1 + 1 + 1, k, none⟩ (.int .i64 q)).setCell ⟨w.heap.size + 1, q, none⟩ (.bool true)).cell? ⟨b, o, none⟩ := fun b o hb hr => World.cell?_of_block (kb b hb hr)
  have kf : ∀ b o, b < wr.heap.size → some b ≠ v.ownBlock → w5.frozen? ⟨b, o, none⟩ = wr.frozen? ⟨b, o, none⟩ := fun b o hb hr => by
    have := World.frozen?_of_block (w := (wr.setCell ⟨w.heap.size + 1 + 1 + 1, k, none⟩ (.int .i64 q)).setCell ⟨w.heap.size + 1, q, none⟩ (.bool true)) (w' := w5) (a := ⟨b, o, none⟩) (kb b hb hr)
    rw [this, World.frozen?_setCell, World.frozen?_setCell]
  have far : ∀ (b o : Nat), b ≠ w.heap.size + 1 → b ≠ w.heap.size + 1 + 1 + 1 → ((wr.setCell ⟨w.heap.size + 1 + 1 + 1, k, none⟩ (.int .i64 q)).setCell ⟨w.heap.size + 1, q, none⟩ (.bool true)).cell? ⟨b, o, none⟩ = wr.cell? ⟨b, o, none⟩ := fun b o h1 h2 => by
    rw [World.cell?_setCell_far _ _ _ _ (fun e => h1 e.symm), World.cell?_setCell_far _ _ _ _ (fun e => h2 e.symm)]
  have hw5s : wr.heap.size < w5.heap.size := by have := hgrow5.size; simp at this; omega
  refine ⟨?_, ?_, ?_, ?_, ?_, ?_, ?_, ?_, ?_, ?_, ?_⟩
  · refine Below.setCell ?_ (by show w.heap.size ≤ w.heap.size + 1 + 1; omega) _
    refine Below.grown (w := (((Wx.alloc (.cells (opArr (key q) (Pd k) (k + 1)) 44)).alloc (.cells #[ptr Wx.heap.size] 37)).drew)) ?_ hgrow5 (by simp; omega) (fun e he => by have := (hown e he).1; omega)
    refine Below.drew ?_
    refine Below.alloc (Below.alloc ?_ (by omega) _) (by simp; omega) _
    rw [hWx]
    exact ((h.below.setCell (by simp; omega) _).setCell (by simp) _).alloc (by simp; omega) _
  · intro j hj
    rw [World.cell?_setCell_other _ _ _ _ (by simp), kc _ _ (by omega) (hno _ (by omega)), far _ _ (by omega) (by omega)]
    exact h.ages j hj
  · intro j hj
    refine ⟨?_, ?_⟩
    · rw [World.cell?_setCell_other _ _ _ _ (by simp), kc _ _ (by omega) (hno _ (by omega)), hv_succ, hq]
      by_cases hjq : q = j
      · subst hjq
        rw [World.cell?_setCell_same (u := .bool (hv p V k q)) _ _ _ (by rw [World.cell?_setCell_other _ _ _ _ (by simp)]; exact (h.hav q hq5).1)]
        simp
      · rw [World.cell?_setCell_other _ _ _ _ (by simp), World.cell?_setCell_other _ _ _ _ (by simp), (h.hav j hj).1]
        simp [hjq]
    · rw [World.frozen?_setCell, kf _ _ (by omega) (hno _ (by omega))]
      exact (h.hav j hj).2
  · refine ⟨?_, ?_⟩
    · exact World.cell?_setCell_same (u := v) _ _ _ (by rw [kc _ _ (by omega) (hno _ (by omega)), far _ _ (by omega) (by omega)]; exact h.rw.1)
    · rw [World.frozen?_setCell, kf _ _ (by omega) (hno _ (by omega))]
      exact h.rw.2
  · refine ⟨?_, ?_⟩
    · rw [World.cell?_setCell_other _ _ _ _ (by simp), kc _ _ (by omega) (hno _ (by omega)), far _ _ (by omega) (by omega)]
      exact h.rr.1
    · rw [World.frozen?_setCell, kf _ _ (by omega) (hno _ (by omega))]
      exact h.rr.2
  · intro t ht
    refine ⟨?_, ?_⟩
    · rw [World.cell?_setCell_other _ _ _ _ (by simp), kc _ _ (by omega) (hno _ (by omega)), World.cell?_setCell_other _ _ _ _ (by simp)]
      by_cases htk : k = t
      · subst htk
        rw [World.cell?_setCell_same _ _ _ (h.idx k ht).1, if_pos (by omega), hq]
      · rw [World.cell?_setCell_other _ _ _ _ (by simp), (h.idx t ht).1]
        by_cases h1 : t < k
        · rw [if_pos h1, if_pos (by omega)]
        · rw [if_neg h1, if_neg (by omega)]
    · rw [World.frozen?_setCell, kf _ _ (by omega) (hno _ (by omega))]
      exact (h.idx t ht).2
  · have := ownsRow_setCell_below hown5 (a := ⟨w.heap.size + 1 + 1, 2, none⟩) (by simp) v5
    simpa using this
  · simp [h.len]
  · intro b hb
    rcases List.mem_append.1 hb with hb | hb
    · exact h.opsb b hb
    · simp at hb; omega
  · intro t b hb
    rcases Nat.lt_or_ge t bs.length with ht | ht
    · rw [List.getElem?_append_left ht] at hb
      have hop := h.ops t b hb
      have hbb := h.opsb b (List.mem_of_getElem? hb)
      have hlb : b < wr.heap.size := (Array.getElem?_eq_some_iff.1 hop).1
      have hrow : some b ≠ v.ownBlock := by
        rcases h.row.2 with ⟨hv, _⟩ | ⟨g, cap, cur, hv, _, hg, _⟩
        · rw [hv]; simp [Value.ownBlock]
        · rw [hv]
          intro e
          simp [Value.ownBlock] at e
          subst e
          rw [hop] at hg
          simp at hg
      rw [Below.heap_setCell _ _ _ _ (by simp; omega), kb b hlb hrow, Below.heap_setCell _ _ _ _ (by simp; omega), Below.heap_setCell _ _ _ _ (by simp; omega)]
      exact hop
    · have hl := h.len
      rw [List.getElem?_append_right ht] at hb
      have ht0 : t - bs.length = 0 := by
        rcases Nat.eq_zero_or_pos (t - bs.length) with h0 | h0
        · exact h0
        · rw [List.getElem?_eq_none (by simp; omega)] at hb; cases hb
      rw [ht0] at hb
      simp at hb
      subst hb
      have htk : t = k := by omega
      subst htk
      have hrow : some Wx.heap.size ≠ v.ownBlock := fun e => by have := (hown _ e.symm).2; omega
      rw [Below.heap_setCell _ _ _ _ (by simp; omega), hgrow5.block _ (by simp; omega) hrow]
      show ((Wx.alloc (.cells (opArr (key q) (Pd t) (t + 1)) 44)).alloc (.cells #[ptr Wx.heap.size] 37)).heap[Wx.heap.size]? = _
      rw [Below.heap_alloc _ _ _ (by simp), hq]
      exact heap_alloc_new Wx _
  · simp; omega

theorem St2.start {w : World} {A : Nat → Int} {p : Int} (V : Nat → Int) (Pd : Nat → Bool) {n : Nat} {w1 : World}
    (hown : w1.ownsRow (w.heap.size + 3) 3 1 (.slice (some ⟨w.heap.size + 1 + 1 + 1, 0, none⟩) n n) n (madeCells #[.int .i64 0] (n * 1)).toList)
    (hgrow : (((w.alloc (.cells #[.int .i64 (A 0), .int .i64 (A 1), .int .i64 (A 2), .int .i64 (A 3), .int .i64 (A 4)] 24)).alloc (.cells #[.bool (bits .and .u8 p 1 != 0), .bool (bits .and .u8 p 2 != 0), .bool (bits .and .u8 p 4 != 0), .bool (bits .and .u8 p 8 != 0), .bool (bits .and .u8 p 16 != 0)] 25)).alloc (.cells #[.int .i64 0, .bool false, .slice none 0 0, .slice none 0 0, .map none] 33)).grownBy w1 none) :
    St2 w A p V Pd n 0 (.slice none 0 0) [] w1 := by
  have hs := hgrow.size
  have hl := (hown.lt (w.heap.size + 1 + 1 + 1) rfl).2
  simp at hs
  have kc : ∀ b o, b < w.heap.size + 1 + 1 + 1 → w1.cell? ⟨b, o, none⟩ = (((w.alloc (.cells #[.int .i64 (A 0), .int .i64 (A 1), .int .i64 (A 2), .int .i64 (A 3), .int .i64 (A 4)] 24)).alloc (.cells #[.bool (bits .and .u8 p 1 != 0), .bool (bits .and .u8 p 2 != 0), .bool (bits .and .u8 p 4 != 0), .bool (bits .and .u8 p 8 != 0), .bool (bits .and .u8 p 16 != 0)] 25)).alloc (.cells #[.int .i64 0, .bool false, .slice none 0 0, .slice none 0 0, .map none] 33)).cell? ⟨b, o, none⟩ := fun b o hb => grown_cell hgrow b o (by simp; omega) (by simp)
  have kf : ∀ b o, b < w.heap.size + 1 + 1 + 1 → w1.frozen? ⟨b, o, none⟩ = (((w.alloc (.cells #[.int .i64 (A 0), .int .i64 (A 1), .int .i64 (A 2), .int .i64 (A 3), .int .i64 (A 4)] 24)).alloc (.cells #[.bool (bits .and .u8 p 1 != 0), .bool (bits .and .u8 p 2 != 0), .bool (bits .and .u8 p 4 != 0), .bool (bits .and .u8 p 8 != 0), .bool (bits .and .u8 p 16 != 0)] 25)).alloc (.cells #[.int .i64 0, .bool false, .slice none 0 0, .slice none 0 0, .map none] 33)).frozen? ⟨b, o, none⟩ := fun b o hb => grown_frozen hgrow b o (by simp; omega) (by simp)
  refine ⟨?_, ?_, ?_, ?_, ?_, ?_, World.ownsRow_nil _ _ _ _, rfl, by simp, by simp, by omega⟩
  · exact ((((Below.refl _ _).alloc (Nat.le_refl _) _).alloc (by simp) _).alloc (by simp; omega) _).grown hgrow (by simp; omega) (by simp)
  · intro j hj
    rw [kc _ _ (by omega), World.cell?_alloc_past _ _ _ (by simp; omega), World.cell?_alloc_past _ _ _ (by simp), World.cell?_alloc_new]
    match j, hj with
    | 0, _ => rfl | 1, _ => rfl | 2, _ => rfl | 3, _ => rfl | 4, _ => rfl
  · intro j hj
    refine ⟨?_, ?_⟩
    · rw [kc _ _ (by omega), World.cell?_alloc_past _ _ _ (by simp), World.cell?_alloc_at _ _ _ _ (by simp)]
      match j, hj with
      | 0, _ => simp [hv, hb] | 1, _ => simp [hv, hb] | 2, _ => simp [hv, hb] | 3, _ => simp [hv, hb] | 4, _ => simp [hv, hb]
    · rw [kf _ _ (by omega), World.frozen?_alloc_past _ _ _ (by simp), World.frozen?_alloc_at _ _ _ _ (by simp)]
  · refine ⟨?_, ?_⟩
    · rw [kc _ _ (by omega), World.cell?_alloc_at _ _ _ _ (by simp)]; rfl
    · rw [kf _ _ (by omega), World.frozen?_alloc_at _ _ _ _ (by simp)]
  · refine ⟨?_, ?_⟩
    · rw [kc _ _ (by omega), World.cell?_alloc_at _ _ _ _ (by simp)]; rfl
    · rw [kf _ _ (by omega), World.frozen?_alloc_at _ _ _ _ (by simp)]
  · intro t ht
    refine ⟨?_, hown.frozenAt t⟩
    rw [hown.cellAt t (by omega), toList_madeCells_one]
    simp [ht]

/-- What holds while the reads are laid: nothing of what lay behind the writes turns but the receiver's reads. -/
structure St3 (w w2 : World) (n : Nat) (v : Value) (R : Nat → Int) (m i : Nat) (v2 : Value) (cs : List Nat) (wr : World) : Prop where
  since : ∀ b, b < w2.heap.size → b ≠ w.heap.size + 1 + 1 → wr.heap[b]? = w2.heap[b]?
  below : Below w.heap.size w wr
  rw : wr.cell? ⟨w.heap.size + 1 + 1, 2, none⟩ = some v
  rr : wr.cell? ⟨w.heap.size + 1 + 1, 3, none⟩ = some v2 ∧ wr.frozen? ⟨w.heap.size + 1 + 1, 3, none⟩ = false
  idx : ∀ t, t < m → wr.cell? ⟨w2.heap.size, t, none⟩ = some (.int .i64 (if t < i then kW R t else 0)) ∧ wr.frozen? ⟨w2.heap.size, t, none⟩ = false
  row : wr.ownsRow (w2.heap.size + 1) 37 1 v2 i (cs.map ptr)
  len : cs.length = i
  opsb : ∀ b ∈ cs, w2.heap.size + 1 ≤ b
  ops : ∀ t b, cs[t]? = some b → wr.heap[b]? = some (Obj.cells (opArr (key (kW R t)) false (n + t + 1)) 44 (0, 0))
  size : w2.heap.size + 1 ≤ wr.heap.size

theorem St3.start {w w2 w3 : World} {A : Nat → Int} {p : Int} {V : Nat → Int} {Pd : Nat → Bool} {n : Nat} {v : Value} {bs : List Nat} (h : St2 w A p V Pd n n v bs w2) (R : Nat → Int) {m : Nat}
    (hown : w3.ownsRow w2.heap.size 3 1 (.slice (some ⟨w2.heap.size, 0, none⟩) m m) m (madeCells #[.int .i64 0] (m * 1)).toList) (hgrow : w2.grownBy w3 none) : St3 w w2 n v R m 0 (.slice none 0 0) [] w3 := by
  have hs := h.size
  have hl := (hown.lt w2.heap.size rfl).2
  refine ⟨fun b hb _ => hgrow.block b hb (by simp), h.below.grown hgrow (by omega) (by simp), ?_, ⟨?_, ?_⟩, ?_, World.ownsRow_nil _ _ _ _, rfl, by simp, by simp, by omega⟩
  · rw [grown_cell hgrow _ _ (by omega) (by simp)]; exact h.rw.1
  · rw [grown_cell hgrow _ _ (by omega) (by simp)]; exact h.rr.1
  · rw [grown_frozen hgrow _ _ (by omega) (by simp)]; exact h.rr.2
  · intro t ht
    refine ⟨?_, hown.frozenAt t⟩
    rw [hown.cellAt t (by omega), toList_madeCells_one]
    simp [ht]

theorem St3.step {w w2 : World} {A : Nat → Int} {p : Int} {V : Nat → Int} {Pd : Nat → Bool} {n : Nat} {v : Value} {bs : List Nat} (h2 : St2 w A p V Pd n n v bs w2) {R : Nat → Int} {m k : Nat} {v2 : Value} {cs : List Nat} {wr : World} (h : St3 w w2 n v R m k v2 cs wr) (hlt : k < m)
    {q : Nat} (hq : kW R k = q) {Wx : World} (hWx : Wx = wr.setCell ⟨w2.heap.size, k, none⟩ (.int .i64 q)) {v5 : Value} {w5 : World}
    (hown5 : w5.ownsRow (w2.heap.size + 1) 37 1 v5 (k + 1) (cs.map ptr ++ [ptr Wx.heap.size]))
    (hgrow5 : (((Wx.alloc (.cells (opArr (key q) false (n + k + 1)) 44)).alloc (.cells #[ptr Wx.heap.size] 37)).drew).grownBy w5 v2.ownBlock) :
    St3 w w2 n v R m (k + 1) v5 (cs ++ [Wx.heap.size]) (w5.setCell ⟨w.heap.size + 1 + 1, 3, none⟩ v5) := by
  have hsz := h.size
  have hsz2 := h2.size
  have hWs : Wx.heap.size = wr.heap.size := by rw [hWx]; simp
  have hown : ∀ e, v2.ownBlock = some e → w2.heap.size + 1 ≤ e ∧ e < wr.heap.size := fun e he => h.row.lt e he
  have hno : ∀ b, b < w2.heap.size + 1 → some b ≠ v2.ownBlock := fun b hb e => by have := (hown b e.symm).1; omega
  have kb : ∀ b, b < wr.heap.size → some b ≠ v2.ownBlock → w5.heap[b]? = (wr.setCell ⟨w2.heap.size, k, none⟩ (.int .i64 q)).heap[b]? := fun b hb hr => by
    rw [hgrow5.block b (by simp; omega) hr]
    show ((Wx.alloc _).alloc _).heap[b]? = _
    rw [Below.heap_alloc _ _ _ (by simp; omega), Below.heap_alloc _ _ _ (by omega), hWx]
  have kc : ∀ b o, b < wr.heap.size → some b ≠ v2.ownBlock → w5.cell? ⟨b, o, none⟩ = (wr.setCell ⟨w2.heap.size, k, none⟩ (.int .i64 q)).cell? ⟨b, o, none⟩ := fun b o hb hr => World.cell?_of_block (kb b hb hr)
  have kf : ∀ b o, b < wr.heap.size → some b ≠ v2.ownBlock → w5.frozen? ⟨b, o, none⟩ = wr.frozen? ⟨b, o, none⟩ := fun b o hb hr => by
    have := World.frozen?_of_block (w := wr.setCell ⟨w2.heap.size, k, none⟩ (.int .i64 q)) (w' := w5) (a := ⟨b, o, none⟩) (kb b hb hr)
    rw [this, World.frozen?_setCell]
  have hw5s : wr.heap.size < w5.heap.size := by have := hgrow5.size; simp at this; omega
  refine ⟨?_, ?_, ?_, ?_, ?_, ?_, ?_, ?_, ?_, ?_⟩
  · intro b hb hb2
    rw [Below.heap_setCell _ _ _ _ hb2, kb b (by omega) (hno b (by omega)), Below.heap_setCell _ _ _ _ (by simp; omega)]
    exact h.since b hb hb2
  · refine Below.setCell ?_ (by show w.heap.size ≤ w.heap.size + 1 + 1; omega) _
    refine Below.grown (w := (((Wx.alloc (.cells (opArr (key q) false (n + k + 1)) 44)).alloc (.cells #[ptr Wx.heap.size] 37)).drew)) ?_ hgrow5 (by simp; omega) (fun e he => by have := (hown e he).1; omega)
    refine Below.drew ?_
    refine Below.alloc (Below.alloc ?_ (by omega) _) (by simp; omega) _
    rw [hWx]
    exact h.below.setCell (by show w.heap.size ≤ w2.heap.size; omega) _
  · rw [World.cell?_setCell_other _ _ _ _ (by simp), kc _ _ (by omega) (hno _ (by omega)), World.cell?_setCell_far _ _ _ _ (by show w2.heap.size ≠ w.heap.size + 1 + 1; omega)]
    exact h.rw
  · refine ⟨?_, ?_⟩
    · exact World.cell?_setCell_same (u := v2) _ _ _ (by rw [kc _ _ (by omega) (hno _ (by omega)), World.cell?_setCell_far _ _ _ _ (by show w2.heap.size ≠ w.heap.size + 1 + 1; omega)]; exact h.rr.1)
    · rw [World.frozen?_setCell, kf _ _ (by omega) (hno _ (by omega))]
      exact h.rr.2
  · intro t ht
    refine ⟨?_, ?_⟩
    · rw [World.cell?_setCell_far _ _ _ _ (by show w.heap.size + 1 + 1 ≠ w2.heap.size; omega), kc _ _ (by omega) (hno _ (by omega))]
      by_cases htk : k = t
      · subst htk
        rw [World.cell?_setCell_same _ _ _ (h.idx k ht).1, if_pos (by omega), hq]
      · rw [World.cell?_setCell_other _ _ _ _ (by simp), (h.idx t ht).1]
        by_cases h1 : t < k
        · rw [if_pos h1, if_pos (by omega)]
        · rw [if_neg h1, if_neg (by omega)]
    · rw [World.frozen?_setCell, kf _ _ (by omega) (hno _ (by omega))]
      exact (h.idx t ht).2
  · have := ownsRow_setCell_below hown5 (a := ⟨w.heap.size + 1 + 1, 3, none⟩) (by show w.heap.size + 1 + 1 < w2.heap.size + 1; omega) v5
    simpa using this
  · simp [h.len]
  · intro b hb
    rcases List.mem_append.1 hb with hb | hb
    · exact h.opsb b hb
    · simp at hb; omega
  · intro t b hb
    rcases Nat.lt_or_ge t cs.length with ht | ht
    · rw [List.getElem?_append_left ht] at hb
      have hop := h.ops t b hb
      have hbb := h.opsb b (List.mem_of_getElem? hb)
      have hlb : b < wr.heap.size := (Array.getElem?_eq_some_iff.1 hop).1
      have hrow : some b ≠ v2.ownBlock := by
        rcases h.row.2 with ⟨hv, _⟩ | ⟨g, cap, cur, hv, _, hg, _⟩
        · rw [hv]; simp [Value.ownBlock]
        · rw [hv]
          intro e
          simp [Value.ownBlock] at e
          subst e
          rw [hop] at hg
          simp at hg
      rw [Below.heap_setCell _ _ _ _ (by show b ≠ w.heap.size + 1 + 1; omega), kb b hlb hrow, Below.heap_setCell _ _ _ _ (by show b ≠ w2.heap.size; omega)]
      exact hop
    · have hl := h.len
      rw [List.getElem?_append_right ht] at hb
      have ht0 : t - cs.length = 0 := by
        rcases Nat.eq_zero_or_pos (t - cs.length) with h0 | h0
        · exact h0
        · rw [List.getElem?_eq_none (by simp; omega)] at hb; cases hb
      rw [ht0] at hb
      simp at hb
      subst hb
      have htk : t = k := by omega
      subst htk
      have hrow : some Wx.heap.size ≠ v2.ownBlock := fun e => by have := (hown _ e.symm).2; omega
      rw [Below.heap_setCell _ _ _ _ (by show Wx.heap.size ≠ w.heap.size + 1 + 1; omega), hgrow5.block _ (by simp; omega) hrow]
      show ((Wx.alloc (.cells (opArr (key q) false (n + t + 1)) 44)).alloc (.cells #[ptr Wx.heap.size] 37)).heap[Wx.heap.size]? = _
      rw [Below.heap_alloc _ _ _ (by simp), hq]
      exact heap_alloc_new Wx _
  · simp; omega
end Go.Proofs.Ybulkfii.lawS0307AReturned
