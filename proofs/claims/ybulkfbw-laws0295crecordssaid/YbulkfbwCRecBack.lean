/-
  LawS0295CRecords: the records, read back by the law's two readers. By an AI agent.
-/
import Derived.Test.YbulkfbwCRecEnc
import Derived.ChangeOld
namespace Go.Proofs.Ybulkfbw.lawS0295CRecords
open Go.ChangeShapes Go.WideShapes Go.ChangeAt Go.RowKit
set_option linter.unusedVariables false

theorem rcv_length (p : Int × Int) : (rcv p).length = 12 := rfl

theorem get_flat : ∀ (rs : List (Int × Int)) (j t : Nat) (p : Int × Int), rs[j]? = some p → t < 12 → (rs.flatMap rcv)[12 * j + t]? = (rcv p)[t]?
  | [], j, t, p, h, _ => by simp at h
  | q :: rs, 0, t, p, h, ht => by
    simp at h
    subst h
    rw [List.flatMap_cons, List.getElem?_append_left (by rw [rcv_length]; omega)]
    congr 1
    omega
  | q :: rs, j + 1, t, p, h, ht => by
    have ih := get_flat rs j t p (by simpa using h) ht
    rw [List.flatMap_cons, List.getElem?_append_right (by rw [rcv_length]; omega), rcv_length, ← ih]
    congr 1
    omega

theorem get_all (s : Int) (rs : List (Int × Int)) (j t : Nat) (p : Int × Int) (h : rs[j]? = some p) (ht : t < 12) : (b4 s ++ rs.flatMap rcv)[4 + 12 * j + t]? = (rcv p)[t]? := by
  rw [List.getElem?_append_right (by simp [b4]; omega), ← get_flat rs j t p h ht]
  congr 1
  simp [b4]
  omega

/-- An id as its eight bytes spell it; a number of milliseconds as its four do. -/
def uq (x : Int) : Int := x % 18446744073709551616
def um (c : Int) : Int := wrap32 (c.tdiv 1000000) % 4294967296

def nth8 (v : Int) (j : Nat) : Int := match j with
  | 0 => v / 72057594037927936 | 1 => v / 281474976710656 % 256 | 2 => v / 1099511627776 % 256 | 3 => v / 4294967296 % 256 | 4 => v / 16777216 % 256 | 5 => v / 65536 % 256 | 6 => v / 256 % 256 | _ => v % 256

theorem nth8_range (v : Int) (h0 : 0 ≤ v) (h1 : v < 18446744073709551616) (j : Nat) : 0 ≤ nth8 v j ∧ nth8 v j < 256 := by
  unfold nth8
  split <;> omega

theorem nth8_back (v : Int) (h0 : 0 ≤ v) (h1 : v < 18446744073709551616) : num4 (nth8 v) 4 + num4 (nth8 v) 0 * 4294967296 = v := by
  simp only [num4, nth8]
  exact back8 v h0 h1

section
variable {W : World} {base g cap : Nat} {rs : List (Int × Int)}

theorem head_calls (hrow : W.ownsRow base 5 1 (.slice (some ⟨g, 0, none⟩) (4 + 12 * rs.length) cap) (4 + 12 * rs.length) (b4 (rs.length : Int) ++ rs.flatMap rcv)) (hl : rs.length ≤ 1024) (q c' : Nat) :
    Calls Yba.prog 17 #[.slice (some ⟨g, 0, none⟩) 4 c'] (W.drewN q) fun e w' => e = .returned (.int .u32 (rs.length : Int)) ∧ ∃ q', w' = W.drewN q' := by
  have hc : ∀ j, j < 4 → (W.drewN q).cell? ⟨g, 0 + j, none⟩ = (b4 (rs.length : Int))[j]? := by
    intro j hj
    rw [World.cell?_drewN, Nat.zero_add, hrow.cellAt j (by omega), List.getElem?_append_left (by simp [b4]; omega)]
  have h := be32_any g 0 4 c' ((rs.length : Int) / 16777216) ((rs.length : Int) / 65536 % 256) ((rs.length : Int) / 256 % 256) ((rs.length : Int) % 256) (W.drewN q) (by omega) (by omega) (by omega) (by omega) (by omega) (hc 0 (by omega)) (hc 1 (by omega)) (hc 2 (by omega)) (hc 3 (by omega))
  refine h.mono ?_
  rintro e w' ⟨rfl, q', rfl⟩
  exact ⟨ret_int (back4 _ (by omega) (by omega)), q + q', by rw [World.drewN_drewN]⟩

theorem id_calls (hrow : W.ownsRow base 5 1 (.slice (some ⟨g, 0, none⟩) (4 + 12 * rs.length) cap) (4 + 12 * rs.length) (b4 (rs.length : Int) ++ rs.flatMap rcv)) (j : Nat) (p : Int × Int) (hp : rs[j]? = some p) (q c' : Nat) (hc' : 8 ≤ c') :
    Calls Yba.prog 18 #[.slice (some ⟨g, 4 + 12 * j, none⟩) 8 c'] (W.drewN q) fun e w' => e = .returned (.int .u64 (uq p.1)) ∧ ∃ q', w' = W.drewN q' := by
  have hj : j < rs.length := (List.getElem?_eq_some_iff.1 hp).1
  have hc : ∀ t, t < 8 → (W.drewN q).cell? ⟨g, 4 + 12 * j + t, none⟩ = some (.int .u8 (nth8 (uq p.1) t)) := by
    intro t ht
    rw [World.cell?_drewN, hrow.cellAt (4 + 12 * j + t) (by omega), get_all _ rs j t p hp (by omega)]
    match t, ht with
    | 0, _ => rfl | 1, _ => rfl | 2, _ => rfl | 3, _ => rfl | 4, _ => rfl | 5, _ => rfl | 6, _ => rfl | 7, _ => rfl
  have hu0 : 0 ≤ uq p.1 := by unfold uq; omega
  have hu1 : uq p.1 < 18446744073709551616 := by unfold uq; omega
  have h := be64_any g (4 + 12 * j) 8 c' (nth8 (uq p.1)) (W.drewN q) (by omega) hc' (fun t _ => nth8_range _ hu0 hu1 t) hc
  refine h.mono ?_
  rintro e w' ⟨rfl, q', rfl⟩
  exact ⟨ret_int (nth8_back _ hu0 hu1), q + q', by rw [World.drewN_drewN]⟩

theorem ms_calls (hrow : W.ownsRow base 5 1 (.slice (some ⟨g, 0, none⟩) (4 + 12 * rs.length) cap) (4 + 12 * rs.length) (b4 (rs.length : Int) ++ rs.flatMap rcv)) (j : Nat) (p : Int × Int) (hp : rs[j]? = some p) (q c' : Nat) :
    Calls Yba.prog 17 #[.slice (some ⟨g, 4 + 12 * j + 8, none⟩) 4 c'] (W.drewN q) fun e w' => e = .returned (.int .u32 (um p.2)) ∧ ∃ q', w' = W.drewN q' := by
  have hj : j < rs.length := (List.getElem?_eq_some_iff.1 hp).1
  have hc : ∀ t, t < 4 → (W.drewN q).cell? ⟨g, 4 + 12 * j + 8 + t, none⟩ = (b4 (um p.2))[t]? := by
    intro t ht
    rw [World.cell?_drewN, hrow.cellAt (4 + 12 * j + 8 + t) (by omega), Nat.add_assoc (4 + 12 * j), get_all _ rs j (8 + t) p hp (by omega)]
    match t, ht with
    | 0, _ => rfl | 1, _ => rfl | 2, _ => rfl | 3, _ => rfl
  have hu0 : 0 ≤ um p.2 := by unfold um; omega
  have hu1 : um p.2 < 4294967296 := by unfold um; omega
  have h := be32_any g (4 + 12 * j + 8) 4 c' (um p.2 / 16777216) (um p.2 / 65536 % 256) (um p.2 / 256 % 256) (um p.2 % 256) (W.drewN q) (by omega) (by omega) (by omega) (by omega) (by omega) (hc 0 (by omega)) (hc 1 (by omega)) (hc 2 (by omega)) (hc 3 (by omega))
  refine h.mono ?_
  rintro e w' ⟨rfl, q', rfl⟩
  exact ⟨ret_int (back4 _ hu0 hu1), q + q', by rw [World.drewN_drewN]⟩
end
end Go.Proofs.Ybulkfbw.lawS0295CRecords
