/-
  LawS0295CRecords: the plain part: what the records are while the map is ranged over; bytes read back. By an AI agent.
-/
import Derived.Maps.RangeWalk
import Derived.Sort.KeysCollected
namespace Go.Proofs.Ybulkfbw.lawS0295CRecords
open Go.Maps (Keyed)
set_option linter.unusedVariables false

/-- The records that have been written while the map D is ranged over: each an entry of D that is no longer to come, no key twice, none forgotten. -/
structure Recs (D : DataW Unit) (left : Lit → Bool) (rs : List (Int × Int)) : Prop where
  mem : ∀ p ∈ rs, (Lit.int .i64 p.1).wf = true ∧ (Lit.int .i64 p.2).wf = true ∧ Maps.has D (.int .i64 p.1) = true ∧ left (.int .i64 p.1) = false ∧ ∀ zd, D.atKey (.int .i64 p.1) zd = .lit (.int .i64 p.2)
  apart : rs.Pairwise (fun p q => p.1 ≠ q.1)
  all : ∀ x, Maps.has D (.int .i64 x) = true → left (.int .i64 x) = true ∨ x ∈ rs.map Prod.fst

theorem Recs.start (D : DataW Unit) : Recs D (Maps.has D) [] := ⟨by simp, List.Pairwise.nil, fun x h => .inl h⟩

theorem Recs.step {D : DataW Unit} {left : Lit → Bool} {rs : List (Int × Int)} (h : Recs D left rs) {x c : Int} (hwx : (Lit.int .i64 x).wf = true) (hwc : (Lit.int .i64 c).wf = true) (hlx : left (.int .i64 x) = true)
    (hat : ∀ zd, D.atKey (.int .i64 x) zd = .lit (.int .i64 c)) : Recs D (fun z => left z && !z.sameKey (.int .i64 x)) (rs ++ [(x, c)]) := by
  have hself : (Lit.int .i64 x).sameKey (.int .i64 x) = true := by simp [Lit.sameKey]
  refine ⟨?_, ?_, ?_⟩
  · intro p hp
    rcases List.mem_append.1 hp with hp | hp
    · obtain ⟨a, b, c, d, e⟩ := h.mem p hp
      exact ⟨a, b, c, by simp [d], e⟩
    · simp at hp
      subst hp
      exact ⟨hwx, hwc, Maps.has_true_of_atKey hat, by simp [hself], hat⟩
  · rw [List.pairwise_append]
    refine ⟨h.apart, by simp, ?_⟩
    intro p hp q hq
    simp at hq
    subst hq
    intro e
    have hd := (h.mem p hp).2.2.2.1
    rw [e, hlx] at hd
    cases hd
  · intro y hy
    rcases h.all y hy with h1 | h1
    · by_cases e : y = x
      · right; simp [e]
      · left
        simp [h1, Lit.sameKey, e]
    · right
      simp only [List.map_append, List.mem_append]
      exact .inl h1

theorem Recs.count {D : DataW Unit} {left : Lit → Bool} {rs : List (Int × Int)} (h : Recs D left rs) (hl : ∀ kl, left kl = false) {P : Program} {k : TypeId} {R : Value → Option (DataW Unit × List MemPlace)} {w : World} {b n : Nat}
    (hown : w.ownsMap P k R b n D) (K : Keyed P k) (hk : P.underlying k = some (.int .i64)) : rs.length = Maps.size D := by
  obtain ⟨es, hD, hpw, _⟩ := hown.entries K
  obtain ⟨es', hD', hko⟩ := hown.keysOf
  obtain rfl : es = es' := by rw [hD] at hD'; simpa using hD'
  subst hD
  have hperm : (rs.map fun p => Lit.int .i64 p.1).Perm (es.map Prod.fst) := by
    refine (List.perm_ext_iff_of_nodup ?_ (List.pairwise_map.2 hpw)).2 fun x => ?_
    · have := h.apart
      simpa [List.Nodup, List.pairwise_map] using this
    · constructor
      · intro hx
        obtain ⟨p, hp, rfl⟩ := List.mem_map.1 hx
        have h3 := (h.mem p hp).2.2.1
        rw [Maps.has_eq, List.any_eq_true] at h3
        obtain ⟨q, hq, hs⟩ := h3
        exact List.mem_map.2 ⟨q, hq, WideAt.sameKey_eq hs⟩
      · intro hx
        obtain ⟨q, hq, rfl⟩ := List.mem_map.1 hx
        obtain ⟨v, hv⟩ := hko q hq
        obtain ⟨y, _, hy, _⟩ := Maps.keyOf_int_inv hk hv
        have h3 : Maps.has (.map es : DataW Unit) (.int .i64 y) = true := by
          rw [Maps.has_eq, List.any_eq_true]
          exact ⟨q, hq, by rw [hy]; simp [Lit.sameKey]⟩
        rcases h.all y h3 with h4 | h4
        · rw [hl] at h4; cases h4
        · obtain ⟨p, hp, he⟩ := List.mem_map.1 h4
          exact List.mem_map.2 ⟨p, hp, by rw [hy, he]⟩
  have hlen := hperm.length_eq
  simpa [Maps.size] using hlen

theorem size_le {D : DataW Unit} {P : Program} {k : TypeId} {R : Value → Option (DataW Unit × List MemPlace)} {w : World} {b n : Nat} (hown : w.ownsMap P k R b n D) : Maps.size D ≤ n := by
  obtain ⟨es, clock, _, _, hs, rfl⟩ := hown
  simpa [Maps.size, length_sorted] using hs

/-- A record's bytes, read back. -/
theorem back4 (v : Int) (h0 : 0 ≤ v) (h1 : v < 4294967296) : v % 256 + v / 256 % 256 * 256 + v / 65536 % 256 * 65536 + v / 16777216 * 16777216 = v := by omega
theorem back8 (v : Int) (h0 : 0 ≤ v) (h1 : v < 18446744073709551616) :
    (v % 256 + v / 256 % 256 * 256 + v / 65536 % 256 * 65536 + v / 16777216 % 256 * 16777216) + (v / 4294967296 % 256 + v / 1099511627776 % 256 * 256 + v / 281474976710656 % 256 * 65536 + v / 72057594037927936 * 16777216) * 4294967296 = v := by omega
end Go.Proofs.Ybulkfbw.lawS0295CRecords
