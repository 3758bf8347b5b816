import Derived.Test.Qxb6613901aLeads2
namespace Go.Proofs.Qxb6613901a
open Go Go.RowKit

theorem asc_pair (l : List Int) : ascB l = true ↔ l.Pairwise (· ≤ ·) := by
  rw [ascB_iff, List.pairwise_iff_getElem]
  constructor
  · intro h i j hi hj hij
    have := h i j hij hj
    simpa [hi, hj] using this
  · intro h i j hij hj
    have := h i j (by omega) hj hij
    simpa [show i < l.length by omega, hj] using this

theorem asc_insert (ids : List Int) (x : Int) (pos : Nat) (hs : ascB ids = true) (hp : pos ≤ ids.length) (h1 : ∀ i, i < pos → ids.getD i 0 ≤ x) (h2 : ∀ y, ids[pos]? = some y → x ≤ y) :
    ascB (ids.take pos ++ [x] ++ ids.drop pos) = true := by
  rw [asc_pair] at hs ⊢
  have hs' := hs
  rw [← List.take_append_drop pos ids, List.pairwise_append] at hs'
  obtain ⟨p1, p2, p3⟩ := hs'
  rw [List.append_assoc, List.pairwise_append]
  refine ⟨p1, ?_, ?_⟩
  · rw [List.singleton_append, List.pairwise_cons]
    refine ⟨fun b hb => ?_, p2⟩
    cases hd : ids.drop pos with
    | nil => rw [hd] at hb; cases hb
    | cons y t =>
      have hy : ids[pos]? = some y := by
        have := congrArg (fun l => l[0]?) hd
        simpa using this
      have hxy := h2 y hy
      rw [hd] at hb p2
      rw [List.pairwise_cons] at p2
      rcases List.mem_cons.1 hb with rfl | hb
      · exact hxy
      · have := p2.1 b hb; omega
  · intro a ha b hb
    rw [List.singleton_append, List.mem_cons] at hb
    rcases hb with rfl | hb
    · obtain ⟨i, hi, rfl⟩ := List.mem_iff_getElem.1 ha
      have hi' : i < pos := by simp at hi; omega
      have := h1 i hi'
      simpa [show i < ids.length by omega] using this
    · exact p3 a ha b hb

theorem has_insert (ids : List Int) (x q : Int) (pos : Nat) : has (ids.take pos ++ [x] ++ ids.drop pos) q = (has ids q || (q == x)) := by
  unfold has
  rw [Bool.eq_iff_iff]
  simp only [List.contains_iff_mem, List.mem_append, List.mem_singleton, Bool.or_eq_true, beq_iff_eq]
  constructor
  · rintro ((h | h) | h)
    · exact .inl (List.mem_of_mem_take h)
    · exact .inr h
    · exact .inl (List.mem_of_mem_drop h)
  · rintro (h | h)
    · have : q ∈ ids.take pos ++ ids.drop pos := by rw [List.take_append_drop]; exact h
      rcases List.mem_append.1 this with h | h
      · exact .inl (.inl h)
      · exact .inr h
    · exact .inl (.inr h)

theorem ld_insert (ids : List Int) (self x q : Int) (pos : Nat) : ld (ids.take pos ++ [x] ++ ids.drop pos) self q = (ld ids self q && !(q == x)) := by
  simp only [ld, has_insert]
  cases (q == self) <;> cases has ids q <;> cases (q == x) <;> rfl

def struck (ls : List Int) (x : Int) : List Int := ls.filter fun q => !(q == x)

theorem leads_insert (ids : List Int) (self x : Int) (pos : Nat) (ls : List Int) : leads (ids.take pos ++ [x] ++ ids.drop pos) self ls = leads ids self (struck ls x) := by
  induction ls with
  | nil => rfl
  | cons q t ih =>
    simp only [leads, struck, List.any_cons, List.filter_cons] at ih ⊢
    rw [ld_insert, ih]
    cases hq : (q == x)
    · simp
    · simp

theorem struck_len (ls : List Int) (x : Int) : (struck ls x).length ≤ ls.length := List.length_filter_le _ _
theorem struck_take_succ (ls : List Int) (x q : Int) (k : Nat) (h : ls[k]? = some q) : struck (ls.take (k + 1)) x = struck (ls.take k) x ++ (if q == x then [] else [q]) := by
  obtain ⟨hk, rfl⟩ := List.getElem?_eq_some_iff.1 h
  rw [struck, struck, List.take_succ_eq_append_getElem hk, List.filter_append]
  cases hq : (ls[k] == x) <;> simp [hq]

theorem ints_set (l : List Int) (k : Nat) (x : Int) : (ints l).set k (.int .i64 x) = ints (l.set k x) := by simp [ints, List.map_set]

theorem row_has {w : World} {g n cap k : Nat} {l : List Int} (h : w.ownsRow 0 2 1 (.slice (some ⟨g, 0, none⟩) n cap) n (ints l)) (hk : k < n) : ∃ z, w.cell? ⟨g, k, none⟩ = some (.int .i64 z) := by
  have hl := h.1
  rw [ints_length] at hl
  have hk' : k < l.length := by omega
  exact ⟨l[k], by rw [h.cellAt k (by omega)]; simp [ints, hk']⟩

end Go.Proofs.Qxb6613901a
