import Derived.Test.Qxb6613901aJoins
namespace Go.Proofs.Qxb6613901a
open Go Go.RowKit

/-- A slice of JoinIn that reads as js. -/
def JoinsAt (w : World) (v : Value) (js : List JP) : Prop :=
  ∃ ao cap, v = .slice ao js.length cap ∧ js.length ≤ cap ∧ (0 < js.length → ∃ b off, b < w.heap.size ∧ ao = some ⟨b, off, none⟩ ∧ ∀ k j, js[k]? = some j →
    w.cell? ⟨b, off + k * 4, none⟩ = some (.int .i64 j.id) ∧ w.cell? ⟨b, off + k * 4 + 1, none⟩ = some (.bool j.lost) ∧ w.cell? ⟨b, off + k * 4 + 2, none⟩ = some (.int .i64 j.next) ∧ w.cell? ⟨b, off + k * 4 + 3, none⟩ = some (.int .i64 j.wait))

/-- Due again, behind one call. -/
theorem due_step1 (lk : Int → Bool) (step : Int) (room : Bool) (an : Int → Bool) (i : Nat) (j : JP) (hw : 0 ≤ j.wait) :
    due lk step room (step1 lk step room an i j) = (due lk step room j && !an i && decide (j.wait = 0)) := by
  obtain ⟨id, lost, next, wait⟩ := j
  simp only at hw
  cases lost <;> cases hl : lk id <;> cases room <;> cases ha : an i <;> by_cases hn : next ≤ step <;> by_cases hw0 : wait = 0 <;> simp [step1, due, hl, ha, hn, hw0] <;> omega

theorem step1_step1 (lk : Int → Bool) (step : Int) (room : Bool) (an : Int → Bool) (i : Nat) (j : JP) (hw : 0 ≤ j.wait) :
    step1 lk step room an i (step1 lk step room an i j) = step1 lk step room an i j := by
  obtain ⟨id, lost, next, wait⟩ := j
  simp only at hw
  cases lost <;> cases hl : lk id <;> cases room <;> cases ha : an i <;> by_cases hn : next ≤ step <;> by_cases hw0 : wait = 0 <;> simp [step1, due, hl, ha, hn, hw0] <;> omega

theorem rj_get (lk : Int → Bool) (step : Int) (room : Bool) (an : Int → Bool) (l : List JP) (i : Nat) (j : JP) (h : l[i]? = some j) : (rj lk step room an l)[i]? = some (step1 lk step room an i j) := by
  simp [rj, h]

theorem rj_length (lk : Int → Bool) (step : Int) (room : Bool) (an : Int → Bool) (l : List JP) : (rj lk step room an l).length = l.length := by simp [rj]

theorem rj_rj (lk : Int → Bool) (step : Int) (room : Bool) (an : Int → Bool) (l : List JP) (hw : ∀ j ∈ l, 0 ≤ j.wait) : rj lk step room an (rj lk step room an l) = rj lk step room an l := by
  apply List.ext_getElem?
  intro i
  cases h : l[i]? with
  | none =>
    have : l.length ≤ i := List.getElem?_eq_none_iff.1 h
    rw [List.getElem?_eq_none (by rw [rj_length, rj_length]; exact this), List.getElem?_eq_none (by rw [rj_length]; exact this)]
  | some j =>
    rw [rj_get _ _ _ _ _ _ _ (rj_get lk step room an l i j h), rj_get lk step room an l i j h, step1_step1 _ _ _ _ _ _ (hw j (List.mem_of_getElem? h))]

theorem rj_wait (lk : Int → Bool) (step : Int) (room : Bool) (an : Int → Bool) (l : List JP) (hw : ∀ j ∈ l, 0 ≤ j.wait ∧ j.wait ≤ 64) : ∀ j ∈ rj lk step room an l, 0 ≤ j.wait ∧ j.wait ≤ 64 := by
  intro j hj
  obtain ⟨i, hi⟩ := List.getElem?_of_mem hj
  cases h : l[i]? with
  | none =>
    have : l.length ≤ i := List.getElem?_eq_none_iff.1 h
    rw [List.getElem?_eq_none (by rw [rj_length]; exact this)] at hi
    cases hi
  | some j0 =>
    rw [rj_get lk step room an l i j0 h] at hi
    simp only [Option.some.injEq] at hi
    subst hi
    have := hw j0 (List.mem_of_getElem? h)
    unfold step1
    split
    · exact this
    · split
      · split
        · exact this
        · simp only; omega
      · exact this

/-- The k-th ask, of a prefix. -/
theorem asks_prefix (lk : Int → Bool) (step : Int) (room : Bool) (l : List JP) (i : Nat) (hi : i ≤ l.length) : ∃ t, asks lk step room l = asks lk step room (l.take i) ++ t := by
  have : ∀ d, i + d ≤ l.length → ∃ t, asks lk step room (l.take (i + d)) = asks lk step room (l.take i) ++ t := by
    intro d
    induction d with
    | zero => intro _; exact ⟨[], by simp⟩
    | succ d ih =>
      intro hd
      obtain ⟨t, ht⟩ := ih (by omega)
      rw [← Nat.add_assoc, asks_take_succ lk step room l (i + d) l[i + d] (List.getElem?_eq_getElem (by omega)), ht]
      exact ⟨_, List.append_assoc _ _ _⟩
  obtain ⟨t, ht⟩ := this (l.length - i) (by omega)
  refine ⟨t, ?_⟩
  rw [← ht, show i + (l.length - i) = l.length by omega, List.take_length]

theorem ask_at (lk : Int → Bool) (step : Int) (room : Bool) (l : List JP) (i : Nat) (j : JP) (h : l[i]? = some j) (hd : due lk step room j = true) :
    (asks lk step room l)[(asks lk step room (l.take i)).length]? = some (i, j.id) ∧ (asks lk step room (l.take i)).length < (asks lk step room l).length := by
  have hi := (List.getElem?_eq_some_iff.1 h).1
  obtain ⟨t, ht⟩ := asks_prefix lk step room l (i + 1) (by omega)
  rw [asks_take_succ lk step room l i j h, hd] at ht
  simp only [if_true] at ht
  constructor
  · rw [ht, List.append_assoc, List.getElem?_append_right (Nat.le_refl _), Nat.sub_self]; rfl
  · rw [ht]; simp

/-- Which peers have been asked, of the first i. -/
def askL (lk : Int → Bool) (step : Int) (room : Bool) (l : List JP) (i : Nat) : List Bool := (l.take i).map (due lk step room) ++ List.replicate (l.length - i) false

theorem askL_no {lk : Int → Bool} {step : Int} {room : Bool} {l : List JP} {i : Nat} {j : JP} (h : l[i]? = some j) (hd : due lk step room j = false) : askL lk step room l (i + 1) = askL lk step room l i := by
  obtain ⟨hi, rfl⟩ := List.getElem?_eq_some_iff.1 h
  rw [askL, askL, List.take_succ_eq_append_getElem hi, List.map_append, List.append_assoc, show l.length - i = (l.length - (i + 1)) + 1 by omega, List.replicate_succ]
  simp [hd]

theorem askL_yes {lk : Int → Bool} {step : Int} {room : Bool} {l : List JP} {i : Nat} {j : JP} (h : l[i]? = some j) (hd : due lk step room j = true) : askL lk step room l (i + 1) = (askL lk step room l i).set i true := by
  obtain ⟨hi, rfl⟩ := List.getElem?_eq_some_iff.1 h
  have hl : ((l.take i).map (due lk step room)).length = i := by simp; omega
  rw [askL, askL, List.take_succ_eq_append_getElem hi, List.map_append, List.append_assoc, show l.length - i = (l.length - (i + 1)) + 1 by omega, List.replicate_succ, List.set_append_right _ _ (by omega), hl, Nat.sub_self]
  simp [hd]

theorem askL_length (lk : Int → Bool) (step : Int) (room : Bool) (l : List JP) (i : Nat) (hi : i ≤ l.length) : (askL lk step room l i).length = l.length := by simp [askL]; omega

theorem askL_at {lk : Int → Bool} {step : Int} {room : Bool} {l : List JP} {i : Nat} (hi : i < l.length) : (askL lk step room l i)[i]? = some false := by
  have hl : ((l.take i).map (due lk step room)).length = i := by simp; omega
  rw [askL, List.getElem?_append_right (by omega), hl, Nat.sub_self, List.getElem?_replicate, if_pos (by omega)]

theorem askL_end {lk : Int → Bool} {step : Int} {room : Bool} {l : List JP} {i : Nat} {j : JP} (h : l[i]? = some j) : (askL lk step room l l.length)[i]? = some (due lk step room j) := by
  simp [askL, h]

theorem asks_len {lk : Int → Bool} {step : Int} {room : Bool} {l : List JP} {i : Nat} {j : JP} (h : l[i]? = some j) (b : Bool) (hd : due lk step room j = b) :
    (asks lk step room (l.take (i + 1))).length = (asks lk step room (l.take i)).length + (if b then 1 else 0) := by
  rw [asks_take_succ lk step room l i j h, hd]
  cases b <;> simp

end Go.Proofs.Qxb6613901a
