import Derived.Test.Qxb6613901aMem
namespace Go.Proofs.Qxb6613901a
open Go Go.RowKit

structure JP where
  id : Int
  lost : Bool
  next : Int
  wait : Int

def JP.cells (j : JP) : List Value := [.bool false, .int .i64 j.id, .bool j.lost, .int .i64 j.next, .int .i64 j.wait]
def jcells : List JP → List Value
  | [] => []
  | j :: t => j.cells ++ jcells t

theorem jcells_length (l : List JP) : (jcells l).length = l.length * 5 := by
  induction l with
  | nil => rfl
  | cons j t ih => simp only [jcells, List.length_append, ih, JP.cells, List.length_cons, List.length_nil]; omega

theorem jcells_append (l m : List JP) : jcells (l ++ m) = jcells l ++ jcells m := by
  induction l with
  | nil => rfl
  | cons j t ih => simp only [List.cons_append, jcells, ih, List.append_assoc]

theorem jcells_at (l : List JP) (k f : Nat) (hf : f < 5) (j : JP) (hj : l[k]? = some j) : (jcells l)[k * 5 + f]? = j.cells[f]? := by
  induction l generalizing k with
  | nil => simp at hj
  | cons x t ih =>
    have hx : x.cells.length = 5 := rfl
    cases k with
    | zero =>
      simp at hj
      subst hj
      rw [jcells, List.getElem?_append_left (by rw [hx]; omega)]
      simp
    | succ k =>
      rw [jcells, List.getElem?_append_right (by rw [hx]; omega), hx]
      have e : (k + 1) * 5 + f - 5 = k * 5 + f := by omega
      rw [e]
      exact ih k (by simpa using hj)

theorem jcells_set (l : List JP) (k f : Nat) (hf : f < 5) (u : Value) (j j' : JP) (hj : l[k]? = some j) (hc : j.cells.set f u = j'.cells) :
    (jcells l).set (k * 5 + f) u = jcells (l.set k j') := by
  induction l generalizing k with
  | nil => simp at hj
  | cons x t ih =>
    have hx : x.cells.length = 5 := rfl
    cases k with
    | zero =>
      simp at hj
      subst hj
      simp only [List.set_cons_zero, jcells]
      rw [List.set_append_left _ _ (by rw [hx]; omega)]
      rw [show 0 * 5 + f = f by omega, hc]
    | succ k =>
      simp only [List.set_cons_succ, jcells]
      rw [List.set_append_right _ _ (by rw [hx]; omega), hx, show (k + 1) * 5 + f - 5 = k * 5 + f by omega, ih k (by simpa using hj)]

/-! ### What one call of Rejoin does -/
def due (lk : Int → Bool) (step : Int) (room : Bool) (j : JP) : Bool := j.lost && !lk j.id && decide (j.next ≤ step) && room
def step1 (lk : Int → Bool) (step : Int) (room : Bool) (an : Int → Bool) (i : Nat) (j : JP) : JP :=
  if j.lost && lk j.id then { j with lost := false }
  else if due lk step room j then
    if an i then { j with lost := false } else { j with next := step + min (2 * j.wait) 64, wait := min (2 * j.wait) 64 }
  else j
def rj (lk : Int → Bool) (step : Int) (room : Bool) (an : Int → Bool) (l : List JP) : List JP := l.mapIdx (step1 lk step room an)
def asks (lk : Int → Bool) (step : Int) (room : Bool) (l : List JP) : List (Nat × Int) :=
  (l.mapIdx (fun i j => if due lk step room j then [(i, j.id)] else [])).flatten
def at_ (lk : Int → Bool) (step : Int) (room : Bool) (an : Int → Bool) (l : List JP) (k : Nat) : List JP := rj lk step room an (l.take k) ++ l.drop k

theorem asks_snoc (lk : Int → Bool) (step : Int) (room : Bool) (l : List JP) (j : JP) :
    asks lk step room (l ++ [j]) = asks lk step room l ++ (if due lk step room j then [(l.length, j.id)] else []) := by
  simp [asks, List.mapIdx_append, List.flatten_append]

theorem asks_take_succ (lk : Int → Bool) (step : Int) (room : Bool) (l : List JP) (k : Nat) (j : JP) (hj : l[k]? = some j) :
    asks lk step room (l.take (k + 1)) = asks lk step room (l.take k) ++ (if due lk step room j then [(k, j.id)] else []) := by
  obtain ⟨hk, rfl⟩ := List.getElem?_eq_some_iff.1 hj
  rw [List.take_succ_eq_append_getElem hk, asks_snoc]
  simp [Nat.min_eq_left (Nat.le_of_lt hk)]

theorem at_length (lk : Int → Bool) (step : Int) (room : Bool) (an : Int → Bool) (l : List JP) (k : Nat) : (at_ lk step room an l k).length = l.length := by
  simp [at_, rj]; omega

theorem at_zero (lk : Int → Bool) (step : Int) (room : Bool) (an : Int → Bool) (l : List JP) : at_ lk step room an l 0 = l := by simp [at_, rj]
theorem at_end (lk : Int → Bool) (step : Int) (room : Bool) (an : Int → Bool) (l : List JP) : at_ lk step room an l l.length = rj lk step room an l := by simp [at_]

theorem at_get (lk : Int → Bool) (step : Int) (room : Bool) (an : Int → Bool) (l : List JP) (k : Nat) (hk : k ≤ l.length) : (at_ lk step room an l k)[k]? = l[k]? := by
  have hl : (rj lk step room an (l.take k)).length = k := by simp [rj]; omega
  rw [at_, List.getElem?_append_right (by omega), hl]
  simp

theorem at_succ (lk : Int → Bool) (step : Int) (room : Bool) (an : Int → Bool) (l : List JP) (k : Nat) (j : JP) (hj : l[k]? = some j) :
    at_ lk step room an l (k + 1) = (at_ lk step room an l k).set k (step1 lk step room an k j) := by
  obtain ⟨hk, rfl⟩ := List.getElem?_eq_some_iff.1 hj
  have hl : (rj lk step room an (l.take k)).length = k := by simp [rj]; omega
  rw [at_, at_, List.take_succ_eq_append_getElem hk, List.set_append_right _ _ (by omega), hl, Nat.sub_self, List.drop_eq_getElem_cons hk, List.set_cons_zero]
  rw [rj, List.mapIdx_append]
  simp [rj, Nat.min_eq_left (Nat.le_of_lt hk)]

theorem set_same (l : List JP) (k : Nat) (j : JP) (h : l[k]? = some j) : l.set k j = l := by
  obtain ⟨hk, rfl⟩ := List.getElem?_eq_some_iff.1 h
  exact List.set_getElem_self hk

theorem due_len (lk : Int → Bool) (step : Int) (room : Bool) (l : List JP) : (asks lk step room l).length ≤ l.length := by
  have : ∀ n, n ≤ l.length → (asks lk step room (l.take n)).length ≤ n := by
    intro n
    induction n with
    | zero => intro _; simp [asks]
    | succ n ih =>
      intro hn
      rw [asks_take_succ lk step room l n l[n] (List.getElem?_eq_getElem (by omega))]
      have := ih (by omega)
      split <;> simp <;> omega
  simpa using this l.length (Nat.le_refl _)

end Go.Proofs.Qxb6613901a
