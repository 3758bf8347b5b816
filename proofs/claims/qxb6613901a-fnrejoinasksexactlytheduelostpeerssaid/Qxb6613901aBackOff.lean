import Derived.Test.Qxb6613901aJoins
namespace Go.Proofs.Qxb6613901a

/-- A lone lost peer that never answers, asked from time t on for f rounds: the times at which it is asked; its last 'next' and 'wait'. -/
def bo (t : Int) : Nat → Int → Int → List Int × Int × Int
  | 0, nx, wt => ([], nx, wt)
  | f + 1, nx, wt => if nx ≤ t then (t :: (bo (t + 1) f (t + min (2 * wt) 64) (min (2 * wt) 64)).1, (bo (t + 1) f (t + min (2 * wt) 64) (min (2 * wt) 64)).2) else bo (t + 1) f nx wt

theorem bo_skip (d f : Nat) (t nx wt : Int) (hd : d ≤ f) (h : t + d ≤ nx) : bo t f nx wt = bo (t + d) (f - d) nx wt := by
  induction d generalizing t f with
  | zero => simp
  | succ d ih =>
    cases f with
    | zero => omega
    | succ f =>
      rw [bo, if_neg (by omega), ih f (t + 1) (by omega) (by omega)]
      congr 1
      · omega
      · omega

/-- To 'cur', the first time at which it is due, or to the end. -/
theorem bo_to (f : Nat) (t nx wt cur : Int) (h1 : t ≤ cur) (h2 : cur ≤ nx ∨ cur = t) : bo t f nx wt = bo cur (t + f - cur).toNat nx wt := by
  rcases h2 with h2 | rfl
  · by_cases hc : cur ≤ t + f
    · rw [bo_skip (cur - t).toNat f t nx wt (by omega) (by omega)]
      congr 1
      · omega
      · omega
    · rw [bo_skip f f t nx wt (Nat.le_refl _) (by omega), Nat.sub_self, show (t + f - cur).toNat = 0 by omega]
      rfl
  · rw [show (cur + f - cur).toNat = f by omega]

theorem bo_ask (f : Nat) (t nx wt : Int) (h : nx ≤ t) (hf : 0 < f) :
    bo t f nx wt = (t :: (bo (t + 1) (f - 1) (t + min (2 * wt) 64) (min (2 * wt) 64)).1, (bo (t + 1) (f - 1) (t + min (2 * wt) 64) (min (2 * wt) 64)).2) := by
  obtain ⟨f, rfl⟩ : ∃ g, f = g + 1 := ⟨f - 1, by omega⟩
  rw [bo, if_pos h]
  simp

/-- One round of the second loop. -/
theorem bo_round (e cur nx w cur' : Int) (h : nx ≤ cur) (hf : cur < e) (hc : cur' = if min (2 * w) 64 < 1 then cur + 1 else cur + min (2 * w) 64) :
    bo cur (e - cur).toNat nx w = (cur :: (bo cur' (e - cur').toNat (cur + min (2 * w) 64) (min (2 * w) 64)).1, (bo cur' (e - cur').toNat (cur + min (2 * w) 64) (min (2 * w) 64)).2) ∧ cur + min (2 * w) 64 ≤ cur' ∧ cur < cur' := by
  refine ⟨?_, by split at hc <;> omega, by split at hc <;> omega⟩
  rw [bo_ask _ cur nx w h (by omega)]
  have : bo (cur + 1) ((e - cur).toNat - 1) (cur + min (2 * w) 64) (min (2 * w) 64) = bo cur' (e - cur').toNat (cur + min (2 * w) 64) (min (2 * w) 64) := by
    rw [bo_to ((e - cur).toNat - 1) (cur + 1) _ _ cur' (by split at hc <;> omega) (by split at hc <;> omega)]
    congr 1
    omega
  rw [this]

/-- One round of the first loop. -/
theorem bo_step_yes {t0 nx wt : Int} {n k : Nat} {l : List Int} {T : List Int × Int × Int} (hk : k ≤ n) (h : T = (l ++ (bo (t0 + k) (n + 1 - k) nx wt).1, (bo (t0 + k) (n + 1 - k) nx wt).2)) (hle : nx ≤ t0 + k) :
    T = ((l ++ [t0 + (k : Int)]) ++ (bo (t0 + (k + 1 : Nat)) (n + 1 - (k + 1)) (t0 + k + min (2 * wt) 64) (min (2 * wt) 64)).1, (bo (t0 + (k + 1 : Nat)) (n + 1 - (k + 1)) (t0 + k + min (2 * wt) 64) (min (2 * wt) 64)).2) := by
  rw [h, bo_ask _ _ _ _ hle (by omega), show t0 + (k : Int) + 1 = t0 + ((k + 1 : Nat) : Int) by omega, show n + 1 - k - 1 = n + 1 - (k + 1) by omega]
  simp
theorem bo_step_no {t0 nx wt : Int} {n k : Nat} {l : List Int} {T : List Int × Int × Int} (hk : k ≤ n) (h : T = (l ++ (bo (t0 + k) (n + 1 - k) nx wt).1, (bo (t0 + k) (n + 1 - k) nx wt).2)) (hle : ¬ nx ≤ t0 + k) :
    T = (l ++ (bo (t0 + (k + 1 : Nat)) (n + 1 - (k + 1)) nx wt).1, (bo (t0 + (k + 1 : Nat)) (n + 1 - (k + 1)) nx wt).2) := by
  rw [h, bo_skip 1 (n + 1 - k) (t0 + k) nx wt (by omega) (by omega), show t0 + (k : Int) + (1 : Nat) = t0 + ((k + 1 : Nat) : Int) by omega, show n + 1 - k - 1 = n + 1 - (k + 1) by omega]

/-- What holds at the head of round m of the second loop. -/
def Mod (e : Int) (L : List Int) (N W : Int) (m : Nat) (cur nx w : Int) : Prop :=
  L.drop m = (bo cur (e - cur).toNat nx w).1 ∧ (N, W) = (bo cur (e - cur).toNat nx w).2 ∧ nx ≤ cur

theorem Mod.start {t0 next0 wait0 cur N W : Int} {n : Nat} {L : List Int} (h : bo t0 (n + 1) next0 wait0 = (L, N, W)) (h1 : t0 ≤ cur) (h2 : next0 ≤ cur) (h3 : cur = t0 ∨ cur = next0) : Mod (t0 + n + 1) L N W 0 cur next0 wait0 := by
  have e := bo_to (n + 1) t0 next0 wait0 cur h1 (by omega)
  rw [show t0 + ((n + 1 : Nat) : Int) - cur = t0 + n + 1 - cur by omega] at e
  refine ⟨?_, ?_, h2⟩
  · rw [← e, h]; rfl
  · rw [← e, h]

theorem Mod.round {e N W cur nx w cur' : Int} {L : List Int} {m : Nat} (h : Mod e L N W m cur nx w) (hlt : cur < e) (hc : cur' = if min (2 * w) 64 < 1 then cur + 1 else cur + min (2 * w) 64) :
    m < L.length ∧ L[m]? = some cur ∧ Mod e L N W (m + 1) cur' (cur + min (2 * w) 64) (min (2 * w) 64) := by
  obtain ⟨h1, h2, h3⟩ := h
  obtain ⟨e1, e2, _⟩ := bo_round e cur nx w cur' h3 hlt hc
  rw [e1] at h1 h2
  have hm : m < L.length := by
    rcases Nat.lt_or_ge m L.length with h | h
    · exact h
    · rw [List.drop_eq_nil_of_le h] at h1; cases h1
  rw [List.drop_eq_getElem_cons hm] at h1
  simp only [List.cons.injEq] at h1
  exact ⟨hm, by rw [List.getElem?_eq_getElem hm, h1.1], h1.2, h2, e2⟩

theorem Mod.done {e N W cur nx w : Int} {L : List Int} {m : Nat} (h : Mod e L N W m cur nx w) (hge : e ≤ cur) : L.length ≤ m ∧ N = nx ∧ W = w := by
  obtain ⟨h1, h2, _⟩ := h
  rw [show (e - cur).toNat = 0 by omega] at h1 h2
  simp only [bo] at h1 h2
  refine ⟨?_, congrArg Prod.fst h2, congrArg Prod.snd h2⟩
  have := congrArg List.length h1
  simp at this
  omega

theorem bo_bounds (f : Nat) (t nx wt : Int) (hw : 0 ≤ wt ∧ wt ≤ 64) : 0 ≤ (bo t f nx wt).2.2 ∧ (bo t f nx wt).2.2 ≤ 64 := by
  induction f generalizing t nx wt with
  | zero => exact hw
  | succ f ih =>
    rw [bo]
    split
    · exact ih _ _ _ (by omega)
    · exact ih _ _ _ hw

theorem bo_len (f : Nat) (t nx wt : Int) : (bo t f nx wt).1.length ≤ f := by
  induction f generalizing t nx wt with
  | zero => simp [bo]
  | succ f ih =>
    rw [bo]
    split
    · have := ih (t + 1) (t + min (2 * wt) 64) (min (2 * wt) 64)
      simp; omega
    · have := ih (t + 1) nx wt
      omega

end Go.Proofs.Qxb6613901a
