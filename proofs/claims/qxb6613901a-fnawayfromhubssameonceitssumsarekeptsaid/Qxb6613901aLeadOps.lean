import Derived.Test.Qxb6613901aLeaf
import Derived.KernelRfl
namespace Go.Proofs.Qxb6613901a
open Go Go.RowKit

theorem retI {k : IntKind} {a b : Int} (h : a = b) : Ending.returned (.int k a) = .returned (.int k b) := by rw [h]

def cmpI (x y : Int) : Int := if x < y then -1 else if y < x then 1 else 0

set_option maxRecDepth 100000 in
set_option maxHeartbeats 1600000 in
theorem cmp_any (x y : Int) (w : World) : Calls Try.prog 52 #[.int .i64 x, .int .i64 y] w fun e w' => e = .returned (.int .i64 (cmpI x y)) ∧ w' = w := by
  by_cases h1 : x < y
  · go_enter Try.func52, Try.ntmps52
    go_wp2
    go_ret
    exact ⟨retI (by simp [cmpI, h1]), rfl⟩
  · by_cases h2 : y < x
    · go_enter Try.func52, Try.ntmps52
      go_wp2
      go_ret
      exact ⟨retI (by simp [cmpI, h1, h2]), rfl⟩
    · go_enter Try.func52, Try.ntmps52
      go_wp2
      go_ret
      exact ⟨retI (by rw [cmpI, if_neg (by omega), if_neg (by omega)]), rfl⟩

set_option maxRecDepth 100000 in
set_option maxHeartbeats 1600000 in
theorem cmpA_any (x q : Int) (v1 v2 : Value) (w : World) : Calls Try.prog 51 #[.agg #[.int .i64 x, v1, v2], .int .i64 q] w fun e w' => e = .returned (.int .i64 (cmpI x q)) ∧ w' = w.alloc (.cells #[.int .i64 x, v1, v2] 63) := by
  go_enter Try.func51, Try.ntmps51
  go_wp2_with (go_at_call 52; refine (cmp_any _ _ _).mono ?_; rintro e w' ⟨rfl, rfl⟩)
  go_ret
  exact ⟨rfl, rfl⟩

/-- The cells of the answers of the peers ids. -/
def acells : List Int → List Value
  | [] => []
  | x :: t => [.int .i64 x, .slice none 0 0, .int .i64 0] ++ acells t

theorem acells_length (l : List Int) : (acells l).length = l.length * 3 := by
  induction l with
  | nil => rfl
  | cons j t ih => simp only [acells, List.length_append, ih, List.length_cons, List.length_nil]; omega

theorem acells_at (l : List Int) (k : Nat) (x : Int) (h : l[k]? = some x) : (acells l)[k * 3]? = some (.int .i64 x) ∧ (acells l)[k * 3 + 1]? = some (.slice none 0 0) ∧ (acells l)[k * 3 + 2]? = some (.int .i64 0) := by
  induction l generalizing k with
  | nil => simp at h
  | cons y t ih =>
    cases k with
    | zero => simp at h; subst h; simp [acells]
    | succ k =>
      have := ih k (by simpa using h)
      rw [acells]
      refine ⟨?_, ?_, ?_⟩
      · rw [List.getElem?_append_right (by simp; omega), show (k + 1) * 3 - [Value.int .i64 y, .slice none 0 0, .int .i64 0].length = k * 3 by simp; omega]; exact this.1
      · rw [List.getElem?_append_right (by simp; omega), show (k + 1) * 3 + 1 - [Value.int .i64 y, .slice none 0 0, .int .i64 0].length = k * 3 + 1 by simp; omega]; exact this.2.1
      · rw [List.getElem?_append_right (by simp; omega), show (k + 1) * 3 + 2 - [Value.int .i64 y, .slice none 0 0, .int .i64 0].length = k * 3 + 2 by simp; omega]; exact this.2.2

/-- A slice of Answer that reads as the answers of ids. -/
def AnsAt (w : World) (v : Value) (ids : List Int) : Prop :=
  ∃ ao cap, v = .slice ao ids.length cap ∧ ids.length ≤ cap ∧ (0 < ids.length → ∃ b, b < w.heap.size ∧ ao = some ⟨b, 0, none⟩ ∧ ∀ k x, ids[k]? = some x →
    w.cell? ⟨b, k * 3, none⟩ = some (.int .i64 x) ∧ w.cell? ⟨b, k * 3 + 1, none⟩ = some (.slice none 0 0) ∧ w.cell? ⟨b, k * 3 + 2, none⟩ = some (.int .i64 0))

theorem AnsAt.below {w w' : World} {v : Value} {ids : List Int} (h : AnsAt w v ids) (hb : Below w.heap.size w w') : AnsAt w' v ids := by
  obtain ⟨ao, cap, rfl, hc, f⟩ := h
  refine ⟨ao, cap, rfl, hc, fun h0 => ?_⟩
  obtain ⟨b, hbl, rfl, k⟩ := f h0
  refine ⟨b, Nat.lt_of_lt_of_le hbl hb.size, rfl, fun i x hx => ?_⟩
  obtain ⟨k1, k2, k3⟩ := k i x hx
  exact ⟨(hb.cell (p := ⟨b, i * 3, none⟩) hbl).trans k1, (hb.cell (p := ⟨b, i * 3 + 1, none⟩) hbl).trans k2, (hb.cell (p := ⟨b, i * 3 + 2, none⟩) hbl).trans k3⟩

def ascB (l : List Int) : Bool := (List.range l.length).all fun i => (List.range l.length).all fun j => decide (i < j → l.getD i 0 ≤ l.getD j 0)

theorem ascB_iff (l : List Int) : ascB l = true ↔ ∀ i j, i < j → j < l.length → l.getD i 0 ≤ l.getD j 0 := by
  unfold ascB
  simp only [List.all_eq_true, List.mem_range, decide_eq_true_eq]
  constructor
  · intro h i j hij hj; exact h i (by omega) j hj hij
  · intro h i _ j hj hij; exact h i j hij hj

theorem asc_of_steps (l : List Int) (h : ∀ i, 0 < i → i < l.length → l.getD (i - 1) 0 ≤ l.getD i 0) : ascB l = true := by
  rw [ascB_iff]
  intro i j hij hj
  induction j with
  | zero => omega
  | succ j ih =>
    have h1 := h (j + 1) (by omega) hj
    rw [show j + 1 - 1 = j by omega] at h1
    by_cases hij' : i = j
    · subst hij'; exact h1
    · have := ih (by omega) (by omega); omega

theorem has_of (l : List Int) (q : Int) : has l q = true ↔ ∃ i, i < l.length ∧ l.getD i 0 = q := by
  unfold has
  rw [List.contains_iff_mem]
  constructor
  · intro h
    obtain ⟨i, hi, e⟩ := List.mem_iff_getElem.1 h
    exact ⟨i, hi, by simp [hi, e]⟩
  · rintro ⟨i, hi, e⟩
    rw [← e]
    simp [hi]

theorem cmp_eq (x y : Int) : (cmpI x y == 0) = decide (x = y) := by
  rw [Bool.eq_iff_iff]
  simp only [beq_iff_eq, decide_eq_true_eq, cmpI]
  constructor
  · intro h
    split at h
    · omega
    · split at h <;> omega
  · intro h; subst h; simp

/-- What the search comes to. -/
theorem search_end (l : List Int) (q : Int) (i : Nat) (hi : i ≤ l.length) (h1 : ∀ x, x < i → l.getD x 0 < q) (h2 : ∀ x, i ≤ x → x < l.length → q ≤ l.getD x 0) (hs : ascB l = true) :
    has l q = (decide (i < l.length) && decide (l.getD i 0 = q)) := by
  rw [Bool.eq_iff_iff, has_of]
  simp only [Bool.and_eq_true, decide_eq_true_eq]
  rw [ascB_iff] at hs
  constructor
  · rintro ⟨x, hx, e⟩
    have hxi : i ≤ x := by
      rcases Nat.lt_or_ge x i with h | h
      · have := h1 x h; omega
      · exact h
    refine ⟨by omega, ?_⟩
    have a := h2 i (Nat.le_refl _) (by omega)
    by_cases hxe : x = i
    · subst hxe; exact e
    · have := hs i x (by omega) hx; omega
  · rintro ⟨a, b⟩; exact ⟨i, a, b⟩

set_option maxRecDepth 100000 in
set_option maxHeartbeats 3200000 in
theorem search_any (v : Value) (ids : List Int) (q : Int) (w : World) (hv : AnsAt w v ids) (hl : ids.length ≤ 1000000) (hs : ascB ids = true) :
    Calls Try.prog 50 #[v, .int .i64 q, .func (.func 51) #[] #[]] w fun e w' => ∃ i : Int, e = .returned (.tuple #[.int .i64 i, .bool (has ids q)]) ∧ Below w.heap.size w w' := by
  obtain ⟨ao, cap, rfl, hcap, hc⟩ := hv
  have HS := hide hs
  clear hs
  go_enter Try.func50, Try.ntmps50
  go_wp2_with fail
  go_loopw [9, 10] (fun iv jv wr => ∃ i j : Nat, i ≤ j ∧ j ≤ ids.length ∧ iv = .int .i64 i ∧ jv = .int .i64 j ∧ Hid (∀ x, x < i → ids.getD x 0 < q) ∧ Hid (∀ x, j ≤ x → x < ids.length → q ≤ ids.getD x 0) ∧ Below w.heap.size w wr) (fun iv jv _ => (intOf jv - intOf iv).toNat)
  case atStart => exact ⟨0, ids.length, Nat.zero_le _, Nat.le_refl _, rfl, rfl, fun x hx => absurd hx (by omega), fun x h1 h2 => absurd h2 (by omega), Below.refl _ _⟩
  case round =>
    obtain ⟨i, j, hij, hj, rfl, rfl, H1, H2, hbel⟩ := hrel
    by_cases hlt : i < j
    · obtain ⟨b, hbl, rfl, hcell⟩ := hc (by omega)
      have hm1 : (i + j) / 2 < j := by omega
      have hm2 : i ≤ (i + j) / 2 := by omega
      obtain ⟨x, hx⟩ : ∃ x, ids[(i + j) / 2]? = some x := ⟨_, List.getElem?_eq_getElem (by omega)⟩
      have hxd : ids.getD ((i + j) / 2) 0 = x := by simp [hx]
      obtain ⟨q0, q1, q2⟩ := hcell _ x hx
      have c0 := (hbel.cell (p := ⟨b, (i + j) / 2 * 3, none⟩) hbl).trans q0
      have c1 := (hbel.cell (p := ⟨b, (i + j) / 2 * 3 + 1, none⟩) hbl).trans q1
      have c2 := (hbel.cell (p := ⟨b, (i + j) / 2 * 3 + 2, none⟩) hbl).trans q2
      have HXD := hide hxd
      have hsz := hbel.size
      clear hcell hc hx hxd q0 q1 q2
      by_cases hcx : x < q
      · have hcm : cmpI x q < 0 := by simp [cmpI, hcx]
        go_wp2_with (go_at_call 51; refine (cmpA_any x q _ _ _).mono ?_; rintro e w' ⟨rfl, rfl⟩)
        go_roundw
        case rel =>
          refine ⟨(i + j) / 2 + 1, j, by omega, hj, by go_num, rfl, fun y hy => ?_, H2, hbel.alloc hsz _⟩
          by_cases hyi : y < i
          · exact H1.out y hyi
          · have := HXD.out
            have hs := (ascB_iff ids).1 HS.out
            by_cases hye : y = (i + j) / 2
            · rw [hye, this]; exact hcx
            · have := hs y ((i + j) / 2) (by omega) (by omega); omega
        case measure => simp [intOf]; omega
      · have hcm : 0 ≤ cmpI x q := by unfold cmpI; rw [if_neg hcx]; split <;> omega
        go_wp2_with (go_at_call 51; refine (cmpA_any x q _ _ _).mono ?_; rintro e w' ⟨rfl, rfl⟩)
        go_roundw
        case rel =>
          refine ⟨i, (i + j) / 2, by omega, by omega, rfl, by go_num, H1, fun y hy1 hy2 => ?_, hbel.alloc hsz _⟩
          have := HXD.out
          have hs := (ascB_iff ids).1 HS.out
          by_cases hye : y = (i + j) / 2
          · rw [hye, this]; omega
          · have := hs ((i + j) / 2) y (by omega) hy2; omega
        case measure => simp [intOf]; omega
    · have hije : i = j := by omega
      subst hije
      have HE := hide (search_end ids q i hj H1.out H2.out HS.out)
      have hsz := hbel.size
      have dij : decide ((i : Int) < (i : Int)) = false := by simp
      by_cases hin : i < ids.length
      · obtain ⟨b, hbl, rfl, hcell⟩ := hc (by omega)
        obtain ⟨x, hx⟩ : ∃ x, ids[i]? = some x := ⟨_, List.getElem?_eq_getElem (by omega)⟩
        have hxd : ids.getD i 0 = x := by simp [hx]
        obtain ⟨q0, q1, q2⟩ := hcell _ x hx
        have c0 := (hbel.cell (p := ⟨b, i * 3, none⟩) hbl).trans q0
        have c1 := (hbel.cell (p := ⟨b, i * 3 + 1, none⟩) hbl).trans q1
        have c2 := (hbel.cell (p := ⟨b, i * 3 + 2, none⟩) hbl).trans q2
        have HXD := hide hxd
        have hin' : (i : Int) < (ids.length : Int) := by omega
        clear hcell hc hx hxd q0 q1 q2
        go_wp2_with (go_at_call 51; refine (cmpA_any x q _ _ _).mono ?_; rintro e w' ⟨rfl, rfl⟩)
        go_ret2
        refine ⟨i, ?_, hbel.alloc hsz _⟩
        rw [HE.out, HXD.out, cmp_eq]; simp [hin]
      · have hin' : decide ((i : Int) < (ids.length : Int)) = false := by simp; omega
        go_wp2_with fail
        go_ret2
        refine ⟨i, ?_, hbel⟩
        rw [HE.out]; simp [hin]

set_option maxRecDepth 100000 in
set_option maxHeartbeats 3200000 in
theorem answered_any (v lst : Value) (ids : List Int) (q : Int) (w : World) (hv : AnsAt w v ids) (hl : ids.length ≤ 1000000) (hs : ascB ids = true) :
    Calls Try.prog 44 #[.agg #[v, lst], .int .i64 q] w fun e w' => e = .returned (.bool (has ids q)) ∧ Below w.heap.size w w' := by
  have hb1 : Below w.heap.size w (w.alloc (.cells #[v, lst] 90)) := (Below.refl _ w).alloc (Nat.le_refl _) _
  have hv1 := hv.below hb1
  have hvf : ∃ a n c, v = .slice a n c := by obtain ⟨a, c, rfl, _⟩ := hv; exact ⟨_, _, _, rfl⟩
  obtain ⟨va, vn, vc, rfl⟩ := hvf
  have HS := hide hs
  have HV := hide hv1
  clear hs hv1
  go_enter Try.func44, Try.ntmps44
  go_wp2_with (go_at_call 50; refine (search_any _ ids q _ HV.out hl HS.out).mono ?_; rintro e w' ⟨i, rfl, hb2⟩)
  go_ret
  exact ⟨rfl, hb1.trans (hb2.mono (by simp))⟩

/-- Does the peer q lead on? -/
def ld (ids : List Int) (self q : Int) : Bool := !(q == self) && !has ids q

set_option maxRecDepth 100000 in
set_option maxHeartbeats 3200000 in
theorem closure_any (S N : Nat) (self q : Int) (v lst : Value) (ids : List Int) (w : World) (cS : w.cell? ⟨S, 0, none⟩ = some (.int .i64 self)) (cN0 : w.cell? ⟨N, 0, none⟩ = some v) (cN1 : w.cell? ⟨N, 1, none⟩ = some lst) (hv : AnsAt w v ids) (hl : ids.length ≤ 1000000) (hs : ascB ids = true) :
    Calls Try.prog 43 #[.int .i64 q, .pointer (some ⟨S, 0, none⟩), .pointer (some ⟨N, 0, none⟩)] w fun e w' => e = .returned (.bool (ld ids self q)) ∧ Below w.heap.size w w' := by
  have HS := hide hs
  clear hs
  by_cases hq : q = self
  · have hb : (q != self) = false := by simp [hq]
    have hld : ld ids self q = false := by simp [ld, hq]
    have HLD := hide hld
    clear hld hq
    go_enter Try.func43, Try.ntmps43
    go_wp2_with fail
    go_ret
    exact ⟨ret_bool HLD.out.symm, Below.refl _ _⟩
  · have hb : (q != self) = true := by simp [hq]
    have hld : ld ids self q = !has ids q := by simp [ld, hq]
    have HLD := hide hld
    clear hld hq
    go_enter Try.func43, Try.ntmps43
    go_wp2_with (go_at_call 44; refine (answered_any _ _ ids q _ hv hl HS.out).mono ?_; rintro e w' ⟨rfl, hb2⟩)
    go_ret
    exact ⟨ret_bool HLD.out.symm, hb2⟩

end Go.Proofs.Qxb6613901a
