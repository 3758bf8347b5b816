import Derived.Test.Qxb6613901aLeads
namespace Go.Proofs.Qxb6613901a
open Go Go.RowKit

theorem info63 : (Try.prog.info? 63).map (fun i => (i.zero, i.size, i.bytes)) = some (some (.agg #[.int .i64 0, .slice none 0 0, .int .i64 0]), 3, 40) := by kernel_rfl

set_option maxRecDepth 100000 in
set_option maxHeartbeats 1600000 in
theorem bytes22 (self k : Int) (a1 a2 : Option Addr) (n1 n2 c1 c2 : Nat) (w : World) (h1 : n1 ≤ maxLen) (h2 : n2 ≤ maxLen) :
    Calls Try.prog 22 #[.slice a1 n1 c1, .int .i64 self, .slice a2 n2 c2, .int .i64 k] w fun e w' => e = .returned (.bool (decide (n1 + n2 ≤ 1048576))) ∧ w' = w := by
  unfold maxLen at h1 h2
  by_cases g1 : 1048576 < n1
  · go_enter Try.func22, Try.ntmps22
    go_wp2
    go_ret
    exact ⟨ret_bool (by simp; omega), rfl⟩
  by_cases g2 : 1048576 < n2
  · go_enter Try.func22, Try.ntmps22
    go_wp2
    go_ret
    exact ⟨ret_bool (by simp; omega), rfl⟩
  by_cases g3 : 1048576 < n1 + n2
  · go_enter Try.func22, Try.ntmps22
    go_wp2
    go_ret
    exact ⟨ret_bool (by simp; omega), rfl⟩
  · go_enter Try.func22, Try.ntmps22
    go_wp2
    go_ret
    exact ⟨ret_bool (by simp; omega), rfl⟩

set_option maxRecDepth 100000 in
set_option maxHeartbeats 1600000 in
theorem bytes27 (self k : Int) (a1 a2 : Option Addr) (n1 n2 c1 c2 : Nat) (w : World) (h1 : n1 ≤ maxLen) (h2 : n2 ≤ maxLen) :
    Calls Try.prog 27 #[.slice a1 n1 c1, .int .i64 self, .slice a2 n2 c2, .int .i64 k] w fun e w' => e = .returned (.bool (decide (n1 + n2 ≤ 1048576))) ∧ w' = w := by
  unfold maxLen at h1 h2
  by_cases g1 : 1048576 < n1
  · go_enter Try.func27, Try.ntmps27
    go_wp2
    go_ret
    exact ⟨ret_bool (by simp; omega), rfl⟩
  by_cases g2 : 1048576 < n2
  · go_enter Try.func27, Try.ntmps27
    go_wp2
    go_ret
    exact ⟨ret_bool (by simp; omega), rfl⟩
  by_cases g3 : 1048576 < n1 + n2
  · go_enter Try.func27, Try.ntmps27
    go_wp2
    go_ret
    exact ⟨ret_bool (by simp; omega), rfl⟩
  · go_enter Try.func27, Try.ntmps27
    go_wp2
    go_ret
    exact ⟨ret_bool (by simp; omega), rfl⟩

set_option maxRecDepth 100000 in
set_option maxHeartbeats 1600000 in
theorem model_any (lv iv : Value) (self : Int) (ls ids : List Int) (w : World) (hlv : IntsAt w lv ls) (hiv : IntsAt w iv ids) (hll : ls.length ≤ 1000000) (hil : ids.length ≤ 1000000) :
    Calls Try.prog 26 #[iv, .int .i64 self, lv] w fun e w' => e = .returned (.bool (leads ids self ls)) ∧ w' = w := by
  have hiv' := hiv
  obtain ⟨la, lc, rfl, hlc, f⟩ := hlv
  obtain ⟨ia, ic, rfl, -, -⟩ := hiv'
  go_enter Try.func26, Try.ntmps26
  go_wp2_with fail
  go_loop [7] (fun i => ∃ k : Nat, k ≤ ls.length ∧ i = .int .i64 k ∧ Hid (leads ids self (ls.take k) = false)) (fun i => ls.length - (intOf i).toNat)
  case atStart => exact ⟨0, Nat.zero_le _, rfl, (by simp [leads] : leads ids self (ls.take 0) = false)⟩
  case round =>
    obtain ⟨k, hk, rfl, HN⟩ := hrel
    by_cases hlt : k < ls.length
    · obtain ⟨b, off, rfl, hcell⟩ := f (by omega)
      obtain ⟨q, hq⟩ : ∃ q, ls[k]? = some q := ⟨_, List.getElem?_eq_getElem hlt⟩
      have c0 : w.cell? ⟨b, off + k, none⟩ = some (.int .i64 q) := by rw [hcell k hlt]; simp [hq]
      have HQ := hide hq
      have m0 : (0 : Int) ≤ (k : Int) := by omega
      have m1 : (k : Int) < (ls.length : Int) := by omega
      clear hcell f hq
      by_cases hqs : q = self
      · have hb : (q != self) = false := by simp [hqs]
        have hld : ld ids self q = false := by simp [ld, hqs]
        have HLD := hide hld
        clear hld hqs
        go_wp2_with fail
        go_round
        case rel => exact ⟨k + 1, by omega, by go_num, (by rw [leads_take_succ ids self ls k q HQ.out, HN.out, HLD.out]; rfl : leads ids self (ls.take (k + 1)) = false)⟩
        case measure => simp [intOf]; omega
      · have hb : (q != self) = true := by simp [hqs]
        obtain ⟨bh, hbh⟩ : ∃ b, has ids q = b := ⟨_, rfl⟩
        have hld : ld ids self q = !bh := by simp [ld, hqs, hbh]
        have HLD := hide hld
        have HBH := hide hbh
        clear hld hqs hbh
        cases bh with
        | true =>
          go_wp2_with (go_at_call 14; refine (contains_any _ ids q _ hiv (by omega)).mono ?_; rw [HBH.out]; rintro e w' ⟨rfl, hw⟩; obtain rfl := hw.symm)
          go_round
          case rel => exact ⟨k + 1, by omega, by go_num, (by rw [leads_take_succ ids self ls k q HQ.out, HN.out, HLD.out]; rfl : leads ids self (ls.take (k + 1)) = false)⟩
          case measure => simp [intOf]; omega
        | false =>
          go_wp2_with (go_at_call 14; refine (contains_any _ ids q _ hiv (by omega)).mono ?_; rw [HBH.out]; rintro e w' ⟨rfl, hw⟩; obtain rfl := hw.symm)
          go_ret
          exact ⟨ret_bool (leads_hit ids self ls k q HQ.out HLD.out).symm, rfl⟩
    · have dk : decide ((k : Int) < (ls.length : Int)) = false := by simp; omega
      go_wp2_with fail
      go_ret
      have := HN.out
      rw [List.take_of_length_le (by omega)] at this
      exact ⟨ret_bool this.symm, rfl⟩

theorem ascB_false (l : List Int) (i : Nat) (h0 : 0 < i) (hi : i < l.length) (h : l.getD i 0 < l.getD (i - 1) 0) : ascB l = false := by
  rw [Bool.eq_false_iff]
  intro hh
  have := (ascB_iff l).1 hh (i - 1) i (by omega) hi
  omega

set_option maxRecDepth 100000 in
set_option maxHeartbeats 1600000 in
theorem asc_any (iv : Value) (ids : List Int) (w : World) (hiv : IntsAt w iv ids) (hil : ids.length ≤ 1000000) :
    Calls Try.prog 23 #[iv] w fun e w' => e = .returned (.bool (ascB ids)) ∧ ∃ n, w' = w.drewN n := by
  obtain ⟨ia, ic, rfl, -, f⟩ := hiv
  go_enter Try.func23, Try.ntmps23
  go_wp2_with fail
  go_loopw [3] (fun i wr => ∃ k n : Nat, 1 ≤ k ∧ (k ≤ ids.length ∨ k = 1) ∧ i = .int .i64 k ∧ Hid (∀ x, 0 < x → x < k → x < ids.length → ids.getD (x - 1) 0 ≤ ids.getD x 0) ∧ wr = w.drewN n) (fun i _ => ids.length - (intOf i).toNat)
  case atStart => exact ⟨1, 0, Nat.le_refl _, .inr rfl, rfl, fun x h1 h2 => absurd h2 (by omega), rfl⟩
  case round =>
    obtain ⟨k, n, hk1, hk2, rfl, HN, rfl⟩ := hrel
    by_cases hlt : k < ids.length
    · obtain ⟨b, off, rfl, hcell⟩ := f (by omega)
      obtain ⟨x, hx⟩ : ∃ x, ids.getD (k - 1) 0 = x := ⟨_, rfl⟩
      obtain ⟨y, hy⟩ : ∃ y, ids.getD k 0 = y := ⟨_, rfl⟩
      have c0 : w.cell? ⟨b, off + (k - 1), none⟩ = some (.int .i64 x) := by rw [hcell (k - 1) (by omega), hx]
      have c1 : w.cell? ⟨b, off + k, none⟩ = some (.int .i64 y) := by rw [hcell k hlt, hy]
      have HX := hide hx
      have HY := hide hy
      have m0 : (0 : Int) ≤ (k : Int) - 1 := by omega
      have m1 : (k : Int) < (ids.length : Int) := by omega
      have m2 : (0 : Int) ≤ (k : Int) := by omega
      have m3 : (k : Int) - 1 < (ids.length : Int) := by omega
      clear hcell f hx hy
      by_cases hxy : y < x
      · go_wp2_with fail
        go_quiet (fail)
        go_wp2_with fail
        go_ret
        exact ⟨ret_bool (ascB_false ids k (by omega) hlt (by rw [HX.out, HY.out]; exact hxy)).symm, _, World.drewN_drewN _ _ _⟩
      · go_wp2_with fail
        go_quiet (fail)
        go_wp2_with fail
        go_roundw
        case rel =>
          refine ⟨k + 1, _, by omega, .inl (by omega), by go_num, fun z h1 h2 h3 => ?_, rfl⟩
          by_cases hzk : z = k
          · rw [hzk, HX.out, HY.out]; omega
          · exact HN.out z h1 (by omega) h3
        case measure => simp [intOf]; omega
    · have dk : decide ((k : Int) < (ids.length : Int)) = false := by simp; omega
      have hr := asc_of_steps ids (fun i h1 h2 => HN.out i h1 (by omega) h2)
      have HR := hide hr
      clear hr
      go_wp2_with fail
      go_ret
      exact ⟨ret_bool HR.out.symm, _, rfl⟩

theorem made_acells (n : Nat) : (madeCells #[Value.int .i64 0, .slice none 0 0, .int .i64 0] (n * 3)).toList = acells (List.replicate n 0) := by
  apply List.ext_getElem?
  intro i
  by_cases hi : i < n * 3
  · obtain ⟨k, r, hr, rfl⟩ : ∃ k r, r < 3 ∧ i = k * 3 + r := ⟨i / 3, i % 3, by omega, by omega⟩
    have hk : k < n := by omega
    obtain ⟨a0, a1, a2⟩ := acells_at (List.replicate n 0) k 0 (by simp [hk])
    have hm : (k * 3 + r) % 3 = r := by omega
    match r, hr with
    | 0, _ => rw [Nat.add_zero] at hi hm ⊢; rw [a0]; simp [madeCells, hi, hm]
    | 1, _ => rw [a1]; simp [madeCells, hi, hm]
    | 2, _ => rw [a2]; simp [madeCells, hi, hm]
  · rw [List.getElem?_eq_none (by simp [madeCells]; omega), List.getElem?_eq_none (by rw [acells_length]; simp; omega)]

theorem acells_set (l : List Int) (k : Nat) (x : Int) (hk : k < l.length) : (acells l).set (k * 3) (.int .i64 x) = acells (l.set k x) := by
  induction l generalizing k with
  | nil => simp at hk
  | cons y t ih =>
    cases k with
    | zero => simp [acells]
    | succ k =>
      have := ih k (by simpa using hk)
      rw [acells, List.set_append_right _ _ (by simp; omega), show (k + 1) * 3 - [Value.int .i64 y, .slice none 0 0, .int .i64 0].length = k * 3 by simp; omega, this]
      simp [acells]

/-- The ids of the first k; the rest 0. -/
def firstK (ids : List Int) (k : Nat) : List Int := ids.take k ++ List.replicate (ids.length - k) 0
theorem firstK_zero (ids : List Int) : firstK ids 0 = List.replicate ids.length 0 := by simp [firstK]
theorem firstK_end (ids : List Int) : firstK ids ids.length = ids := by simp [firstK]
theorem firstK_length (ids : List Int) (k : Nat) (hk : k ≤ ids.length) : (firstK ids k).length = ids.length := by simp [firstK]; omega
theorem firstK_succ (ids : List Int) (k : Nat) (x : Int) (h : ids[k]? = some x) : firstK ids (k + 1) = (firstK ids k).set k x := by
  obtain ⟨hk, rfl⟩ := List.getElem?_eq_some_iff.1 h
  have hl : (ids.take k).length = k := by simp; omega
  rw [firstK, firstK, List.take_succ_eq_append_getElem hk, List.set_append_right _ _ (by omega), hl, Nat.sub_self, show ids.length - k = (ids.length - (k + 1)) + 1 by omega, List.replicate_succ, List.set_cons_zero, List.append_assoc]
  rfl

set_option maxRecDepth 100000 in
set_option maxHeartbeats 1600000 in
theorem answers_any (iv : Value) (ids : List Int) (w : World) (hiv : IntsAt w iv ids) (hil : ids.length ≤ 1000000) :
    Calls Try.prog 24 #[iv] w fun e w' => ∃ v, e = .returned v ∧ AnsAt w' v ids ∧ Below w.heap.size w w' := by
  obtain ⟨i0, hi0, hz0, hz1, hz2⟩ := info_parts info63
  have hiv' := hiv
  obtain ⟨ia, ic, rfl, -, -⟩ := hiv'
  go_enter Try.func24, Try.ntmps24
  go_wp2_with (at_make; refine wpList_make_full _ rfl _ _ 59 rfl 0 63 i0 (.agg #[.int .i64 0, .slice none 0 0, .int .i64 0]) 3 Try.underlying59 hi0 hz0 hz1 _ _ _ _ ids.length rfl rfl rfl rfl (by rw [hz2]; omega) (by unfold maxLen; omega) (by omega) ?_)
  intro w1 own1 hgrow1
  have own2 : w1.ownsRow 0 63 3 (.slice (some ⟨w.heap.size, 0, none⟩) ids.length ids.length) ids.length (acells (firstK ids 0)) := by
    rw [firstK_zero, ← made_acells]; exact own1
  have bel1 : Below w.heap.size w w1 := ⟨hgrow1.os, hgrow1.tape, hgrow1.output, hgrow1.size, fun k hk => hgrow1.block k hk (by simp)⟩
  clear own1 hgrow1
  go_wp2_with fail
  go_loopw [4] (fun i wr => ∃ k : Nat, k ≤ ids.length ∧ i = .int .i64 k ∧ wr.ownsRow 0 63 3 (.slice (some ⟨w.heap.size, 0, none⟩) ids.length ids.length) ids.length (acells (firstK ids k)) ∧ Below w.heap.size w wr) (fun i _ => ids.length - (intOf i).toNat)
  case atStart => exact ⟨0, Nat.zero_le _, rfl, own2, bel1⟩
  case round =>
    obtain ⟨k, hk, rfl, hrow, hbel⟩ := hrel
    by_cases hlt : k < ids.length
    · obtain ⟨_, _, e, -, f⟩ := hiv.below hbel
      simp only [Value.slice.injEq, true_and] at e
      obtain ⟨rfl, rfl⟩ := e
      obtain ⟨b, off, rfl, hcell⟩ := f (by omega)
      obtain ⟨x, hx⟩ : ∃ x, ids[k]? = some x := ⟨_, List.getElem?_eq_getElem hlt⟩
      have c0 : wr.cell? ⟨b, off + k, none⟩ = some (.int .i64 x) := by rw [hcell k hlt]; simp [hx]
      have m0 : (0 : Int) ≤ (k : Int) := by omega
      have m1 : (k : Int) < (ids.length : Int) := by omega
      have hfl := firstK_length ids k hk
      have ca : ∃ y, wr.cell? ⟨w.heap.size, k * 3, none⟩ = some (.int .i64 y) := by
        have hk' : k < (firstK ids k).length := by omega
        refine ⟨(firstK ids k)[k], ?_⟩
        rw [hrow.cellAt (k * 3) (by omega)]
        exact (acells_at _ k _ (List.getElem?_eq_getElem hk')).1
      obtain ⟨y, ca⟩ := ca
      have fa : wr.frozen? ⟨w.heap.size, k * 3, none⟩ = false := hrow.frozenAt (k * 3)
      have HR : Hid ((wr.setCell ⟨w.heap.size, k * 3, none⟩ (.int .i64 x)).ownsRow 0 63 3 (.slice (some ⟨w.heap.size, 0, none⟩) ids.length ids.length) ids.length (acells (firstK ids (k + 1)))) := by
        have := (hrow.stored (k * 3) (.int .i64 x)).1
        rwa [acells_set _ _ _ (by omega), ← firstK_succ ids k x hx] at this
      have HB := hide hbel
      clear hcell f hx hrow hbel own2 bel1 hfl
      go_wp2_with fail
      go_roundw
      case rel => exact ⟨k + 1, by omega, by go_num, HR.out, HB.out.setCell (Nat.le_refl _) _⟩
      case measure => simp [intOf]; omega
    · have hkl : k = ids.length := by omega
      have HR : Hid (AnsAt wr (.slice (some ⟨w.heap.size, 0, none⟩) ids.length ids.length) ids) := by
        rw [hkl, firstK_end] at hrow
        refine ⟨_, _, rfl, Nat.le_refl _, fun h0 => ⟨w.heap.size, owns_lt hrow rfl, rfl, fun i x hx => ?_⟩⟩
        have hi := (List.getElem?_eq_some_iff.1 hx).1
        obtain ⟨a0, a1, a2⟩ := acells_at ids i x hx
        exact ⟨by rw [hrow.cellAt _ (by omega)]; exact a0, by rw [hrow.cellAt _ (by omega)]; exact a1, by rw [hrow.cellAt _ (by omega)]; exact a2⟩
      have dk : decide ((k : Int) < (ids.length : Int)) = false := by simp; omega
      clear hrow own2 bel1 hkl
      go_wp2_with fail
      go_ret
      exact ⟨_, rfl, HR.out, hbel⟩

end Go.Proofs.Qxb6613901a
