import Derived.Test.Qxb6613901aJoinOps
import Derived.Test.Qxb6613901aBackOff
namespace Go.Proofs.Qxb6613901a
open Go Go.RowKit
attribute [local go_sem ↓] Go.wp_at_zero Go.wp_at_succ

theorem RecAt.setStep {w : World} {R : Nat} {stp : Int} {av : Value} {ss js is : List Int} {X : Nat → Prop} (h : RecAt w R stp av ss js is X) (s' : Int) : RecAt (w.setCell ⟨R, 0, none⟩ (.int .i64 s')) R s' av ss js is X := by
  obtain ⟨sv, jv, iv, hR, os, oj, oi, asj, asi, aji, sR, jR, iR, xs, xj, xi, xR, hXl⟩ := h
  exact ⟨sv, jv, iv, blk_set hR 0 _, owns_setCell os _ sR _, owns_setCell oj _ jR _, owns_setCell oi _ iR _,
    asj, asi, aji, sR, jR, iR, xs, xj, xi, xR, fun k hk => by have := hXl k hk; simpa [World.setCell] using this⟩

theorem RecAt.start {w : World} {R : Nat} {stp : Int} {av : Value} {X : Nat → Prop} (hR : w.heap[R]? = some (.cells #[.int .i64 stp, av, .slice none 0 0, .slice none 0 0, .slice none 0 0] 38 (0, 0))) (xR : ¬ X R) (hX : ∀ k, X k → k < w.heap.size) : RecAt w R stp av [] [] [] X :=
  ⟨_, _, _, hR, World.ownsRow_nil _ _ _ _, World.ownsRow_nil _ _ _ _, World.ownsRow_nil _ _ _ _, apartV_nil _, apartV_nil _, apartV_nil _, by simp [Value.ownBlock], by simp [Value.ownBlock], by simp [Value.ownBlock], offX_nil _, offX_nil _, offX_nil _, xR, hX⟩

set_option maxRecDepth 100000 in
set_option maxHeartbeats 1600000 in
theorem back_early (a0 a1 a2 a3 a4 a5 : Int) (w : World) (h : a5 < 0 ∨ 65536 < a5 ∨ a3 < 0 ∨ 64 < a3 ∨ 9223372036854710015 < a4) :
    Calls Try.prog 3 #[.int .i64 a0, .int .i64 a1, .int .i64 a2, .int .i64 a3, .int .i64 a4, .int .i64 a5] w fun e w' => e = .returned (.bool true) ∧ Below w.heap.size w w' := by
  by_cases h1 : a5 < 0
  · go_enter Try.func3, Try.ntmps3
    go_wp2
    go_ret
    exact ⟨rfl, Below.refl _ _⟩
  have d1 : decide (a5 < 0) = false := by simpa using h1
  by_cases h2 : 65536 < a5
  · go_enter Try.func3, Try.ntmps3
    go_wp2
    go_ret
    exact ⟨rfl, Below.refl _ _⟩
  have d2 : decide (65536 < a5) = false := by simpa using h2
  by_cases h3 : a3 < 0
  · go_enter Try.func3, Try.ntmps3
    go_wp2
    go_ret
    exact ⟨rfl, Below.refl _ _⟩
  have d3 : decide (a3 < 0) = false := by simpa using h3
  by_cases h4 : 64 < a3
  · go_enter Try.func3, Try.ntmps3
    go_wp2
    go_ret
    exact ⟨rfl, Below.refl _ _⟩
  have d4 : decide (64 < a3) = false := by simpa using h4
  have h5 : 9223372036854710015 < a4 := by omega
  go_enter Try.func3, Try.ntmps3
  go_wp2
  go_ret
  exact ⟨rfl, Below.refl _ _⟩

/-- What holds at the head of a round of the first loop. -/
structure BInv (w : World) (S O C R : Nat) (jv : Value) (id : Int) (l : List Int) (nx wt : Int) (wr : World) : Prop where
  s : wr.heap[S]? = some (.cells #[jv, .slice none 0 0] 26 (0, 0))
  o : wr.heap[O]? = some (.cells #[.int .i64 0, .slice none 0 0, .slice none 0 0, .int .i64 0, .slice none 0 0, .slice none 0 0, .slice none 0 0, .slice none 0 0, .slice none 0 0] 32 (0, 0))
  c : wr.heap[C]? = some (.cells #[.int .i64 0, .int .i64 1, .int .i64 0, .int .i64 0, .int .i64 0, .pointer none] 35 (0, 0))
  j : wr.ownsRow 0 79 5 jv 1 (jcells [⟨id, true, nx, wt⟩])
  off : offX (fun k => k < w.heap.size ∨ k = S ∨ k = O ∨ k = C) jv
  r : ∃ stp, RecAt wr R stp (.slice none 0 0) l (l.map fun _ => 0) (l.map fun _ => id) (fun k => (k < w.heap.size ∨ k = S ∨ k = O ∨ k = C) ∨ jv.ownBlock = some k)
  keeps : Keeps (fun k => k < w.heap.size) w wr

theorem BInv.set {w : World} {S O C R : Nat} {jv : Value} {id : Int} {l : List Int} {nx wt : Int} {wr : World} (h : BInv w S O C R jv id l nx wt wr) (s' : Int) :
    BInv w S O C R jv id l nx wt (wr.setCell ⟨R, 0, none⟩ (.int .i64 s')) ∧ RecAt (wr.setCell ⟨R, 0, none⟩ (.int .i64 s')) R s' (.slice none 0 0) l (l.map fun _ => 0) (l.map fun _ => id) (fun k => (k < w.heap.size ∨ k = S ∨ k = O ∨ k = C) ∨ jv.ownBlock = some k) := by
  obtain ⟨stp, hr⟩ := h.r
  have hr' := hr.setStep s'
  obtain ⟨_, _, _, _, _, _, _, _, _, _, _, _, _, _, _, _, xR, _⟩ := hr
  refine ⟨⟨blk_other h.s _ rfl (fun e => xR (e ▸ .inl (.inr (.inl rfl)))) _, blk_other h.o _ rfl (fun e => xR (e ▸ .inl (.inr (.inr (.inl rfl))))) _, blk_other h.c _ rfl (fun e => xR (e ▸ .inl (.inr (.inr (.inr rfl))))) _,
    owns_setCell h.j _ (fun e => xR (.inr e)) _, h.off, ⟨s', hr'⟩, h.keeps.setCell (fun hh => xR (.inl (.inl hh))) _⟩, hr'⟩

theorem BInv.next {w : World} {S O C R : Nat} {jv : Value} {id : Int} {l : List Int} {nx wt : Int} {wr w2 : World} {step : Int} (h : BInv w S O C R jv id l nx wt wr)
    (h2 : RInv wr (fun k => (k < w.heap.size ∨ k = S ∨ k = O ∨ k = C) ∨ jv.ownBlock = some k) (fun k => k < w.heap.size ∨ k = S ∨ k = O ∨ k = C) R step (.slice none 0 0) jv l (l.map fun _ => 0) (l.map fun _ => id) [⟨id, true, nx, wt⟩] (has []) step (decide ((0 : Int) < 1)) (ans []) 1 w2) :
    (nx ≤ step → BInv w S O C R jv id (l ++ [step]) (step + min (2 * wt) 64) (min (2 * wt) 64) w2) ∧ (step < nx → BInv w S O C R jv id l nx wt w2) := by
  obtain ⟨r1, r2, r3⟩ := h2
  have e1 : at_ (has []) step (decide ((0 : Int) < 1)) (ans []) [⟨id, true, nx, wt⟩] 1 = [if nx ≤ step then ⟨id, true, step + min (2 * wt) 64, min (2 * wt) 64⟩ else ⟨id, true, nx, wt⟩] := by
    simp [at_, rj, step1, due, has, ans]
  have e2 : asks (has []) step (decide ((0 : Int) < 1)) ([(⟨id, true, nx, wt⟩ : JP)].take 1) = if nx ≤ step then [(0, id)] else [] := by
    simp [asks, due, has]
  rw [e1] at r1
  rw [e2] at r2
  refine ⟨fun hle => ?_, fun hle => ?_⟩
  · rw [if_pos hle] at r1 r2
    refine ⟨r3.at (.inr (.inl rfl)) h.s, r3.at (.inr (.inr (.inl rfl))) h.o, r3.at (.inr (.inr (.inr rfl))) h.c, r1, h.off, ⟨step, ?_⟩, h.keeps.trans (r3.mono fun _ hk => .inl hk)⟩
    simpa [asS, asI, asQ] using r2
  · rw [if_neg (by omega)] at r1 r2
    refine ⟨r3.at (.inr (.inl rfl)) h.s, r3.at (.inr (.inr (.inl rfl))) h.o, r3.at (.inr (.inr (.inr rfl))) h.c, r1, h.off, ⟨step, ?_⟩, h.keeps.trans (r3.mono fun _ hk => .inl hk)⟩
    simpa [asS, asI, asQ] using r2

set_option maxRecDepth 100000 in
set_option maxHeartbeats 1600000 in
theorem back_main (p id next0 wait0 t0 : Int) (n : Nat) (w : World) (hn : n ≤ 65536) (hw0 : 0 ≤ wait0) (hw1 : wait0 ≤ 64) (ht : t0 ≤ 9223372036854710015) (ht0 : -9223372036854775808 ≤ t0)
    (hx0 : -9223372036854775808 ≤ next0) (hx1 : next0 ≤ 9223372036854775807) :
    Calls Try.prog 3 #[.int .i64 p, .int .i64 id, .int .i64 next0, .int .i64 wait0, .int .i64 t0, .int .i64 n] w fun e w' => e = .returned (.bool true) ∧ Below w.heap.size w w' := by
  have d1 : decide ((n : Int) < 0) = false := by simp
  have d2 : decide (65536 < (n : Int)) = false := by simp; omega
  have d3 : decide (wait0 < 0) = false := by simp; omega
  have d4 : decide (64 < wait0) = false := by simp; omega
  have d5 : decide (9223372036854710015 < t0) = false := by simp; omega
  have hS0 : (w.alloc (.cells #[.slice none 0 0, .slice none 0 0] 26)).heap[w.heap.size]? = some (.cells #[.slice none 0 0, .slice none 0 0] 26 (0, 0)) := heap_alloc_new w _
  go_enter Try.func3, Try.ntmps3
  go_wp2_with fail
  refine (addJoin_any w.heap.size id next0 wait0 true _ _ [] (fun k => k < w.heap.size) _ hS0 (World.ownsRow_nil _ _ _ _) (by simp [Value.ownBlock]) (offX_nil _) (by simp) (by intro k hk; simp; omega) (by simp)).mono ?_
  rintro e w1 ⟨rfl, jv, hS1, hj1, jS, xj, hk1⟩
  simp only [List.nil_append, List.length_cons, List.length_nil, Nat.zero_add] at hj1
  go_wp2_with fail
  have lS := blk_lt hS1
  go_loopw [17] (fun i wr => ∃ (k : Nat) (l : List Int) (nx wt : Int), k ≤ n + 1 ∧ i = .int .i64 k ∧ 0 ≤ wt ∧ wt ≤ 64 ∧
      bo t0 (n + 1) next0 wait0 = (l ++ (bo (t0 + k) (n + 1 - k) nx wt).1, (bo (t0 + k) (n + 1 - k) nx wt).2) ∧ l.length ≤ k ∧
      BInv w w.heap.size w1.heap.size (w1.heap.size + 1) (w1.heap.size + 1 + 1) jv id l nx wt wr) (fun i _ => n + 1 - (intOf i).toNat)
  case atStart =>
    refine ⟨0, [], next0, wait0, by omega, rfl, hw0, hw1, by simp, by simp, ?_⟩
    obtain ⟨a1, a2, a3⟩ := three w1 (.cells #[.int .i64 0, .slice none 0 0, .slice none 0 0, .int .i64 0, .slice none 0 0, .slice none 0 0, .slice none 0 0, .slice none 0 0, .slice none 0 0] 32) (.cells #[.int .i64 0, .int .i64 1, .int .i64 0, .int .i64 0, .int .i64 0, .pointer none] 35) (.cells #[.int .i64 0, .slice none 0 0, .slice none 0 0, .slice none 0 0, .slice none 0 0] 38)
    have jl : ∀ x, jv.ownBlock = some x → x < w1.heap.size := fun x hx => owns_lt hj1 hx
    refine ⟨blk_alloc (blk_alloc (blk_alloc hS1 _) _) _, a1, a2, ((hj1.alloc _).alloc _).alloc _, ?_, ⟨0, RecAt.start a3 ?_ ?_⟩, (((((Keeps.refl _ w).alloc _).trans hk1).alloc _).alloc _).alloc _⟩
    · intro x hx hor
      have := jl x hx
      rcases hor with h | h | h | h
      · exact xj x hx h
      · exact jS (h ▸ hx)
      · omega
      · omega
    · rintro (h | h)
      · omega
      · have := jl _ h; omega
    · rintro x (h | h)
      · simp only [size_alloc]; omega
      · have := jl _ h; simp only [size_alloc]; omega
  case round =>
    obtain ⟨k, l, nx, wt, hk, rfl, hwt0, hwt1, hbo, hll, hinv⟩ := hrel
    have HB := hide hbo
    clear hbo
    by_cases hlt : k ≤ n
    · obtain ⟨hb1, hr1⟩ := hinv.set (t0 + k)
      have cC0 : wr.cell? ⟨w1.heap.size + 1, 0, none⟩ = some (.int .i64 0) := blk_cell hinv.c 0
      have cC1 : wr.cell? ⟨w1.heap.size + 1, 1, none⟩ = some (.int .i64 1) := blk_cell hinv.c 1
      have cC2 : wr.cell? ⟨w1.heap.size + 1, 2, none⟩ = some (.int .i64 0) := blk_cell hinv.c 2
      have cC3 : wr.cell? ⟨w1.heap.size + 1, 3, none⟩ = some (.int .i64 0) := blk_cell hinv.c 3
      have cC4 : wr.cell? ⟨w1.heap.size + 1, 4, none⟩ = some (.int .i64 0) := blk_cell hinv.c 4
      have cC5 : wr.cell? ⟨w1.heap.size + 1, 5, none⟩ = some (.pointer none) := blk_cell hinv.c 5
      have cR : ∃ x, wr.cell? ⟨w1.heap.size + 1 + 1, 0, none⟩ = some (.int .i64 x) := by obtain ⟨stp, _, _, _, hR, _⟩ := hinv.r; exact ⟨stp, blk_cell hR 0⟩
      obtain ⟨x, cR⟩ := cR
      have fR : wr.frozen? ⟨w1.heap.size + 1 + 1, 0, none⟩ = false := by obtain ⟨stp, _, _, _, hR, _⟩ := hinv.r; exact blk_frozen hR 0
      have HI := hide hinv
      have HB1 := hide hb1
      have HR1 := hide hr1
      clear hinv hb1 hr1 hS0 hS1 hj1 jS xj hk1
      go_wp2_with fail
      refine (rejoin_any w.heap.size w1.heap.size (w1.heap.size + 1 + 1) p (t0 + k) 1 0 (t0 + k) _ _ _ _ _ (.slice none 0 0) (.slice none 0 0) jv (.slice none 0 0) [] [] l _ _ [⟨id, true, nx, wt⟩] (fun k => k < w.heap.size ∨ k = w.heap.size ∨ k = w1.heap.size ∨ k = w1.heap.size + 1) _
        HB1.out.s (by exact blk_cell HB1.out.o 0) (by exact blk_cell HB1.out.o 1) HB1.out.j HB1.out.off (.inr (.inl rfl)) (.inr (.inr (.inl rfl))) HR1.out (BoolsAt.nil _) (by intro a n c h; simp at h) (by simp) (IntsAt.nil _) (by intro a n c h; simp at h) (by simp)
        (by simp; omega) (by simp; omega) (by simp; omega) (by simp) (by omega) (by omega) (by simp; omega)).mono ?_
      rintro e w2 ⟨rfl, hr2⟩
      have hnx := HB1.out.next hr2
      have HNX := hide hnx
      clear hnx hr2 HI HB1 HR1 cR fR cC0 cC1 cC2 cC3 cC4 cC5
      go_wp2_with fail
      go_roundw
      case rel =>
        by_cases hle : nx ≤ t0 + k
        · exact ⟨k + 1, l ++ [t0 + (k : Int)], _, _, by omega, by go_num, by omega, by omega, bo_step_yes hlt HB.out hle, by simp; omega, HNX.out.1 hle⟩
        · exact ⟨k + 1, l, nx, wt, by omega, by go_num, by omega, by omega, bo_step_no hlt HB.out hle, by omega, HNX.out.2 (by omega)⟩
      case measure => simp [intOf]; omega
    · have hT : bo t0 (n + 1) next0 wait0 = (l, nx, wt) := by rw [HB.out, show n + 1 - k = 0 by omega]; simp [bo]
      have HT := hide hT
      have dk : decide ((k : Int) ≤ (n : Int)) = false := by simp; omega
      clear hT HB hS0 hS1 hj1 jS xj hk1
      obtain ⟨wo, hwo⟩ : ∃ wo : World, wo = wr := ⟨_, rfl⟩
      subst hwo
      have HI := hide hinv
      obtain ⟨stp, sv, iv, qv, hR, os, oi, oq, -⟩ := hinv.r
      have cs : wo.cell? ⟨w1.heap.size + 1 + 1, 2, none⟩ = some sv := blk_cell hR 2
      have ci : wo.cell? ⟨w1.heap.size + 1 + 1, 3, none⟩ = some iv := blk_cell hR 3
      have cq : wo.cell? ⟨w1.heap.size + 1 + 1, 4, none⟩ = some qv := blk_cell hR 4
      obtain ⟨sa, scap, rfl, -, hs⟩ := owns_ints os
      obtain ⟨ia, icap, rfl, -, hi⟩ := owns_ints oi
      obtain ⟨qa, qcap, rfl, -, hq⟩ := owns_ints oq
      simp only [List.length_map] at ci cq hi hq
      clear hinv hR os oi oq
      obtain ⟨cur0, hc0⟩ : ∃ cur0, cur0 = if next0 < t0 then t0 else next0 := ⟨_, rfl⟩
      have HM : Hid (Mod (t0 + n + 1) l nx wt 0 cur0 next0 wait0) := Mod.start HT.out (by split at hc0 <;> omega) (by split at hc0 <;> omega) (by split at hc0 <;> omega)
      have hcb : t0 ≤ cur0 ∧ cur0 ≤ 9223372036854775807 := by split at hc0 <;> omega
      have HC0 := hide hc0
      clear hc0
      go_upto_if 82 with fail
      go_cut [21] (fun c wx => c = .int .i64 cur0 ∧ wo = wx)
      case first =>
        by_cases hcur : next0 < t0
        all_goals
          go_wp2_with fail
          go_meet
          case rel => exact ⟨by rw [HC0.out]; first | rw [if_pos (by omega)] | rw [if_neg (by omega)], rfl⟩
      case rest =>
        obtain ⟨rfl, rfl⟩ := hcut
        go_wp2_with fail
        go_loop [19, 20, 21, 22] (fun wv nv cv mv => ∃ (m : Nat) (cur nx2 wt2 : Int), mv = .int .i64 m ∧ cv = .int .i64 cur ∧ nv = .int .i64 nx2 ∧ wv = .int .i64 wt2 ∧ t0 ≤ cur ∧ cur ≤ 9223372036854775807 ∧ 0 ≤ wt2 ∧ wt2 ≤ 64 ∧ m ≤ l.length ∧ Hid (Mod (t0 + n + 1) l nx wt m cur nx2 wt2)) (fun _ _ cv _ => (t0 + n + 1 - intOf cv).toNat)
        case atStart => exact ⟨0, cur0, next0, wait0, rfl, rfl, rfl, rfl, hcb.1, hcb.2, hw0, hw1, Nat.zero_le _, HM⟩
        case round =>
          obtain ⟨m, cur, nx2, wt2, rfl, rfl, rfl, rfl, hcu0, hcu1, hwa, hwb, hml, HMM⟩ := hrel
          by_cases hin : cur ≤ t0 + n
          · obtain ⟨hm, hlm, -⟩ := HMM.out.round (cur' := _) (by omega) rfl
            obtain ⟨g1, o1, rfl, k1⟩ := hs (by omega)
            obtain ⟨g2, o2, rfl, k2⟩ := hi (by omega)
            obtain ⟨g3, o3, rfl, k3⟩ := hq (by omega)
            have k1' : wo.cell? ⟨g1, o1 + m, none⟩ = some (.int .i64 cur) := by rw [k1 m hm]; simp [hlm]
            have k2' : wo.cell? ⟨g2, o2 + m, none⟩ = some (.int .i64 0) := by rw [k2 m hm]; simp [hm]
            have k3' : wo.cell? ⟨g3, o3 + m, none⟩ = some (.int .i64 id) := by rw [k3 m hm]; simp [hm]
            have dm : decide ((l.length : Int) ≤ (m : Int)) = false := by simp; omega
            clear k1 k2 k3 hs hi hq hlm
            by_cases h64 : 64 < 2 * wt2
            · go_wp2_with fail
              go_round
              case rel => exact ⟨m + 1, cur + 64, cur + 64, 64, by go_num, rfl, rfl, rfl, by omega, by omega, by omega, by omega, by omega, by have := (HMM.out.round (cur' := cur + 64) (by omega) (by omega)).2.2; rwa [show min (2 * wt2) 64 = 64 by omega] at this⟩
              case measure => simp [intOf]; omega
            · by_cases h1 : 2 * wt2 < 1
              · go_wp2_with fail
                go_round
                case rel => exact ⟨m + 1, cur + 1, cur + 2 * wt2, 2 * wt2, by go_num, rfl, rfl, rfl, by omega, by omega, by omega, by omega, by omega, by have := (HMM.out.round (cur' := cur + 1) (by omega) (by omega)).2.2; rwa [show min (2 * wt2) 64 = 2 * wt2 by omega] at this⟩
                case measure => simp [intOf]; omega
              · go_wp2_with fail
                go_round
                case rel => exact ⟨m + 1, cur + 2 * wt2, cur + 2 * wt2, 2 * wt2, by go_num, rfl, rfl, rfl, by omega, by omega, by omega, by omega, by omega, by have := (HMM.out.round (cur' := cur + 2 * wt2) (by omega) (by omega)).2.2; rwa [show min (2 * wt2) 64 = 2 * wt2 by omega] at this⟩
                case measure => simp [intOf]; omega
          · obtain ⟨hme, hN, hW⟩ := HMM.out.done (by omega)
            have hmm : m = l.length := by omega
            subst hmm hN hW
            clear hs hi hq
            have hfin : Below w.heap.size w wo := HI.out.keeps.below _ (Nat.le_refl _) (fun _ h => h)
            have HF := hide hfin
            clear hfin
            go_wp2_with (go_at_call 12; refine (join_any w.heap.size 0 jv (.slice none 0 0) [⟨id, true, nx, wt⟩] ⟨id, true, nx, wt⟩ _ HI.out.s HI.out.j rfl (by simp)).mono ?_; rintro e w' ⟨rfl, nq, rfl⟩)
            go_ret
            exact ⟨rfl, ⟨HF.out.os, HF.out.tape, HF.out.output, HF.out.size, HF.out.block⟩⟩

end Go.Proofs.Qxb6613901a
