import Derived.Test.Qxb6613901aServOps
import Derived.Deep.DeepCutAuto
namespace Go.Proofs.Qxb6613901a
open Go Go.RowKit
attribute [local go_sem ↓] Go.wp_at_zero Go.wp_at_succ

set_option maxRecDepth 100000 in
set_option maxHeartbeats 1600000 in
theorem serv_early (id asks : Int) (a1 a2 : Option Addr) (n1 n2 c1 c2 : Nat) (w : World) (h1 : n1 ≤ maxLen) (h2 : n2 ≤ maxLen)
    (h : ¬ (n1 + n2 ≤ 1048576 ∧ n1 ≤ 65536 ∧ n2 ≤ 65536)) :
    Calls Try.prog 5 #[.int .i64 id, .slice a1 n1 c1, .slice a2 n2 c2, .int .i64 asks] w fun e w' => e = .returned (.bool true) ∧ Below w.heap.size w w' := by
  have hB := bytes16 id asks a1 a2 n1 n2 c1 c2 w h1 h2
  unfold maxLen at h1 h2
  by_cases g0 : n1 + n2 ≤ 1048576
  · rw [decide_eq_true g0] at hB
    have HB := hide hB
    clear hB
    by_cases g1 : 65536 < n1
    · go_enter Try.func5, Try.ntmps5
      go_wp2_with (go_at_call 16; refine (HB.out).mono ?_; rintro e w' ⟨rfl, rfl⟩)
      go_ret
      exact ⟨rfl, Below.refl _ _⟩
    have d1 : decide (65536 < (n1 : Int)) = false := by simp; omega
    have g2 : 65536 < n2 := by omega
    go_enter Try.func5, Try.ntmps5
    go_wp2_with (go_at_call 16; refine (HB.out).mono ?_; rintro e w' ⟨rfl, rfl⟩)
    go_ret
    exact ⟨rfl, Below.refl _ _⟩
  · rw [decide_eq_false g0] at hB
    have HB := hide hB
    clear hB
    go_enter Try.func5, Try.ntmps5
    go_wp2_with (go_at_call 16; refine (HB.out).mono ?_; rintro e w' ⟨rfl, rfl⟩)
    go_ret
    exact ⟨rfl, Below.refl _ _⟩

theorem OvAt.start {w : World} {O : Nat} {nv av : Value} {X : Nat → Prop} (hO : w.heap[O]? = some (.cells #[.int .i64 0, .slice none 0 0, nv, .int .i64 0, av, .slice none 0 0, .slice none 0 0, .slice none 0 0, .slice none 0 0] 32 (0, 0))) (xO : ¬ X O) (hX : ∀ k, X k → k < w.heap.size) : OvAt w O nv av 0 [] [] [] [] X :=
  ⟨_, _, _, _, hO, World.ownsRow_nil _ _ _ _, World.ownsRow_nil _ _ _ _, World.ownsRow_nil _ _ _ _, World.ownsRow_nil _ _ _ _, apartV_nil _, apartV_nil _, apartV_nil _, apartV_nil _, apartV_nil _, apartV_nil _,
    by simp [Value.ownBlock], by simp [Value.ownBlock], by simp [Value.ownBlock], by simp [Value.ownBlock], offX_nil _, offX_nil _, offX_nil _, offX_nil _, xO, hX⟩

theorem service17 (P O : Nat) (id asks : Int) (nv av : Value) (zs : List Int) (bs : List Bool) (X : Nat → Prop) (w : World)
    (hP : w.cell? ⟨P, 0, none⟩ = some (.int .i64 id)) (XP : X P) (hov : OvAt w O nv av 0 [] [] [] [] X) (hz : IntsAt w nv zs) (hzx : liesIn X nv) (hb : BoolsAt w av bs) (hbx : liesIn X av)
    (hzl : zs.length ≤ 65536) (hbl : bs.length ≤ 65536) (ha1 : asks ≤ 9223372036854775807) :
    Calls Try.prog 17 #[.pointer (some ⟨P, 0, none⟩), .iface 28 (.pointer (some ⟨O, 0, none⟩)), .int .i64 asks] w fun e w' =>
      ∃ mv, e = .returned mv ∧ LInv w O nv av id zs bs X (bootsN asks zs.length) (doneN asks zs.length) mv w' := by
  go_enter Try.func17, Try.ntmps17
  go_wp2_with (go_at_call 36; refine (service_any P O id asks nv av zs bs X _ hP XP hov hz hzx hb hbx hzl hbl ha1).mono ?_; rintro e w' ⟨mv, rfl, hl⟩)
  go_ret
  exact ⟨mv, rfl, hl⟩

/-- The overlay's rows, read. -/
theorem OvAt.reads {w : World} {O : Nat} {nv av : Value} {pos : Int} {BP BN LP LQ : List Int} {X : Nat → Prop} (h : OvAt w O nv av pos BP BN LP LQ X) :
    ∃ v5 v6 v7 v8, w.cell? ⟨O, 5, none⟩ = some v5 ∧ w.cell? ⟨O, 6, none⟩ = some v6 ∧ w.cell? ⟨O, 7, none⟩ = some v7 ∧ w.cell? ⟨O, 8, none⟩ = some v8 ∧ IntsAt w v5 BP ∧ IntsAt w v6 BN ∧ IntsAt w v7 LP ∧ IntsAt w v8 LQ := by
  obtain ⟨bp, bn, lp, lq, hO, o1, o2, o3, o4, _⟩ := h
  exact ⟨bp, bn, lp, lq, blk_cell hO 5, blk_cell hO 6, blk_cell hO 7, blk_cell hO 8, owns_ints o1, owns_ints o2, owns_ints o3, owns_ints o4⟩

theorem IntsAt.lies {w : World} {v : Value} {zs : List Int} (h : IntsAt w v zs) : liesIn (fun k => k < w.heap.size) v := by
  obtain ⟨ao, cap, rfl, _, f⟩ := h
  intro a n c e h0
  simp only [Value.slice.injEq] at e
  obtain ⟨rfl, rfl, rfl⟩ := e
  obtain ⟨b, off, e2, k⟩ := f h0
  simp only [Option.some.injEq] at e2
  subst e2
  exact World.block_lt_of_cell? w _ (k 0 h0)

set_option maxRecDepth 100000 in
set_option maxHeartbeats 3200000 in
theorem serv_main (id asks : Int) (nv av : Value) (zs : List Int) (bs : List Bool) (w : World)
    (hz : IntsAt w nv zs) (hb : BoolsAt w av bs) (hzx : liesIn (fun k => k < w.heap.size) nv) (hbx : liesIn (fun k => k < w.heap.size) av)
    (g0 : zs.length + bs.length ≤ 1048576) (g1 : zs.length ≤ 65536) (g2 : bs.length ≤ 65536) (ha1 : asks ≤ 9223372036854775807) :
    Calls Try.prog 5 #[.int .i64 id, nv, av, .int .i64 asks] w fun e w' => e = .returned (.bool true) ∧ Below w.heap.size w w' := by
  have hz' := hz
  have hb' := hb
  obtain ⟨za, zcap, rfl, hzc, -⟩ := hz'
  obtain ⟨ba, bcap, rfl, hbc, -⟩ := hb'
  have hB := bytes16 id asks za ba zs.length bs.length zcap bcap w (by unfold maxLen; omega) (by unfold maxLen; omega)
  rw [decide_eq_true g0] at hB
  have HB := hide hB
  clear hB
  have d1 : decide (65536 < (zs.length : Int)) = false := by simp; omega
  have d2 : decide (65536 < (bs.length : Int)) = false := by simp; omega
  have d4 : decide (1048576 < 8 * (zs.length : Int) + (bs.length : Int)) = false := by simp; omega
  go_enter Try.func5, Try.ntmps5
  go_wp2_with (first | (go_at_call 16; refine (HB.out).mono ?_; rintro e w' ⟨rfl, hw⟩; obtain rfl := hw.symm) | (go_at_call 18; refine (newPeer_any id _).mono ?_; rintro e w1 ⟨o, rfl, hw1, hP⟩))
  have hO : ((w.alloc (.cells #[.int .i64 0, .slice none 0 0, .slice za zs.length zcap, .int .i64 0, .slice ba bs.length bcap, .slice none 0 0, .slice none 0 0, .slice none 0 0, .slice none 0 0] 32)).alloc o).heap[w.heap.size]? = some (.cells #[.int .i64 0, .slice none 0 0, .slice za zs.length zcap, .int .i64 0, .slice ba bs.length bcap, .slice none 0 0, .slice none 0 0, .slice none 0 0, .slice none 0 0] 32 (0, 0)) := blk_alloc (heap_alloc_new w _) o
  rw [hw1, size_alloc] at hP
  have hkw : Keeps (fun k => k < w.heap.size ∨ k = w.heap.size + 1) w ((w.alloc (.cells #[.int .i64 0, .slice none 0 0, .slice za zs.length zcap, .int .i64 0, .slice ba bs.length bcap, .slice none 0 0, .slice none 0 0, .slice none 0 0, .slice none 0 0] 32)).alloc o) := ((Keeps.refl _ w).alloc _).alloc _
  have hzx' : liesIn (fun k => k < w.heap.size ∨ k = w.heap.size + 1) (.slice za zs.length zcap) := fun a n c e h0 => Or.inl (hzx a n c e h0)
  have hbx' : liesIn (fun k => k < w.heap.size ∨ k = w.heap.size + 1) (.slice ba bs.length bcap) := fun a n c e h0 => Or.inl (hbx a n c e h0)
  refine (service17 (w.heap.size + 1) w.heap.size id asks _ _ zs bs (fun k => k < w.heap.size ∨ k = w.heap.size + 1) _ hP (.inr rfl) (OvAt.start hO (by omega) (by rintro k (h | h) <;> simp <;> omega)) (hz.keeps hzx' hkw) hzx' (hb.keeps hbx' hkw) hbx' g1 g2 ha1).mono ?_
  rintro e w2 ⟨mv, rfl, hL⟩
  clear hw1 hP hO w1
  have hk2 : Keeps (fun k => k < w.heap.size) w w2 := (hkw.mono fun _ h => .inl h).trans (hL.keeps.mono fun _ h => .inl h)
  have hz2 := hz.keeps hzx hk2
  have hb2 := hb.keeps hbx hk2
  obtain ⟨v5, v6, v7, v8, t5, t6, t7, t8, i5, i6, i7, i8⟩ := hL.ov.reads
  have im := owns_ints hL.row
  obtain ⟨K, hK⟩ : ∃ K, doneN asks zs.length = K := ⟨_, rfl⟩
  obtain ⟨B, hB⟩ : ∃ B, bootsN asks zs.length = B := ⟨_, rfl⟩
  rw [hK] at im i7 i8
  rw [hB] at i5 i6
  have hBK : (zs.length < asks → B = zs.length + 1 ∧ K = zs.length) ∧ (¬ (zs.length : Int) < asks → B = K) := by
    unfold doneN at hK; unfold bootsN at hB
    constructor
    · intro h; rw [if_pos h] at hB; omega
    · intro h; rw [if_neg h] at hB; omega
  have hKl : K ≤ zs.length := by unfold doneN at hK; omega
  have hBl : B ≤ zs.length + 1 := by by_cases h : (zs.length : Int) < asks; have := hBK.1 h; omega; have := hBK.2 h; omega
  have HBK := hide hBK
  have HK := hide hK
  have hmf : ∃ ma mc, mv = .slice ma (mdl zs bs K).length mc := by obtain ⟨ma, mc, h, _⟩ := im; exact ⟨ma, mc, h⟩
  obtain ⟨ma, mc, rfl⟩ := hmf
  have HIM := hide im
  have HZ2 := hide hz2
  have HB2 := hide hb2
  have HK2 := hide hk2
  obtain ⟨a5, c5, rfl, -, f5⟩ := i5
  obtain ⟨a6, c6, rfl, -, f6⟩ := i6
  obtain ⟨a7, c7, rfl, -, f7⟩ := i7
  obtain ⟨a8, c8, rfl, -, f8⟩ := i8
  simp only [List.length_replicate, List.length_take, Nat.min_eq_left hKl] at t5 t6 t7 t8 f5 f6 f7 f8
  clear hL hkw hBK hK hB im hz2 hb2 hk2 HB hzx' hbx'
  go_upto_if 54 with (go_at_call 19; refine (asksDone_any asks zs.length _).mono ?_; rw [HK.out]; rintro e w' ⟨rfl, hw⟩; obtain rfl := hw.symm)
  go_cut [12] (fun c wx => c = .int .i64 B ∧ w2 = wx)
  case first =>
    by_cases hc : (zs.length : Int) < asks
    · have hbe := (HBK.out.1 hc).1
      go_wp2_with fail
      go_meet
      case rel => exact ⟨by rw [hbe]; go_num, rfl⟩
    · have hbe := HBK.out.2 (by omega)
      go_wp2_with fail
      go_meet
      case rel => exact ⟨by rw [hbe], rfl⟩
  case rest =>
    obtain ⟨rfl, rfl⟩ := hcut
    go_wp2_with fail
    go_loop [13] (fun i => ∃ k : Nat, k ≤ B ∧ i = .int .i64 k) (fun i => B - (intOf i).toNat)
    case atStart => exact ⟨0, Nat.zero_le _, rfl⟩
    case round =>
      obtain ⟨k, hk, rfl⟩ := hrel
      by_cases hlt : k < B
      · obtain ⟨b5, o5, rfl, y5⟩ := f5 (by omega)
        obtain ⟨b6, o6, rfl, y6⟩ := f6 (by omega)
        have e5 := y5 k hlt
        have e6 := y6 k hlt
        rw [show (List.replicate B id).getD k 0 = id by simp [hlt]] at e5
        rw [show (List.replicate B (1 : Int)).getD k 0 = 1 by simp [hlt]] at e6
        have m0 : (0 : Int) ≤ (k : Int) := by omega
        have m1 : (k : Int) < (B : Int) := by omega
        clear y5 y6 f5 f6 f7 f8
        go_wp2_with fail
        go_round
        case rel => exact ⟨k + 1, by omega, by go_num⟩
        case measure => simp [intOf]; omega
      · have dk : decide ((k : Int) < (B : Int)) = false := by simp; omega
        go_wp2_with fail
        go_loopw [14] (fun i wr => ∃ m n : Nat, m ≤ K ∧ i = .int .i64 m ∧ wr = w2.drewN n) (fun i _ => K - (intOf i).toNat)
        case atStart => exact ⟨0, 0, Nat.zero_le _, rfl, rfl⟩
        case round =>
          obtain ⟨m, n, hm, rfl, rfl⟩ := hrel
          by_cases hlt2 : m < K
          · obtain ⟨b7, o7, rfl, y7⟩ := f7 (by omega)
            obtain ⟨b8, o8, rfl, y8⟩ := f8 (by omega)
            obtain ⟨_, _, e, -, fz⟩ := HZ2.out
            simp only [Value.slice.injEq, true_and] at e
            obtain ⟨rfl, rfl⟩ := e
            obtain ⟨bz, oz, rfl, yz⟩ := fz (by omega)
            have e7 := y7 m hlt2
            have e8 := y8 m hlt2
            have ez := yz m (by omega)
            rw [show (List.replicate K id).getD m 0 = id by simp [hlt2]] at e7
            rw [show (zs.take K).getD m 0 = zs.getD m 0 by simp [hlt2]] at e8
            generalize zs.getD m 0 = z at e8 ez
            have m0 : (0 : Int) ≤ (m : Int) := by omega
            have m1 : (m : Int) < (K : Int) := by omega
            have m2 : (m : Int) < (zs.length : Int) := by omega
            clear y7 y8 yz f5 f6 f7 f8 fz
            go_wp2_with fail
            go_quiet (fail)
            go_wp2_with fail
            go_roundw
            case rel => exact ⟨m + 1, _, by omega, by go_num, rfl⟩
            case measure => simp [intOf]; omega
          · have dm : decide ((m : Int) < (K : Int)) = false := by simp; omega
            have hsz : w.heap.size ≤ w2.heap.size := HK2.out.size
            go_wp2_with (go_at_call 21; refine (linkModel_any _ _ K zs bs _ (by exact HZ2.out) (by exact HB2.out) (fun a n c e h0 => Nat.lt_of_lt_of_le (hzx a n c e h0) (by exact hsz)) (fun a n c e h0 => Nat.lt_of_lt_of_le (hbx a n c e h0) (by exact hsz)) hKl g1 g2).mono ?_; rintro e w3 ⟨mv2, rfl, hrow3, hbel3⟩)
            have him : IntsAt w3 (.slice ma (mdl zs bs K).length mc) (mdl zs bs K) := by
              have h0 : IntsAt (w2.drewN n) (.slice ma (mdl zs bs K).length mc) (mdl zs bs K) := HIM.out
              exact h0.keeps h0.lies (Keeps.of_below hbel3)
            refine (same_any _ _ (mdl zs bs K) w3 him (owns_ints hrow3) (by have := mdl_len zs bs K; omega)).mono ?_
            rintro e w4 ⟨rfl, n4, rfl⟩
            have hfin : Below w.heap.size w w3 := (HK2.out.below _ (Nat.le_refl _) (fun _ h => h)).trans (Below.mono (B := (w2.drewN n).heap.size) ⟨hbel3.os, hbel3.tape, hbel3.output, hbel3.size, hbel3.block⟩ (by exact hsz))
            have HF := hide hfin
            clear hfin him hrow3 hbel3
            go_wp2_with fail
            go_ret
            exact ⟨rfl, ⟨HF.out.os, HF.out.tape, HF.out.output, HF.out.size, HF.out.block⟩⟩

end Go.Proofs.Qxb6613901a
