import Derived.Test.Qxb6613901aOver
import Derived.Deep.Cut
namespace Go.Proofs.Qxb6613901a
open Go Go.RowKit
attribute [local go_sem ↓] Go.wp_at_zero Go.wp_at_succ

theorem size_set (w : World) (p : Addr) (u : Value) : (w.setCell p u).heap.size = w.heap.size := by simp [World.setCell]

set_option maxRecDepth 100000 in
set_option maxHeartbeats 3200000 in
theorem ovLink_any (O : Nat) (p q pos : Int) (nv av : Value) (bs : List Bool) (BP BN LP LQ : List Int) (X : Nat → Prop) (w : World)
    (hov : OvAt w O nv av pos BP BN LP LQ X) (hb : BoolsAt w av bs) (hbx : liesIn X av) (hbl : bs.length ≤ 1099511627776)
    (h1 : LP.length ≤ 1099511627776) (h2 : LQ.length ≤ 1099511627776) :
    Calls Try.prog 77 #[.pointer (some ⟨O, 0, none⟩), .int .i64 p, .int .i64 q] w fun e w' =>
      e = .returned (.bool (ans bs LQ.length)) ∧ OvAt w' O nv av pos BP BN (LP ++ [p]) (LQ ++ [q]) X ∧ Keeps X w w' := by
  obtain ⟨i2, hi2, hz20, hz21, hz22⟩ := info_parts info2
  obtain ⟨i3, hi3, hz30, hz31, hz32⟩ := info_parts info3
  have cq : ∃ a c, w.cell? ⟨O, 8, none⟩ = some (.slice a LQ.length c) := by
    obtain ⟨bp, bn, lp, lq, hO, o_bp, o_bn, o_lp, o_lq, a_bp_bn, a_bp_lp, a_bp_lq, a_bn_lp, a_bn_lq, a_lp_lq, n_bp, n_bn, n_lp, n_lq, x_bp, x_bn, x_lp, x_lq, xO, hXl⟩ := hov
    obtain ⟨a, c, rfl, -⟩ := owns_form o_lq
    exact ⟨a, c, blk_cell hO 8⟩
  obtain ⟨qa, qc, cq⟩ := cq
  go_enter Try.func77, Try.ntmps77
  go_upto_region 2 with fail
  go_cut [] (fun wx => OvAt wx O nv av pos BP BN (LP ++ [p]) LQ X ∧ Keeps X w wx)
  case first =>
    obtain ⟨bp, bn, lp, lq, hO, o_bp, o_bn, o_lp, o_lq, a_bp_bn, a_bp_lp, a_bp_lq, a_bn_lp, a_bn_lq, a_lp_lq, n_bp, n_bn, n_lp, n_lq, x_bp, x_bn, x_lp, x_lq, xO, hXl⟩ := hov
    have c : w.cell? ⟨O, 7, none⟩ = some lp := blk_cell hO 7
    have lO := blk_lt hO
    go_wp2_with (at_builtin; refine wpList_append_lies _ rfl _ _ 24 rfl 0 2 i2 _ 1 8 Try.underlying24 hi2 hz20 hz21 hz22 rfl (by omega) lp LP.length (ints LP) rfl (o_lp.alloc _) ⟨w.heap.size, 0, none⟩ 1 1 [.int .i64 p] rfl rfl (World.news_of_block (cs := #[.int .i64 p]) (t := 2) (fr := (0, 0)) (heap_alloc_new w _)) (by simp [Value.oneCell']) (by omega) (by simp only [maxLen]; omega) (by omega) (by omega) (w.heap.size + 1) (by simp) ?_)
    intro g cap w9 own9 hgrow9 hat9 hlt9
    have hO9 := blk_grown hgrow9 (o := .cells #[.int .i64 0, .slice none 0 0, nv, .int .i64 pos, av, bp, bn, lp, lq] 32 (0, 0)) (b := O) (blk_alloc hO _) n_lp
    have f9 : w9.frozen? ⟨O, 7, none⟩ = false := blk_frozen hO9 7
    have c9 : w9.cell? ⟨O, 7, none⟩ = some lp := blk_cell hO9 7
    go_wp2_with fail
    go_meet
    case rel =>
      obtain ⟨z1, z2⟩ := OvAt.push_lp hO o_bp o_bn o_lq a_bp_bn a_bp_lp a_bp_lq a_bn_lp a_bn_lq a_lp_lq n_bp n_bn n_lp n_lq x_bp x_bn x_lp x_lq xO hXl (keeps_alloc_all w _) (Nat.le_succ _) own9 hgrow9 hat9
      exact ⟨z1, z2⟩
  case rest =>
    obtain ⟨hov1, hk1⟩ := hcut
    clear hov
    obtain ⟨w1, hw1⟩ : ∃ w1 : World, w1 = wc := ⟨_, rfl⟩
    subst hw1
    go_upto_region 3 with fail
    go_cut [] (fun wx => OvAt wx O nv av pos BP BN (LP ++ [p]) (LQ ++ [q]) X ∧ Keeps X w wx)
    case first =>
      obtain ⟨bp, bn, lp, lq, hO, o_bp, o_bn, o_lp, o_lq, a_bp_bn, a_bp_lp, a_bp_lq, a_bn_lp, a_bn_lq, a_lp_lq, n_bp, n_bn, n_lp, n_lq, x_bp, x_bn, x_lp, x_lq, xO, hXl⟩ := hov1
      have c : w1.cell? ⟨O, 8, none⟩ = some lq := blk_cell hO 8
      have lO := blk_lt hO
      go_wp2_with (at_builtin; refine wpList_append_lies _ rfl _ _ 24 rfl 0 2 i2 _ 1 8 Try.underlying24 hi2 hz20 hz21 hz22 rfl (by omega) lq LQ.length (ints LQ) rfl (o_lq.alloc _) ⟨w1.heap.size, 0, none⟩ 1 1 [.int .i64 q] rfl rfl (World.news_of_block (cs := #[.int .i64 q]) (t := 2) (fr := (0, 0)) (heap_alloc_new w1 _)) (by simp [Value.oneCell']) (by omega) (by simp only [maxLen]; omega) (by omega) (by omega) (w1.heap.size + 1) (by simp) ?_)
      intro g cap w9 own9 hgrow9 hat9 hlt9
      have hO9 := blk_grown hgrow9 (o := .cells #[.int .i64 0, .slice none 0 0, nv, .int .i64 pos, av, bp, bn, lp, lq] 32 (0, 0)) (b := O) (blk_alloc hO _) n_lq
      have f9 : w9.frozen? ⟨O, 8, none⟩ = false := blk_frozen hO9 8
      have c9 : w9.cell? ⟨O, 8, none⟩ = some lq := blk_cell hO9 8
      go_wp2_with fail
      go_meet
      case rel =>
        obtain ⟨z1, z2⟩ := OvAt.push_lq hO o_bp o_bn o_lp a_bp_bn a_bp_lp a_bp_lq a_bn_lp a_bn_lq a_lp_lq n_bp n_bn n_lp n_lq x_bp x_bn x_lp x_lq xO hXl (keeps_alloc_all w1 _) (Nat.le_succ _) own9 hgrow9 hat9
        exact ⟨z1, hk1.trans z2⟩
    case rest =>
      obtain ⟨hov2, hk2⟩ := hcut
      clear hov1 hk1
      have hb3 := hb.keeps hbx hk2
      have c4 : wc.cell? ⟨O, 4, none⟩ = some av := by obtain ⟨_, _, _, _, hO, _⟩ := hov2; exact blk_cell hO 4
      have hav : ∃ ao n c, av = .slice ao n c := by obtain ⟨ao, cap, rfl, _⟩ := hb; exact ⟨_, _, _, rfl⟩
      obtain ⟨ao, n, c, rfl⟩ := hav
      have HH := hide hov2
      clear hov2
      go_wp2_with (go_at_call 15; refine (answer_any _ bs LQ.length _ hb3 hbl).mono ?_; rintro e w' ⟨rfl, hw⟩; obtain rfl := hw.symm)
      go_ret
      exact ⟨rfl, HH.out, hk2⟩

set_option maxRecDepth 100000 in
set_option maxHeartbeats 3200000 in
theorem boot_any (O k : Nat) (p n : Int) (nv av : Value) (zs : List Int) (BP BN LP LQ : List Int) (X : Nat → Prop) (w : World)
    (hov : OvAt w O nv av k BP BN LP LQ X) (hz : IntsAt w nv zs) (hzx : liesIn X nv) (hzl : zs.length ≤ 1099511627776) (hk : k ≤ zs.length)
    (h1 : BP.length ≤ 1099511627776) (h2 : BN.length ≤ 1099511627776) :
    Calls Try.prog 76 #[.pointer (some ⟨O, 0, none⟩), .int .i64 p, .int .i64 n] w fun e w' => Keeps X w w' ∧
      ((zs.length ≤ k ∧ e = .returned (.slice none 0 0) ∧ OvAt w' O nv av k (BP ++ [p]) (BN ++ [n]) LP LQ X) ∨
       (∃ z g, zs[k]? = some z ∧ e = .returned (.slice (some ⟨g, 0, none⟩) 1 1) ∧ w'.cell? ⟨g, 0, none⟩ = some (.int .i64 z) ∧ OvAt w' O nv av (k + 1 : Nat) (BP ++ [p]) (BN ++ [n]) LP LQ (fun x => X x ∨ x = g))) := by
  obtain ⟨i2, hi2, hz20, hz21, hz22⟩ := info_parts info2
  obtain ⟨i3, hi3, hz30, hz31, hz32⟩ := info_parts info3
  obtain ⟨pos, hpos⟩ : ∃ pos : Int, pos = k := ⟨_, rfl⟩
  rw [← hpos] at hov
  have HP := hide hpos
  clear hpos
  go_enter Try.func76, Try.ntmps76
  go_upto_region 1 with fail
  go_cut [] (fun wx => OvAt wx O nv av pos (BP ++ [p]) BN LP LQ X ∧ Keeps X w wx)
  case first =>
    obtain ⟨bp, bn, lp, lq, hO, o_bp, o_bn, o_lp, o_lq, a_bp_bn, a_bp_lp, a_bp_lq, a_bn_lp, a_bn_lq, a_lp_lq, n_bp, n_bn, n_lp, n_lq, x_bp, x_bn, x_lp, x_lq, xO, hXl⟩ := hov
    have c : w.cell? ⟨O, 5, none⟩ = some bp := blk_cell hO 5
    have lO := blk_lt hO
    go_wp2_with (at_builtin; refine wpList_append_lies _ rfl _ _ 24 rfl 0 2 i2 _ 1 8 Try.underlying24 hi2 hz20 hz21 hz22 rfl (by omega) bp BP.length (ints BP) rfl (o_bp.alloc _) ⟨w.heap.size, 0, none⟩ 1 1 [.int .i64 p] rfl rfl (World.news_of_block (cs := #[.int .i64 p]) (t := 2) (fr := (0, 0)) (heap_alloc_new w _)) (by simp [Value.oneCell']) (by omega) (by simp only [maxLen]; omega) (by omega) (by omega) (w.heap.size + 1) (by simp) ?_)
    intro g cap w9 own9 hgrow9 hat9 hlt9
    have hO9 := blk_grown hgrow9 (o := .cells #[.int .i64 0, .slice none 0 0, nv, .int .i64 pos, av, bp, bn, lp, lq] 32 (0, 0)) (b := O) (blk_alloc hO _) n_bp
    have f9 : w9.frozen? ⟨O, 5, none⟩ = false := blk_frozen hO9 5
    have c9 : w9.cell? ⟨O, 5, none⟩ = some bp := blk_cell hO9 5
    go_wp2_with fail
    go_meet
    case rel =>
      obtain ⟨z1, z2⟩ := OvAt.push_bp hO o_bn o_lp o_lq a_bp_bn a_bp_lp a_bp_lq a_bn_lp a_bn_lq a_lp_lq n_bp n_bn n_lp n_lq x_bp x_bn x_lp x_lq xO hXl (keeps_alloc_all w _) (Nat.le_succ _) own9 hgrow9 hat9
      exact ⟨z1, z2⟩
  case rest =>
    obtain ⟨hov1, hk1⟩ := hcut
    clear hov
    obtain ⟨w1, hw1⟩ : ∃ w1 : World, w1 = wc := ⟨_, rfl⟩
    subst hw1
    go_upto_region 2 with fail
    go_cut [] (fun wx => OvAt wx O nv av pos (BP ++ [p]) (BN ++ [n]) LP LQ X ∧ Keeps X w wx)
    case first =>
      obtain ⟨bp, bn, lp, lq, hO, o_bp, o_bn, o_lp, o_lq, a_bp_bn, a_bp_lp, a_bp_lq, a_bn_lp, a_bn_lq, a_lp_lq, n_bp, n_bn, n_lp, n_lq, x_bp, x_bn, x_lp, x_lq, xO, hXl⟩ := hov1
      have c : w1.cell? ⟨O, 6, none⟩ = some bn := blk_cell hO 6
      have lO := blk_lt hO
      go_wp2_with (at_builtin; refine wpList_append_lies _ rfl _ _ 30 rfl 0 3 i3 _ 1 8 Try.underlying30 hi3 hz30 hz31 hz32 rfl (by omega) bn BN.length (ints BN) rfl (o_bn.alloc _) ⟨w1.heap.size, 0, none⟩ 1 1 [.int .i64 n] rfl rfl (World.news_of_block (cs := #[.int .i64 n]) (t := 3) (fr := (0, 0)) (heap_alloc_new w1 _)) (by simp [Value.oneCell']) (by omega) (by simp only [maxLen]; omega) (by omega) (by omega) (w1.heap.size + 1) (by simp) ?_)
      intro g cap w9 own9 hgrow9 hat9 hlt9
      have hO9 := blk_grown hgrow9 (o := .cells #[.int .i64 0, .slice none 0 0, nv, .int .i64 pos, av, bp, bn, lp, lq] 32 (0, 0)) (b := O) (blk_alloc hO _) n_bn
      have f9 : w9.frozen? ⟨O, 6, none⟩ = false := blk_frozen hO9 6
      have c9 : w9.cell? ⟨O, 6, none⟩ = some bn := blk_cell hO9 6
      go_wp2_with fail
      go_meet
      case rel =>
        obtain ⟨z1, z2⟩ := OvAt.push_bn hO o_bp o_lp o_lq a_bp_bn a_bp_lp a_bp_lq a_bn_lp a_bn_lq a_lp_lq n_bp n_bn n_lp n_lq x_bp x_bn x_lp x_lq xO hXl (keeps_alloc_all w1 _) (Nat.le_succ _) own9 hgrow9 hat9
        exact ⟨z1, hk1.trans z2⟩
    case rest =>
      obtain ⟨hov2, hk2⟩ := hcut
      clear hov1 hk1
      rw [HP.out] at hov2
      obtain ⟨w2, hw2⟩ : ∃ w2 : World, w2 = wc := ⟨_, rfl⟩
      subst hw2
      have hz2 := hz.keeps hzx hk2
      obtain ⟨na, nc, rfl, hnc, hnx⟩ := hz2
      have c2 : w2.cell? ⟨O, 2, none⟩ = some (.slice na zs.length nc) := by obtain ⟨_, _, _, _, hO, _⟩ := hov2; exact blk_cell hO 2
      have c3 : w2.cell? ⟨O, 3, none⟩ = some (.int .i64 k) := by obtain ⟨_, _, _, _, hO, _⟩ := hov2; exact blk_cell hO 3
      have f3 : w2.frozen? ⟨O, 3, none⟩ = false := by obtain ⟨_, _, _, _, hO, _⟩ := hov2; exact blk_frozen hO 3
      have xO : ¬ X O := by obtain ⟨_, _, _, _, _, _, _, _, _, _, _, _, _, _, _, _, _, _, _, _, _, _, _, xO, _⟩ := hov2; exact xO
      have lO : O < w2.heap.size := by obtain ⟨_, _, _, _, hO, _⟩ := hov2; exact blk_lt hO
      have HH := hide hov2
      have HK := hide hk2
      clear hov2 hk2 HP
      by_cases hlt : k < zs.length
      · obtain ⟨b, off, rfl, hcell⟩ := hnx (by omega)
        obtain ⟨z, hzk⟩ : ∃ z, zs[k]? = some z := ⟨_, List.getElem?_eq_getElem hlt⟩
        have cz : w2.cell? ⟨b, off + k, none⟩ = some (.int .i64 z) := by rw [hcell k hlt]; simp [hzk]
        have HZ := hide hzk
        have m0 : (0 : Int) ≤ (k : Int) := by omega
        have m1 : (k : Int) < (zs.length : Int) := by omega
        have dk : decide ((zs.length : Int) ≤ (k : Int)) = false := by simp; omega
        clear hcell hnx hzk hz
        go_wp2_with fail
        go_quiet (fail)
        revert nq; intro nq0
        go_wp2_with fail
        go_quiet (fail)
        go_wp2_with fail
        go_ret
        refine ⟨(((HK.out).drewN _).setCell xO _).alloc _, .inr ⟨z, w2.heap.size, HZ.out, rfl, ?_, ?_⟩⟩
        · have := blk_cell (heap_alloc_new ((w2.drewN (nq0 + nq)).setCell ⟨O, 3, none⟩ (.int .i64 ((k : Int) + 1))) (.cells #[.int .i64 z] 2)) 0
          rw [size_set] at this
          exact this
        · have := ((OvAt.heap HH.out (w' := w2.drewN (nq0 + nq)) rfl).setPos ((k : Int) + 1)).alloc (.cells #[.int .i64 z] 2)
          rw [size_set] at this
          exact this
      · have dk : decide ((zs.length : Int) ≤ (k : Int)) = true := by simp; omega
        go_wp2_with fail
        go_quiet (fail)
        go_wp2_with fail
        go_ret
        exact ⟨(HK.out).drewN _, .inl ⟨by omega, rfl, (HH.out).heap rfl⟩⟩

end Go.Proofs.Qxb6613901a
