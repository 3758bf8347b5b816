import Derived.Test.Qxb6613901aLeaf
import Derived.Deep.RegionHeld3
import Derived.Deep.RegionLaw
import Derived.Deep.DrawnRows
import Derived.Deep.DeepCutAuto
import Derived.KernelRfl
namespace Go.Proofs.Qxb6613901a
open Go Go.RowKit

theorem info2 : (Try.prog.info? 2).map (fun i => (i.zero, i.size, i.bytes)) = some (some (.int .i64 0), 1, 8) := by kernel_rfl
theorem info3 : (Try.prog.info? 3).map (fun i => (i.zero, i.size, i.bytes)) = some (some (.int .i64 0), 1, 8) := by kernel_rfl

/-- The recorder at block R: what it holds, apart from X. -/
def RecAt (w : World) (R : Nat) (stp : Int) (av : Value) (ss js is : List Int) (X : Nat → Prop) : Prop :=
  ∃ sv jv iv, w.heap[R]? = some (.cells #[.int .i64 stp, av, sv, jv, iv] 38 (0, 0)) ∧
    w.ownsRow 0 3 1 sv ss.length (ints ss) ∧ w.ownsRow 0 3 1 jv js.length (ints js) ∧ w.ownsRow 0 2 1 iv is.length (ints is) ∧
    apartV sv jv ∧ apartV sv iv ∧ apartV jv iv ∧ sv.ownBlock ≠ some R ∧ jv.ownBlock ≠ some R ∧ iv.ownBlock ≠ some R ∧ offX X sv ∧ offX X jv ∧ offX X iv ∧ ¬ X R ∧ (∀ k, X k → k < w.heap.size)

attribute [local go_sem ↓] Go.wp_at_zero Go.wp_at_succ

theorem ints_snoc (l : List Int) (x : Int) : ints (l ++ [x]) = ints l ++ [.int .i64 x] := by simp [ints]

set_option maxRecDepth 100000 in
set_option maxHeartbeats 3200000 in
theorem link_any (R : Nat) (stp join q : Int) (av : Value) (bs : List Bool) (ss js is : List Int) (X : Nat → Prop) (w : World)
    (hrec : RecAt w R stp av ss js is X) (hb : BoolsAt w av bs) (hbx : liesIn X av) (hbl : bs.length ≤ 1099511627776)
    (hs : ss.length ≤ 1099511627776) (hj : js.length ≤ 1099511627776) (hi : is.length ≤ 1099511627776) :
    Calls Try.prog 11 #[.pointer (some ⟨R, 0, none⟩), .int .i64 join, .int .i64 q] w fun e w' =>
      e = .returned (.bool (ans bs join)) ∧ RecAt w' R stp av (ss ++ [stp]) (js ++ [join]) (is ++ [q]) X ∧ Keeps X w w' := by
  obtain ⟨i2, hi2, hz20, hz21, hz22⟩ := info_parts info2
  obtain ⟨i3, hi3, hz30, hz31, hz32⟩ := info_parts info3
  go_enter Try.func11, Try.ntmps11
  go_upto_region 1 with fail
  go_cut [] (fun wx => RecAt wx R stp av (ss ++ [stp]) js is X ∧ Keeps X w wx)
  case first =>
    obtain ⟨sv, jv, iv, hR, os, oj, oi, asj, asi, aji, sR, jR, iR, xs, xj, xi, xR, hXl⟩ := hrec
    have c0 : w.cell? ⟨R, 0, none⟩ = some (.int .i64 stp) := blk_cell hR 0
    have c2 : w.cell? ⟨R, 2, none⟩ = some sv := blk_cell hR 2
    have lR := blk_lt hR
    go_region_law
      ((refine step_append_lies _ (by rfl) _ _ _ (by rfl) 0 3 i3 _ 1 8 Try.underlying30 hi3 hz30 hz31 hz32 rfl (by omega) sv ss.length (ints ss) (by rfl) ((os.alloc _).drew)
          ⟨w.heap.size, 0, none⟩ 1 1 [.int .i64 stp] (by rfl) (by rfl) (World.news_of_block (cs := #[.int .i64 stp]) (t := 3) (fr := (0, 0)) (heap_alloc_new w _)) (by simp [Value.oneCell'])
          (by omega) (by simp only [maxLen]; omega) (by omega) (by omega) (w.heap.size + 1) (by simp) ?_; intro g1 cap1 w1 own1 hgrow hat1 hlt1; have hR1 := blk_grown hgrow (o := .cells #[.int .i64 stp, av, sv, jv, iv] 38 (0, 0)) (b := R) (blk_alloc hR _) sR; have f21 : w1.frozen? ⟨R, 2, none⟩ = false := blk_frozen hR1 2; have c21 : w1.cell? ⟨R, 2, none⟩ = some sv := blk_cell hR1 2))
    all_goals
      go_wp2_with fail
      go_meet
      case rel =>
        obtain ⟨pR, po, pnR, px, pk, pz⟩ := push (j := 2) hR (keeps_alloc_all w _).drew (Nat.le_succ _) hXl sR xs xR own1 hgrow hat1
        obtain ⟨qj, aj⟩ := pz _ _ _ _ oj asj jR
        obtain ⟨qi, ai⟩ := pz _ _ _ _ oi asi iR
        refine ⟨⟨_, jv, iv, pR, ?_, qj, qi, aj, ai, aji, pnR, jR, iR, px, xj, xi, xR, fun k hk => Nat.lt_of_lt_of_le (hXl k hk) pk.size⟩, pk⟩
        rw [ints_snoc]; simpa using po
  case rest =>
    obtain ⟨hrec1, hk1⟩ := hcut
    clear hrec
    obtain ⟨w1, hw1⟩ : ∃ w1 : World, w1 = wc := ⟨_, rfl⟩
    subst hw1
    go_upto_region 2 with fail
    go_cut [] (fun wx => RecAt wx R stp av (ss ++ [stp]) (js ++ [join]) is X ∧ Keeps X w wx)
    case first =>
      obtain ⟨sv, jv, iv, hR, os, oj, oi, asj, asi, aji, sR, jR, iR, xs, xj, xi, xR, hXl⟩ := hrec1
      have c3 : w1.cell? ⟨R, 3, none⟩ = some jv := blk_cell hR 3
      have lR := blk_lt hR
      go_wp2_with (at_builtin; refine wpList_append_lies _ rfl _ _ 30 rfl 0 3 i3 _ 1 8 Try.underlying30 hi3 hz30 hz31 hz32 rfl (by omega) jv js.length (ints js) rfl (oj.alloc _) ⟨w1.heap.size, 0, none⟩ 1 1 [.int .i64 join] rfl rfl (World.news_of_block (cs := #[.int .i64 join]) (t := 3) (fr := (0, 0)) (heap_alloc_new w1 _)) (by simp [Value.oneCell']) (by omega) (by simp only [maxLen]; omega) (by omega) (by omega) (w1.heap.size + 1) (by simp) ?_)
      intro g2 cap2 w2 own2 hgrow2 hat2 hlt2
      have hR2 := blk_grown hgrow2 (o := .cells #[.int .i64 stp, av, sv, jv, iv] 38 (0, 0)) (b := R) (blk_alloc hR _) jR
      have f32 : w2.frozen? ⟨R, 3, none⟩ = false := blk_frozen hR2 3
      have c32 : w2.cell? ⟨R, 3, none⟩ = some jv := blk_cell hR2 3
      go_wp2_with fail
      go_meet
      case rel =>
        obtain ⟨pR, po, pnR, px, pk, pz⟩ := push (j := 3) hR (keeps_alloc_all w1 _) (Nat.le_succ _) hXl jR xj xR own2 hgrow2 hat2
        obtain ⟨qs, as1⟩ := pz _ _ _ _ os asj.symm sR
        obtain ⟨qi, ai⟩ := pz _ _ _ _ oi aji iR
        refine ⟨⟨sv, _, iv, pR, qs, ?_, qi, as1.symm, asi, ai, sR, pnR, iR, xs, px, xi, xR, fun k hk => Nat.lt_of_lt_of_le (hXl k hk) pk.size⟩, hk1.trans pk⟩
        rw [ints_snoc]; simpa using po
    case rest =>
      obtain ⟨hrec2, hk2⟩ := hcut
      clear hrec1 hk1
      obtain ⟨w2, hw2⟩ : ∃ w2 : World, w2 = wc := ⟨_, rfl⟩
      subst hw2
      go_upto_region 3 with fail
      go_cut [] (fun wx => RecAt wx R stp av (ss ++ [stp]) (js ++ [join]) (is ++ [q]) X ∧ Keeps X w wx)
      case first =>
        obtain ⟨sv, jv, iv, hR, os, oj, oi, asj, asi, aji, sR, jR, iR, xs, xj, xi, xR, hXl⟩ := hrec2
        have c4 : w2.cell? ⟨R, 4, none⟩ = some iv := blk_cell hR 4
        have lR := blk_lt hR
        go_wp2_with (at_builtin; refine wpList_append_lies _ rfl _ _ 24 rfl 0 2 i2 _ 1 8 Try.underlying24 hi2 hz20 hz21 hz22 rfl (by omega) iv is.length (ints is) rfl (oi.alloc _) ⟨w2.heap.size, 0, none⟩ 1 1 [.int .i64 q] rfl rfl (World.news_of_block (cs := #[.int .i64 q]) (t := 2) (fr := (0, 0)) (heap_alloc_new w2 _)) (by simp [Value.oneCell']) (by omega) (by simp only [maxLen]; omega) (by omega) (by omega) (w2.heap.size + 1) (by simp) ?_)
        intro g3 cap3 w3 own3 hgrow3 hat3 hlt3
        have hR3 := blk_grown hgrow3 (o := .cells #[.int .i64 stp, av, sv, jv, iv] 38 (0, 0)) (b := R) (blk_alloc hR _) iR
        have f43 : w3.frozen? ⟨R, 4, none⟩ = false := blk_frozen hR3 4
        have c43 : w3.cell? ⟨R, 4, none⟩ = some iv := blk_cell hR3 4
        go_wp2_with fail
        go_meet
        case rel =>
          obtain ⟨pR, po, pnR, px, pk, pz⟩ := push (j := 4) hR (keeps_alloc_all w2 _) (Nat.le_succ _) hXl iR xi xR own3 hgrow3 hat3
          obtain ⟨qs, as1⟩ := pz _ _ _ _ os asi.symm sR
          obtain ⟨qj, aj⟩ := pz _ _ _ _ oj aji.symm jR
          refine ⟨⟨sv, jv, _, pR, qs, qj, ?_, asj, as1.symm, aj.symm, sR, jR, pnR, xs, xj, px, xR, fun k hk => Nat.lt_of_lt_of_le (hXl k hk) pk.size⟩, hk2.trans pk⟩
          rw [ints_snoc]; simpa using po
      case rest =>
        obtain ⟨hrec3, hk3⟩ := hcut
        clear hrec2 hk2
        have hb3 := hb.keeps hbx hk3
        have c1 : wc.cell? ⟨R, 1, none⟩ = some av := by obtain ⟨sv, jv, iv, hR, _⟩ := hrec3; exact blk_cell hR 1
        have hav : ∃ ao n c, av = .slice ao n c := by obtain ⟨ao, cap, rfl, _⟩ := hb; exact ⟨_, _, _, rfl⟩
        obtain ⟨ao, n, c, rfl⟩ := hav
        have HR := hrec3
        have HH : Hid (RecAt wc R stp (.slice ao n c) (ss ++ [stp]) (js ++ [join]) (is ++ [q]) X) := HR
        clear HR hrec3
        go_wp2_with (go_at_call 15; refine (answer_any _ bs join _ hb3 hbl).mono ?_; rintro e w' ⟨rfl, rfl⟩)
        go_ret
        exact ⟨rfl, HH.out, hk3⟩

end Go.Proofs.Qxb6613901a
