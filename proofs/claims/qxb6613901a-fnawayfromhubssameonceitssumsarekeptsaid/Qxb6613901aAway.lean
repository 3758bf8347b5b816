import Derived.Test.Qxb6613901aDraw
import Derived.Deep.AppendLies
namespace Go.Proofs.Qxb6613901a
open Go Go.RowKit

theorem sums_take_succ (ds : List Int) (m : Nat) (h : m < ds.length) : flts ((sums ds).take (m + 1)) = flts ((sums ds).take m) ++ [.float .f64 (Fl.sw (wts ds) (m + 1))] := by
  have hl : m < (sums ds).length := by rw [sums_length]; exact h
  rw [List.take_succ_eq_append_getElem hl]
  have := sums_get ds m h
  rw [List.getD_eq_getElem?_getD, List.getElem?_eq_getElem hl] at this
  simp only [Option.getD_some] at this
  rw [this]
  simp [flts]

theorem sums_take_len (ds : List Int) (m : Nat) (h : m ≤ ds.length) : ((sums ds).take m).length = m := by simp [sums_length]; omega

set_option maxRecDepth 100000 in
set_option maxHeartbeats 3200000 in
theorem away_fresh (H D R P : Nat) (a b : Int) (c u : Nat) (hd : Drawn a b c u) (ds : List Int) (w : World)
    (hh : HoldAt w H (.slice (some ⟨D, 0, none⟩) ds.length ds.length) (.slice none 0 0)) (hds : IntsAt w (.slice (some ⟨D, 0, none⟩) ds.length ds.length) ds)
    (hR : w.heap[R]? = some (.cells #[.iface 97 (.pointer (some ⟨P, 0, none⟩))] 112 (0, 0))) (hP : PcgAt w P a b)
    (nDH : D ≠ H) (nRH : R ≠ H) (nPH : P ≠ H) (nDP : D ≠ P)
    (h : Degs ds) (hn : ds.length ≤ 131072) (h0 : 0 < ds.length) (q X : Nat) (hq : Fl.V (Fl.sw (wts ds) ds.length) = 9007199254740992 * q) (hX : X = Fl.R (c * q)) :
    Calls Try.prog 38 #[.pointer (some ⟨H, 0, none⟩), .pointer (some ⟨R, 0, none⟩)] w fun e w' => e = .returned (.int .i64 (Fl.pick (wts ds) X 0 : Nat)) ∧
      ∃ iv, HoldAt w' H (.slice (some ⟨D, 0, none⟩) ds.length ds.length) iv ∧ w'.ownsRow 0 74 1 iv ds.length (flts (sums ds)) ∧ iv.ownBlock ≠ some H ∧ offX (fun k => k < w.heap.size ∧ k ≠ H) iv ∧ Keeps (fun k => (k < w.heap.size ∧ k ≠ H) ∧ k ≠ P) w w' := by
  obtain ⟨i74, hi, hz0, hz1, hz2⟩ := info_parts info74
  have lH := blk_lt hh
  have lR := blk_lt hR
  have lP : P < w.heap.size := blk_lt hP
  obtain ⟨_, _, e, -, fd⟩ := hds
  simp only [Value.slice.injEq, true_and] at e
  obtain ⟨rfl, rfl⟩ := e
  obtain ⟨D', o', e, hcell⟩ := fd h0
  simp only [Option.some.injEq, Addr.mk.injEq, and_true] at e
  obtain ⟨rfl, rfl⟩ := e
  have lD : D < w.heap.size := World.block_lt_of_cell? w _ (hcell 0 h0)
  have ch0 : w.cell? ⟨H, 0, none⟩ = some (.slice (some ⟨D, 0, none⟩) ds.length ds.length) := blk_cell hh 0
  have ch2 : w.cell? ⟨H, 2, none⟩ = some (.slice none 0 0) := blk_cell hh 2
  have HHH := hide (And.intro hh (And.intro hR hP))
  have HC := hide hcell
  have HD := hide h
  have HQ := hide (And.intro hd (And.intro hq hX))
  have hS := sw_run ds h
  have hS0 : Fl.sw (wts ds) 0 = 0 := rfl
  have HT1 := hide (sw_fin ds h ds.length hn)
  have HT2 := hide (sum_small ds h ds.length hn)
  have ncap : decide (ds.length = 0) = false := decide_eq_false (by omega)
  have HTS := hide (sums_take_succ ds)
  generalize hSS : Fl.sw (wts ds) = S at *
  have HSS := hide hSS
  have HS := hide hS
  have HS0 := hide hS0
  clear hh hR hP hcell fd hd hq hX h hS hSS hS0
  go_enter Try.func38, Try.ntmps38
  go_wp2_with fail
  go_quiet (fail)
  go_wp2_with fail
  go_loopw [6, 39] (fun tv jv wr => ∃ (m : Nat) (iv : Value), m ≤ ds.length ∧ jv = .int .i64 m ∧ tv = .float .f64 (S m) ∧ Hid (HoldAt wr H (.slice (some ⟨D, 0, none⟩) ds.length ds.length) iv) ∧ Hid (wr.ownsRow 0 74 1 iv m (flts ((sums ds).take m))) ∧ Hid (iv.ownBlock ≠ some H) ∧ Hid (offX (fun k => k < w.heap.size ∧ k ≠ H) iv) ∧ Hid (Keeps (fun k => k < w.heap.size ∧ k ≠ H) w wr)) (fun _ jv _ => ds.length - (intOf jv).toNat)
  case atStart =>
    refine ⟨0, .slice none 0 0, Nat.zero_le _, rfl, ?_, HHH.out.1, ?_, ?_, ?_, ?_⟩
    · rw [HS0.out]
    · exact World.ownsRow_nil _ _ _ _
    · intro h; cases h
    · intro k hk; cases hk
    · exact (Keeps.refl _ w).drewN _
  case round =>
    obtain ⟨m, iv, hm, rfl, rfl, H1, H2, H3, H4, H5⟩ := hrel
    by_cases hlt : m < ds.length
    · have c0 : wr.cell? ⟨D, m, none⟩ = some (.int .i64 (ds.getD m 0)) := by
        have := HC.out m hlt
        rw [Nat.zero_add] at this
        exact H5.out.cell (a := ⟨D, m, none⟩) ⟨lD, nDH⟩ this
      have c2 : wr.cell? ⟨H, 2, none⟩ = some iv := blk_cell H1.out 2
      obtain ⟨d1, d2⟩ := degs_get HD.out hlt
      have HW := hide (weight_any _ d1 d2)
      have qa := HS.out m hlt hn
      have hts := HTS.out m hlt
      have HT := hide hts
      generalize ds.getD m 0 = d at *
      have m0 : (0 : Int) ≤ (m : Int) := by omega
      have m1 : (m : Int) < (ds.length : Int) := by omega
      clear d1 d2 hts
      go_wp2_with (first | (go_at_call 45; refine (HW.out _).mono ?_; rintro e w' ⟨rfl, hw⟩; obtain rfl := hw.symm) | (at_builtin; refine wpList_append_lies _ rfl _ _ 92 rfl 0 74 i74 _ 1 8 Try.underlying92 hi hz0 hz1 hz2 rfl (by omega) iv m (flts ((sums ds).take m)) rfl (H2.out.alloc _) ⟨wr.heap.size, 0, none⟩ 1 1 [.float .f64 (S (m + 1))] rfl rfl (World.news_of_block (cs := #[.float .f64 (S (m + 1))]) (t := 74) (fr := (0, 0)) (heap_alloc_new wr _)) (by simp [Value.oneCell']) (by omega) (by simp only [maxLen]; omega) (by omega) (by omega) (wr.heap.size + 1) (by simp) ?_))
      intro g1 cap1 w1 own1 hgrow hat1 hlt1
      have hH1 := blk_grown hgrow (b := H) (blk_alloc H1.out _) H3.out
      have f2 : w1.frozen? ⟨H, 2, none⟩ = false := blk_frozen hH1 2
      have c2' : w1.cell? ⟨H, 2, none⟩ = some iv := blk_cell hH1 2
      obtain ⟨pR, po, pnR, px, pk, -⟩ := push (j := 2) H1.out (keeps_alloc_all wr _) (Nat.le_succ _) (X := fun k => k < w.heap.size ∧ k ≠ H) (fun k hk => Nat.lt_of_lt_of_le hk.1 H5.out.size) H3.out H4.out (by simp) own1 hgrow hat1
      rw [← HT.out] at po
      have HP := hide (And.intro pR (And.intro po (And.intro pnR (And.intro px pk))))
      clear own1 hgrow hat1 hlt1 hH1 pR po pnR px pk
      go_wp2_with fail
      go_roundw
      case rel => exact ⟨m + 1, _, by omega, by go_num, rfl, HP.out.1, HP.out.2.1, HP.out.2.2.1, HP.out.2.2.2.1, H5.out.trans HP.out.2.2.2.2⟩
      case measure => simp [intOf]; omega
    · obtain rfl : m = ds.length := by omega
      have dm : decide ((ds.length : Int) < (ds.length : Int)) = false := by simp
      have own : wr.ownsRow 0 74 1 iv ds.length (flts (sums ds)) := by
        have := H2.out
        rwa [List.take_of_length_le (by rw [sums_length]; exact Nat.le_refl _)] at this
      obtain ⟨g, cap, rfl⟩ : ∃ g cap, iv = .slice (some ⟨g, 0, none⟩) ds.length cap := by
        obtain ⟨-, ⟨-, hz⟩ | ⟨g, cap, cur, e, -⟩⟩ := own
        · omega
        · exact ⟨g, cap, e⟩
      have hfl : FltsAt wr (.slice (some ⟨g, 0, none⟩) ds.length cap) (sums ds) := owns_flts (by rw [sums_length]; exact own)
      have gP : g ≠ P := fun e => H4.out g rfl (by rw [e]; exact ⟨lP, nPH⟩)
      have ci2 : wr.cell? ⟨H, 2, none⟩ = some (.slice (some ⟨g, 0, none⟩) ds.length cap) := blk_cell H1.out 2
      have cT : wr.cell? ⟨g, ds.length - 1, none⟩ = some (.float .f64 (S ds.length)) := by
        rw [own.cellAt (ds.length - 1) (by omega)]
        have := sums_get ds (ds.length - 1) (by omega)
        rw [HSS.out, show ds.length - 1 + 1 = ds.length by omega] at this
        rw [← this]
        have hl : ds.length - 1 < (sums ds).length := by rw [sums_length]; omega
        simp [flts, List.getD, hl]
      have HRr := hide (H5.out.at ⟨lR, nRH⟩ HHH.out.2.1)
      have HPr : Hid (PcgAt wr P a b) := H5.out.at ⟨lP, nPH⟩ HHH.out.2.2
      obtain ⟨hx1, hx2, hx3⟩ := HQ.out
      have HX := hide (mulT_run c u (S ds.length) q hx1.1 hx1.2.1 HT1.out hx2 HT2.out)
      rw [← hx3] at HX
      have HDR := hide (draw_any a b c u hx1 (S ds.length) q HT1.out hx2 HT2.out X hx3 R P)
      have HOW := hide own
      have HFL := hide hfl
      obtain ⟨r, hr⟩ : ∃ r, ds.length - 1 = r := ⟨_, rfl⟩
      have r1 : (ds.length : Int) - 1 = (r : Int) := by omega
      have r2 : IntKind.i64.wrap (r : Int) = (r : Int) := IntWalk.i64_in _ ⟨by omega, by omega⟩
      have r3 : (0 : Int) ≤ (r : Int) := by omega
      have r4 : (r : Int) < (ds.length : Int) := by omega
      rw [hr] at cT
      clear hr
      clear own hfl hx1 hx2 hx3 HTS HT1 HS HS0
      go_wp2_with fail
      go_region_held3 (fun w' => w'.cell? ⟨H, 2, none⟩ = some (.slice (some ⟨g, 0, none⟩) ds.length cap) ∧ w'.cell? ⟨g, r, none⟩ = some (.float .f64 (S ds.length)))
        (first
          | go_keep
          | exact ⟨hk.cell (a := ⟨H, 2, none⟩) (Ne.symm nPH) ci2, hk.cell (a := ⟨g, r, none⟩) gP cT⟩)
        ((go_at_call 46; refine (HDR.out _ (by exact blk_cell HRr.out 0) (by exact HPr.out)).mono ?_; rintro e w1 ⟨rfl, hk⟩))
      have hk' : Keeps (fun k => k ≠ P) wr w1 := ⟨hk.os, hk.tape, hk.output, hk.size, hk.block⟩
      have K1 : Hid (HoldAt w1 H (.slice (some ⟨D, 0, none⟩) ds.length ds.length) (.slice (some ⟨g, 0, none⟩) ds.length cap)) := hk'.at (Ne.symm nPH) H1.out
      have K2 : Hid (w1.ownsRow 0 74 1 (.slice (some ⟨g, 0, none⟩) ds.length cap) ds.length (flts (sums ds))) := owns_keeps HOW.out hk' (fun k hk => by cases hk; exact gP)
      have K3 : Hid (FltsAt w1 (.slice (some ⟨g, 0, none⟩) ds.length cap) (sums ds)) := owns_flts (by rw [sums_length]; exact K2.out)
      have K4 : Hid (IntsAt w1 (.slice (some ⟨D, 0, none⟩) ds.length ds.length) ds) := ⟨_, _, rfl, Nat.le_refl _, fun _ => ⟨D, 0, rfl, fun k hk => hk'.cell (a := ⟨D, 0 + k, none⟩) nDP (H5.out.cell (a := ⟨D, 0 + k, none⟩) ⟨lD, nDH⟩ (HC.out k hk))⟩⟩
      have K5 : Hid (Keeps (fun k => (k < w.heap.size ∧ k ≠ H) ∧ k ≠ P) w w1) := (H5.out.mono fun k hk => hk.1).trans (hk'.mono fun k hk => hk.2)
      have HXS : Hid (Fl.V X ≤ 2 ^ 1092) := Nat.le_trans HX.out.2.2 (by rw [← HQ.out.2.1]; exact HT2.out)
      clear hk hk' HRr HPr HDR HOW HFL ci2 cT H1 H2 H5
      go_wp2_with fail
      refine (told_any H _ _ ds X q w1 K1.out K3.out HD.out hn h0 HX.out.2.1 (by rw [HSS.out]; exact HQ.out.2.1) HX.out.2.2).mono ?_
      rintro e w2 ⟨⟨i, bb, rfl, hb⟩, nq, rfl⟩
      cases bb with
      | true =>
        have HB := hide (hb rfl)
        clear hb
        go_wp2_with fail
        go_ret
        exact ⟨by rw [← HB.out]; rfl, _, K1.out, K2.out, H3.out, H4.out, K5.out.drewN nq⟩
      | false =>
        clear hb
        go_wp2_with fail
        refine (pick_any H _ _ ds X _ (by exact K1.out) (by exact K4.out) HD.out hn h0 HX.out.2.1 HXS.out).mono ?_
        rintro e w3 ⟨rfl, hw3⟩
        obtain rfl := hw3.symm
        go_wp2_with fail
        go_ret
        exact ⟨rfl, _, K1.out, K2.out, H3.out, H4.out, K5.out.drewN nq⟩

end Go.Proofs.Qxb6613901a
