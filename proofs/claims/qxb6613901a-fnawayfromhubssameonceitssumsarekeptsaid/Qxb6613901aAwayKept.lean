import Derived.Test.Qxb6613901aAway
namespace Go.Proofs.Qxb6613901a
open Go Go.RowKit

set_option maxRecDepth 100000 in
set_option maxHeartbeats 3200000 in
theorem away_kept (H D R P g cap : Nat) (a b : Int) (c u : Nat) (hd : Drawn a b c u) (ds : List Int) (w : World)
    (hh : HoldAt w H (.slice (some ⟨D, 0, none⟩) ds.length ds.length) (.slice (some ⟨g, 0, none⟩) ds.length cap)) (how : w.ownsRow 0 74 1 (.slice (some ⟨g, 0, none⟩) ds.length cap) ds.length (flts (sums ds))) (hds : IntsAt w (.slice (some ⟨D, 0, none⟩) ds.length ds.length) ds)
    (hR : w.heap[R]? = some (.cells #[.iface 97 (.pointer (some ⟨P, 0, none⟩))] 112 (0, 0))) (hP : PcgAt w P a b)
    (nPH : P ≠ H) (nDP : D ≠ P) (gP : g ≠ P)
    (h : Degs ds) (hn : ds.length ≤ 131072) (h0 : 0 < ds.length) (q X : Nat) (hq : Fl.V (Fl.sw (wts ds) ds.length) = 9007199254740992 * q) (hX : X = Fl.R (c * q)) :
    Calls Try.prog 38 #[.pointer (some ⟨H, 0, none⟩), .pointer (some ⟨R, 0, none⟩)] w fun e w' => e = .returned (.int .i64 (Fl.pick (wts ds) X 0 : Nat)) ∧ Keeps (fun k => k ≠ P) w w' := by
  obtain ⟨_, _, e, -, fd⟩ := hds
  simp only [Value.slice.injEq, true_and] at e
  obtain ⟨rfl, rfl⟩ := e
  obtain ⟨D', o', e, hcell⟩ := fd h0
  simp only [Option.some.injEq, Addr.mk.injEq, and_true] at e
  obtain ⟨rfl, rfl⟩ := e
  have ch0 : w.cell? ⟨H, 0, none⟩ = some (.slice (some ⟨D, 0, none⟩) ds.length ds.length) := blk_cell hh 0
  have ch2 : w.cell? ⟨H, 2, none⟩ = some (.slice (some ⟨g, 0, none⟩) ds.length cap) := blk_cell hh 2
  have HOW := hide how
  have HHH := hide (And.intro hh (And.intro hR hP))
  have HC := hide hcell
  have HD := hide h
  have HQ := hide (And.intro hd (And.intro hq hX))
  have HT1 := hide (sw_fin ds h ds.length hn)
  have HT2 := hide (sum_small ds h ds.length hn)
  have ncap : decide (ds.length = 0) = false := decide_eq_false (by omega)
  generalize hSS : Fl.sw (wts ds) = S at *
  have HSS := hide hSS
  have cT : w.cell? ⟨g, ds.length - 1, none⟩ = some (.float .f64 (S ds.length)) := by
    rw [how.cellAt (ds.length - 1) (by omega)]
    have := sums_get ds (ds.length - 1) (by omega)
    rw [hSS, show ds.length - 1 + 1 = ds.length by omega] at this
    rw [← this]
    have hl : ds.length - 1 < (sums ds).length := by rw [sums_length]; omega
    simp [flts, List.getD, hl]
  have dp1 : decide (0 < (ds.length : Int)) = true := decide_eq_true (by omega)
  have dp2 : decide (0 < ds.length) = true := decide_eq_true (by omega)
  obtain ⟨r, hr⟩ : ∃ r, ds.length - 1 = r := ⟨_, rfl⟩
  have r1 : (ds.length : Int) - 1 = (r : Int) := by omega
  have r2 : IntKind.i64.wrap (r : Int) = (r : Int) := IntWalk.i64_in _ ⟨by omega, by omega⟩
  have r3 : (0 : Int) ≤ (r : Int) := by omega
  have r4 : (r : Int) < (ds.length : Int) := by omega
  rw [hr] at cT
  clear hh hR hP hcell fd hd hq hX h hSS how hr
  go_enter Try.func38, Try.ntmps38
  go_wp2_with fail
  go_quiet (fail)
  go_wp2_with fail
  go_loopw [6, 39] (fun tv jv wr => jv = .int .i64 0 ∧ tv = .float .f64 (S ds.length) ∧ ∃ n, wr = w.drewN n) (fun _ jv _ => ds.length - (intOf jv).toNat)
  case atStart => exact ⟨rfl, rfl, _, rfl⟩
  case round =>
    obtain ⟨rfl, rfl, nr, rfl⟩ := hrel
    have HRr := hide HHH.out.2.1
    have HPr := hide HHH.out.2.2
    obtain ⟨hx1, hx2, hx3⟩ := HQ.out
    have HX := hide (mulT_run c u (S ds.length) q hx1.1 hx1.2.1 HT1.out hx2 HT2.out)
    rw [← hx3] at HX
    have HDR := hide (draw_any a b c u hx1 (S ds.length) q HT1.out hx2 HT2.out X hx3 R P)
    clear hx1 hx2 hx3 HT1
    go_wp2_with fail
    go_region_held3 (fun w' => w'.cell? ⟨H, 2, none⟩ = some (.slice (some ⟨g, 0, none⟩) ds.length cap) ∧ w'.cell? ⟨g, r, none⟩ = some (.float .f64 (S ds.length)))
      (first
        | go_keep
        | exact ⟨hk.cell (a := ⟨H, 2, none⟩) (Ne.symm nPH) ch2, hk.cell (a := ⟨g, r, none⟩) gP cT⟩)
      ((go_at_call 46; refine (HDR.out _ (by exact blk_cell HRr.out 0) (by exact HPr.out)).mono ?_; rintro e w1 ⟨rfl, hk⟩))
    have hk' : Keeps (fun k => k ≠ P) w w1 := ⟨hk.os, hk.tape, hk.output, hk.size, hk.block⟩
    have K1 : Hid (HoldAt w1 H (.slice (some ⟨D, 0, none⟩) ds.length ds.length) (.slice (some ⟨g, 0, none⟩) ds.length cap)) := hk'.at (Ne.symm nPH) HHH.out.1
    have K2 : Hid (w1.ownsRow 0 74 1 (.slice (some ⟨g, 0, none⟩) ds.length cap) ds.length (flts (sums ds))) := owns_keeps HOW.out hk' (fun k hk => by cases hk; exact gP)
    have K3 : Hid (FltsAt w1 (.slice (some ⟨g, 0, none⟩) ds.length cap) (sums ds)) := owns_flts (by rw [sums_length]; exact K2.out)
    have K4 : Hid (IntsAt w1 (.slice (some ⟨D, 0, none⟩) ds.length ds.length) ds) := ⟨_, _, rfl, Nat.le_refl _, fun _ => ⟨D, 0, rfl, fun k hk => hk'.cell (a := ⟨D, 0 + k, none⟩) nDP (HC.out k hk)⟩⟩
    have K5 : Hid (Keeps (fun k => k ≠ P) w w1) := hk'
    have HXS : Hid (Fl.V X ≤ 2 ^ 1092) := Nat.le_trans HX.out.2.2 (by rw [← HQ.out.2.1]; exact HT2.out)
    clear hk hk' HRr HPr HDR HOW ch2 cT K2 ch0
    go_wp2_with fail
    refine (told_any H _ _ ds X q w1 K1.out K3.out HD.out hn h0 HX.out.2.1 (by rw [HSS.out]; exact HQ.out.2.1) HX.out.2.2).mono ?_
    rintro e w2 ⟨⟨i, bb, rfl, hb⟩, nq, rfl⟩
    cases bb with
    | true =>
      have HB := hide (hb rfl)
      clear hb
      go_wp2_with fail
      go_ret
      exact ⟨by rw [← HB.out]; rfl, K5.out.drewN nq⟩
    | false =>
      clear hb
      go_wp2_with fail
      refine (pick_any H _ _ ds X _ (by exact K1.out) (by exact K4.out) HD.out hn h0 HX.out.2.1 HXS.out).mono ?_
      rintro e w3 ⟨rfl, hw3⟩
      obtain rfl := hw3.symm
      go_wp2_with fail
      go_ret
      exact ⟨rfl, K5.out.drewN nq⟩

end Go.Proofs.Qxb6613901a
