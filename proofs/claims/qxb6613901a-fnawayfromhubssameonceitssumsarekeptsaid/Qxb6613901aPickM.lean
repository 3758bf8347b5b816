import Derived.Test.Qxb6613901aClone
namespace Go.Proofs.Qxb6613901a
open Go Go.RowKit

set_option maxRecDepth 100000 in
theorem pick_any (H : Nat) (dv iv : Value) (ds : List Int) (x : Nat) (w : World) (hh : HoldAt w H dv iv) (hv : IntsAt w dv ds) (h : Degs ds) (hn : ds.length ≤ 131072) (h0 : 0 < ds.length) (hx : x < 9218868437227405312) (hxs : Fl.V x ≤ 2 ^ 1092) :
    Calls Try.prog 48 #[.pointer (some ⟨H, 0, none⟩), .float .f64 x, .func (.func 45) #[] #[]] w fun e w' => e = .returned (.int .i64 (Fl.pick (wts ds) x 0 : Nat)) ∧ w' = w := by
  obtain ⟨ao, cap, rfl, hcap, f⟩ := hv
  have HX := hide (And.intro hx hxs)
  have HD := hide h
  have ch : w.cell? ⟨H, 0, none⟩ = some (.slice ao ds.length cap) := blk_cell hh 0
  clear h hx hxs hh
  go_enter Try.func48, Try.ntmps48
  go_wp2_with fail
  go_loop [1, 14] (fun n i => ∃ (m y : Nat), m ≤ ds.length ∧ i = .int .i64 m ∧ n = .float .f64 y ∧ Hid (y < 9218868437227405312) ∧ Hid (Fl.V y ≤ 2 ^ 1092) ∧ Hid (Fl.pick ((wts ds).drop m) y m = Fl.pick (wts ds) x 0)) (fun _ i => ds.length - (intOf i).toNat)
  case atStart => exact ⟨0, x, Nat.zero_le _, rfl, rfl, HX.out.1, HX.out.2, rfl⟩
  case round =>
    obtain ⟨m, y, hm, rfl, rfl, hy1, hy2, hy3⟩ := hrel
    by_cases hlt : m < ds.length
    · obtain ⟨b, off, rfl, hcell⟩ := f (by omega)
      have c0 := hcell m hlt
      obtain ⟨d1, d2⟩ := degs_get HD.out hlt
      obtain ⟨z, qs, hz⟩ := pick_step ds HD.out x y m hlt hy1.out hy2.out hy3.out
      generalize ds.getD m 0 = d at *
      have HW := hide (weight_any d d1 d2)
      have m0 : (0 : Int) ≤ (m : Int) := by omega
      have m1 : (m : Int) < (ds.length : Int) := by omega
      clear hcell f d1 d2
      rcases hz with ⟨ho, hp⟩ | ⟨ho, z1, z2, z3⟩
      · have HP := hide hp
        clear hp
        go_wp2_with (go_at_call 45; refine (HW.out _).mono ?_; rintro e w' ⟨rfl, hw⟩; obtain rfl := hw.symm)
        go_ret
        exact ⟨by rw [HP.out]; rfl, rfl⟩
      · have HZ := hide (And.intro z1 (And.intro z2 z3))
        clear z1 z2 z3
        go_wp2_with (go_at_call 45; refine (HW.out _).mono ?_; rintro e w' ⟨rfl, hw⟩; obtain rfl := hw.symm)
        go_round
        case rel => exact ⟨m + 1, z, by omega, by go_num, rfl, HZ.out.1, HZ.out.2.1, HZ.out.2.2⟩
        case measure => simp [intOf]; omega
    · have dm : decide ((m : Int) < (ds.length : Int)) = false := by simp; omega
      obtain rfl : m = ds.length := by omega
      have HP := hide (pick_end ds x y hy3.out)
      go_wp2_with fail
      go_ret
      refine ⟨?_, rfl⟩
      have hc : ((ds.length - 1 : Nat) : Int) = (ds.length : Int) - 1 := by omega
      rw [HP.out, hc]
      rfl
end Go.Proofs.Qxb6613901a
