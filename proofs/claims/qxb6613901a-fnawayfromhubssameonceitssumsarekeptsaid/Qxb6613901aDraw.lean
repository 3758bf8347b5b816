import Derived.Test.Qxb6613901aSearchInv
namespace Go.Proofs.Qxb6613901a
open Go Go.RowKit

/-- What Float64 gives for two seeds. -/
def Drawn (a b : Int) (c u : Nat) : Prop :=
  c < 9007199254740992 ∧ u = Fl.R (c * 2 ^ 1021) ∧ ∀ w R P, w.cell? ⟨R, 0, none⟩ = some (.iface 97 (.pointer (some ⟨P, 0, none⟩))) → PcgAt w P a b → Calls Try.prog 33 #[.pointer (some ⟨R, 0, none⟩)] w fun e w' => e = .returned (.float .f64 u) ∧ Keeps (fun k => k ≠ P) w w'

set_option exponentiation.threshold 3000 in
theorem mulT_run (c u T q : Nat) (hc : c < 9007199254740992) (hu : u = Fl.R (c * 2 ^ 1021)) (hT : T < 9218868437227405312) (hq : Fl.V T = 9007199254740992 * q) (hTs : Fl.V T ≤ 2 ^ 1092) :
    (∀ w, (binOp .mul 74 (.float .f64 u) (.float .f64 T)).run Try.prog w = .ok (.float .f64 (Fl.R (c * q))) w) ∧ Fl.R (c * q) < 9218868437227405312 ∧ Fl.V (Fl.R (c * q)) ≤ 9007199254740992 * q := by
  have hle : c * q ≤ Fl.V T := by rw [hq]; exact Nat.mul_le_mul_right _ (Nat.le_of_lt hc)
  have hs : c * q < 2 ^ 1200 := small_1200 (Nat.le_trans hle hTs)
  refine ⟨fun w => ?_, Fl.R_small hs, by rw [← hq]; exact Fl.R_le hle⟩
  refine run_float_arith w .mul 74 .f64 _ _ _ (Fl.mul_pos ?_ hT ?_ hs)
  · rw [hu]; exact Fl.R_small (Fl.scaled_small c 1021 hc (by decide))
  · rw [hu, Fl.V_exact c 1021 hc, hq, pow_1074]
    generalize 2 ^ 1021 = z
    rw [Nat.mul_assoc, Nat.mul_assoc, Nat.mul_left_comm q, Nat.mul_comm q]

set_option maxRecDepth 100000 in
theorem draw_any (a b : Int) (c u : Nat) (hd : Drawn a b c u) (T q : Nat) (hT : T < 9218868437227405312) (hq : Fl.V T = 9007199254740992 * q) (hTs : Fl.V T ≤ 2 ^ 1092) (X : Nat) (hX : X = Fl.R (c * q)) (R P : Nat) (w : World)
    (hr : w.cell? ⟨R, 0, none⟩ = some (.iface 97 (.pointer (some ⟨P, 0, none⟩)))) (hp : PcgAt w P a b) :
    Calls Try.prog 46 #[.pointer (some ⟨R, 0, none⟩), .float .f64 T] w fun e w' => e = .returned (.float .f64 X) ∧ Keeps (fun k => k ≠ P) w w' := by
  obtain ⟨hc, hu, hF⟩ := hd
  have qm := (mulT_run c u T q hc hu hT hq hTs).1
  rw [← hX] at qm
  have HF := hide (hF w R P hr hp)
  clear hF hr hp hc hu hX hT hq hTs
  go_enter Try.func46, Try.ntmps46
  go_wp2_with (go_at_call 33; refine (HF.out).mono ?_; rintro e w' ⟨rfl, hk⟩)
  go_ret
  exact ⟨rfl, hk⟩

theorem info74 : (Try.prog.info? 74).map (fun i => (i.zero, i.size, i.bytes)) = some (some (.float .f64 0), 1, 8) := by kernel_rfl

def flts (l : List Nat) : List Value := l.map (Value.float .f64)
theorem flts_length (l : List Nat) : (flts l).length = l.length := by simp [flts]

theorem owns_flts {w : World} {e : Nat} {v : Value} {l : List Nat} (h : w.ownsRow 0 e 1 v l.length (flts l)) : FltsAt w v l := by
  have h' := h
  obtain ⟨hl, ⟨rfl, h0⟩ | ⟨g', cap, cur, rfl, -, hh, hc, -, hs, ht⟩⟩ := h'
  · exact ⟨_, 0, by rw [h0], by omega, fun hp => absurd hp (by omega)⟩
  · refine ⟨_, cap, rfl, hc, fun _ => ⟨g', 0, rfl, fun k hk => ?_⟩⟩
    rw [Nat.zero_add, h.cellAt k (by omega)]
    simp [flts, List.getD, hk]

end Go.Proofs.Qxb6613901a
