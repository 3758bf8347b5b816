import Derived.Test.Qxb6613901aLeadOps
namespace Go.Proofs.Qxb6613901a
open Go Go.RowKit

def leads (ids : List Int) (self : Int) (ls : List Int) : Bool := ls.any (ld ids self)

theorem leads_take_succ (ids : List Int) (self : Int) (ls : List Int) (k : Nat) (q : Int) (h : ls[k]? = some q) : leads ids self (ls.take (k + 1)) = (leads ids self (ls.take k) || ld ids self q) := by
  obtain ⟨hk, rfl⟩ := List.getElem?_eq_some_iff.1 h
  rw [leads, leads, List.take_succ_eq_append_getElem hk, List.any_append]
  simp
theorem leads_hit (ids : List Int) (self : Int) (ls : List Int) (k : Nat) (q : Int) (h : ls[k]? = some q) (hl : ld ids self q = true) : leads ids self ls = true := by
  rw [leads, List.any_eq_true]
  exact ⟨q, List.mem_of_getElem? h, hl⟩

theorem IntsAt.below {w w' : World} {v : Value} {zs : List Int} (h : IntsAt w v zs) (hb : Below w.heap.size w w') : IntsAt w' v zs := by
  obtain ⟨ao, cap, rfl, hc, f⟩ := h
  refine ⟨ao, cap, rfl, hc, fun h0 => ?_⟩
  obtain ⟨b, off, rfl, k⟩ := f h0
  refine ⟨b, off, rfl, fun i hi => ?_⟩
  have := k i hi
  exact (hb.cell (p := ⟨b, off + i, none⟩) (World.block_lt_of_cell? w _ this)).trans this

set_option maxRecDepth 100000 in
set_option maxHeartbeats 3200000 in
theorem index_any (S N : Nat) (self : Int) (lv v lst : Value) (ls ids : List Int) (w : World) (hlv : IntsAt w lv ls) (cS : w.cell? ⟨S, 0, none⟩ = some (.int .i64 self)) (cN0 : w.cell? ⟨N, 0, none⟩ = some v) (cN1 : w.cell? ⟨N, 1, none⟩ = some lst) (hv : AnsAt w v ids) (hl : ids.length ≤ 1000000) (hs : ascB ids = true) (hll : ls.length ≤ 1000000) :
    Calls Try.prog 49 #[lv, .func (.func 43) #[] #[.pointer (some ⟨S, 0, none⟩), .pointer (some ⟨N, 0, none⟩)]] w fun e w' => ∃ r : Int, e = .returned (.int .i64 r) ∧ decide (0 ≤ r) = leads ids self ls ∧ Below w.heap.size w w' := by
  have HS := hide hs
  have lS := World.block_lt_of_cell? w _ cS
  have lN := World.block_lt_of_cell? w _ cN0
  have hlv' := hlv
  obtain ⟨la, lc, rfl, hlc, -⟩ := hlv'
  clear hs
  go_enter Try.func49, Try.ntmps49
  go_wp2_with fail
  go_loopw [8] (fun iv wr => ∃ k : Nat, k ≤ ls.length ∧ iv = .int .i64 k ∧ Hid (leads ids self (ls.take k) = false) ∧ Below w.heap.size w wr) (fun iv _ => ls.length - (intOf iv).toNat)
  case atStart => exact ⟨0, Nat.zero_le _, rfl, (by simp [leads] : leads ids self (ls.take 0) = false), Below.refl _ _⟩
  case round =>
    obtain ⟨k, hk, rfl, HN, hbel⟩ := hrel
    by_cases hlt : k < ls.length
    · obtain ⟨_, _, e, -, f⟩ := hlv.below hbel
      simp only [Value.slice.injEq, true_and] at e
      obtain ⟨rfl, rfl⟩ := e
      obtain ⟨b, off, rfl, hcell⟩ := f (by omega)
      obtain ⟨q, hq⟩ : ∃ q, ls[k]? = some q := ⟨_, List.getElem?_eq_getElem hlt⟩
      have c0 : wr.cell? ⟨b, off + k, none⟩ = some (.int .i64 q) := by rw [hcell k hlt]; simp [hq]
      have HQ := hide hq
      have m0 : (0 : Int) ≤ (k : Int) := by omega
      have m1 : (k : Int) < (ls.length : Int) := by omega
      have cS1 := (hbel.cell (p := ⟨S, 0, none⟩) lS).trans cS
      have cN01 := (hbel.cell (p := ⟨N, 0, none⟩) lN).trans cN0
      have cN11 := (hbel.cell (p := ⟨N, 1, none⟩) lN).trans cN1
      have hv1 := hv.below hbel
      have hsz := hbel.size
      clear hcell f hq
      obtain ⟨bl, hbl⟩ : ∃ b, ld ids self q = b := ⟨_, rfl⟩
      have HBL := hide hbl
      clear hbl
      have HB := hide hbel
      clear hbel
      cases bl with
      | true =>
        go_wp2_with (go_at_call 43; refine (closure_any S N self q v lst ids _ cS1 cN01 cN11 hv1 hl HS.out).mono ?_; rw [HBL.out]; rintro e w' ⟨rfl, hb2⟩)
        go_ret
        exact ⟨k, rfl, by rw [leads_hit ids self ls k q HQ.out HBL.out]; simp, HB.out.trans (hb2.mono hsz)⟩
      | false =>
        go_wp2_with (go_at_call 43; refine (closure_any S N self q v lst ids _ cS1 cN01 cN11 hv1 hl HS.out).mono ?_; rw [HBL.out]; rintro e w' ⟨rfl, hb2⟩)
        go_roundw
        case rel => exact ⟨k + 1, by omega, by go_num, (by rw [leads_take_succ ids self ls k q HQ.out, HN.out, HBL.out]; rfl : leads ids self (ls.take (k + 1)) = false), HB.out.trans (hb2.mono hsz)⟩
        case measure => simp [intOf]; omega
    · have dk : decide ((k : Int) < (ls.length : Int)) = false := by simp; omega
      go_wp2_with fail
      go_ret
      refine ⟨-1, rfl, ?_, hbel⟩
      have := HN.out
      rw [List.take_of_length_le (by omega)] at this
      rw [this]; rfl

set_option maxRecDepth 100000 in
set_option maxHeartbeats 3200000 in
theorem containsF_any (S N : Nat) (self : Int) (lv v lst : Value) (ls ids : List Int) (w : World) (hlv : IntsAt w lv ls) (cS : w.cell? ⟨S, 0, none⟩ = some (.int .i64 self)) (cN0 : w.cell? ⟨N, 0, none⟩ = some v) (cN1 : w.cell? ⟨N, 1, none⟩ = some lst) (hv : AnsAt w v ids) (hl : ids.length ≤ 1000000) (hs : ascB ids = true) (hll : ls.length ≤ 1000000) :
    Calls Try.prog 42 #[lv, .func (.func 43) #[] #[.pointer (some ⟨S, 0, none⟩), .pointer (some ⟨N, 0, none⟩)]] w fun e w' => e = .returned (.bool (leads ids self ls)) ∧ Below w.heap.size w w' := by
  have HS := hide hs
  have hlv' := hlv
  obtain ⟨la, lc, rfl, hlc, -⟩ := hlv'
  clear hs
  go_enter Try.func42, Try.ntmps42
  go_wp2_with (go_at_call 49; refine (index_any S N self _ v lst ls ids _ hlv cS cN0 cN1 hv hl HS.out hll).mono ?_; rintro e w' ⟨r, rfl, hr, hb2⟩; have HR := hide hr; clear hr)
  go_ret
  exact ⟨ret_bool HR.out, hb2⟩

set_option maxRecDepth 100000 in
set_option maxHeartbeats 3200000 in
theorem leadsOn_any (self : Int) (x0 x2 lv v lst : Value) (ls ids : List Int) (w : World) (hlv : IntsAt w lv ls) (hv : AnsAt w v ids) (hl : ids.length ≤ 1000000) (hs : ascB ids = true) (hll : ls.length ≤ 1000000) :
    Calls Try.prog 37 #[.agg #[v, lst], .int .i64 self, .agg #[x0, lv, x2]] w fun e w' => e = .returned (.bool (leads ids self ls)) ∧ Below w.heap.size w w' := by
  have HS := hide hs
  have hb1 : Below w.heap.size w (((w.alloc (.cells #[v, lst] 90)).alloc (.cells #[.int .i64 self] 2)).alloc (.cells #[x0, lv, x2] 63)) := (((Below.refl _ w).alloc (Nat.le_refl _) _).alloc (by simp) _).alloc (by simp; omega) _
  have hv1 := hv.below hb1
  have hl1 := hlv.below hb1
  obtain ⟨t1, t2, t3⟩ := three w (.cells #[v, lst] 90) (.cells #[.int .i64 self] 2) (.cells #[x0, lv, x2] 63)
  have cN0 := blk_cell t1 0
  have cN1 := blk_cell t1 1
  have cS := blk_cell t2 0
  have hlf : ∃ a n c, lv = .slice a n c := by obtain ⟨a, c, rfl, _⟩ := hlv; exact ⟨_, _, _, rfl⟩
  obtain ⟨va, vn, vc, rfl⟩ := hlf
  have HV := hide hv1
  have HL := hide hl1
  have HC : Hid ((((w.alloc (.cells #[v, lst] 90)).alloc (.cells #[.int .i64 self] 2)).alloc (.cells #[x0, .slice va vn vc, x2] 63)).cell? ⟨w.heap.size + 1, 0, none⟩ = some (.int .i64 self) ∧ (((w.alloc (.cells #[v, lst] 90)).alloc (.cells #[.int .i64 self] 2)).alloc (.cells #[x0, .slice va vn vc, x2] 63)).cell? ⟨w.heap.size, 0, none⟩ = some v ∧ (((w.alloc (.cells #[v, lst] 90)).alloc (.cells #[.int .i64 self] 2)).alloc (.cells #[x0, .slice va vn vc, x2] 63)).cell? ⟨w.heap.size, 1, none⟩ = some lst) := ⟨cS, cN0, cN1⟩
  clear hs hv1 hl1 cS cN0 cN1 t1 t2 t3
  go_enter Try.func37, Try.ntmps37
  go_wp2_with (go_at_call 42; refine (containsF_any (w.heap.size + 1) w.heap.size self _ v lst ls ids _ HL.out HC.out.1 HC.out.2.1 HC.out.2.2 HV.out hl HS.out hll).mono ?_; rintro e w' ⟨rfl, hb2⟩)
  go_ret
  exact ⟨rfl, hb1.trans (hb2.mono (by simp; omega))⟩

set_option maxRecDepth 100000 in
set_option maxHeartbeats 3200000 in
theorem zzleads_any (self : Int) (x0 x2 lv v : Value) (ls ids : List Int) (w : World) (hlv : IntsAt w lv ls) (hv : AnsAt w v ids) (hl : ids.length ≤ 1000000) (hs : ascB ids = true) (hll : ls.length ≤ 1000000) :
    Calls Try.prog 25 #[v, .int .i64 self, .agg #[x0, lv, x2]] w fun e w' => e = .returned (.bool (leads ids self ls)) ∧ Below w.heap.size w w' := by
  have HS := hide hs
  have hb1 : Below w.heap.size w (w.alloc (.cells #[x0, lv, x2] 63)) := (Below.refl _ w).alloc (Nat.le_refl _) _
  have hv1 := hv.below hb1
  have hl1 := hlv.below hb1
  have hlf : ∃ a n c, lv = .slice a n c := by obtain ⟨a, c, rfl, _⟩ := hlv; exact ⟨_, _, _, rfl⟩
  obtain ⟨va, vn, vc, rfl⟩ := hlf
  have hvf : ∃ a n c, v = .slice a n c := by obtain ⟨a, c, rfl, _⟩ := hv; exact ⟨_, _, _, rfl⟩
  obtain ⟨wa, wn, wc, rfl⟩ := hvf
  have HV := hide hv1
  have HL := hide hl1
  clear hs hv1 hl1
  go_enter Try.func25, Try.ntmps25
  go_wp2_with (go_at_call 37; refine (leadsOn_any self x0 x2 _ _ _ ls ids _ HL.out HV.out hl HS.out hll).mono ?_; rintro e w' ⟨rfl, hb2⟩)
  go_ret
  exact ⟨rfl, hb1.trans (hb2.mono (by simp))⟩

end Go.Proofs.Qxb6613901a
