import Derived.Test.Qxb6613901aService
namespace Go.Proofs.Qxb6613901a
open Go Go.RowKit
attribute [local go_sem ↓] Go.wp_at_zero Go.wp_at_succ

set_option maxRecDepth 100000 in
set_option maxHeartbeats 1600000 in
theorem bytes16 (id asks : Int) (a1 a2 : Option Addr) (n1 n2 c1 c2 : Nat) (w : World) (h1 : n1 ≤ maxLen) (h2 : n2 ≤ maxLen) :
    Calls Try.prog 16 #[.int .i64 id, .slice a1 n1 c1, .slice a2 n2 c2, .int .i64 asks] w fun e w' =>
      e = .returned (.bool (decide (n1 + n2 ≤ 1048576))) ∧ w' = w := by
  unfold maxLen at h1 h2
  by_cases g1 : 1048576 < n1
  · go_enter Try.func16, Try.ntmps16
    go_wp2
    go_ret
    exact ⟨ret_bool (by simp; omega), rfl⟩
  by_cases g2 : 1048576 < n2
  · go_enter Try.func16, Try.ntmps16
    go_wp2
    go_ret
    exact ⟨ret_bool (by simp; omega), rfl⟩
  by_cases g3 : 1048576 < n1 + n2
  · go_enter Try.func16, Try.ntmps16
    go_wp2
    go_ret
    exact ⟨ret_bool (by simp; omega), rfl⟩
  · go_enter Try.func16, Try.ntmps16
    go_wp2
    go_ret
    exact ⟨ret_bool (by simp; omega), rfl⟩

set_option maxRecDepth 100000 in
set_option maxHeartbeats 1600000 in
theorem newPeer_any (id : Int) (w : World) :
    Calls Try.prog 18 #[.int .i64 id] w fun e w' => ∃ o, e = .returned (.pointer (some ⟨w.heap.size, 0, none⟩)) ∧ w' = w.alloc o ∧ w'.cell? ⟨w.heap.size, 0, none⟩ = some (.int .i64 id) := by
  go_enter Try.func18, Try.ntmps18
  go_wp2
  go_ret
  exact ⟨_, rfl, rfl, by simp⟩

theorem ret_int {k : IntKind} {a b : Int} (h : a = b) : Ending.returned (.int k a) = .returned (.int k b) := by rw [h]

set_option maxHeartbeats 1600000 in
theorem asksDone_any (asks : Int) (n : Nat) (w : World) :
    Calls Try.prog 19 #[.int .i64 asks, .int .i64 n] w fun e w' => e = .returned (.int .i64 (doneN asks n)) ∧ w' = w := by
  by_cases h1 : asks < n
  · by_cases h2 : asks < 0
    · go_enter Try.func19, Try.ntmps19
      go_wp2
      go_ret
      exact ⟨ret_int (by unfold doneN; omega), rfl⟩
    · go_enter Try.func19, Try.ntmps19
      go_wp2
      go_ret
      exact ⟨ret_int (by unfold doneN; omega), rfl⟩
  · go_enter Try.func19, Try.ntmps19
    go_wp2
    go_ret
    exact ⟨ret_int (by unfold doneN; omega), rfl⟩

set_option maxRecDepth 100000 in
set_option maxHeartbeats 1600000 in
theorem same_any (v1 v2 : Value) (zs : List Int) (w : World) (h1 : IntsAt w v1 zs) (h2 : IntsAt w v2 zs) (hl : zs.length ≤ 1099511627776) :
    Calls Try.prog 20 #[v1, v2] w fun e w' => e = .returned (.bool true) ∧ ∃ n, w' = w.drewN n := by
  obtain ⟨a1, c1, rfl, g1, f1⟩ := h1
  obtain ⟨a2, c2, rfl, g2, f2⟩ := h2
  go_enter Try.func20, Try.ntmps20
  go_wp2
  go_loopw [5] (fun i wr => ∃ k n : Nat, k ≤ zs.length ∧ i = .int .i64 k ∧ wr = w.drewN n) (fun i _ => zs.length - (intOf i).toNat)
  case atStart => exact ⟨0, 0, Nat.zero_le _, rfl, rfl⟩
  case round =>
    obtain ⟨k, n, hk, rfl, rfl⟩ := hrel
    by_cases hlt : k < zs.length
    · obtain ⟨b1, o1, rfl, k1⟩ := f1 (by omega)
      obtain ⟨b2, o2, rfl, k2⟩ := f2 (by omega)
      have e1 := k1 k hlt
      have e2 := k2 k hlt
      generalize zs.getD k 0 = z at e1 e2
      have m0 : (0 : Int) ≤ (k : Int) := by omega
      have m1 : (k : Int) < (zs.length : Int) := by omega
      clear k1 k2 f1 f2
      go_wp2_with fail
      go_quiet (fail)
      go_wp2_with fail
      go_roundw
      case rel => exact ⟨k + 1, _, by omega, by go_num, rfl⟩
      case measure => simp [intOf]; omega
    · go_wp2_with fail
      go_ret
      exact ⟨rfl, _, rfl⟩

set_option maxRecDepth 100000 in
set_option maxHeartbeats 1600000 in
theorem linkModel_any (nv av : Value) (k : Nat) (zs : List Int) (bs : List Bool) (w : World) (hz : IntsAt w nv zs) (hb : BoolsAt w av bs) (hzx : liesIn (fun k => k < w.heap.size) nv) (hbx : liesIn (fun k => k < w.heap.size) av)
    (hk : k ≤ zs.length) (hzl : zs.length ≤ 65536) (hbl : bs.length ≤ 65536) :
    Calls Try.prog 21 #[nv, av, .int .i64 k] w fun e w' => ∃ mv, e = .returned mv ∧ w'.ownsRow 0 2 1 mv (mdl zs bs k).length (ints (mdl zs bs k)) ∧ Below w.heap.size w w' := by
  obtain ⟨i2, hi2, hz20, hz21, hz22⟩ := info_parts info2
  have hz' := hz
  have hb' := hb
  obtain ⟨na, nc, rfl, g1, -⟩ := hz'
  obtain ⟨ba, bc, rfl, g2, -⟩ := hb'
  go_enter Try.func21, Try.ntmps21
  go_wp2_with fail
  go_loopw [7, 8] (fun mv i wr => ∃ m : Nat, m ≤ k ∧ i = .int .i64 m ∧ wr.ownsRow 0 2 1 mv (mdl zs bs m).length (ints (mdl zs bs m)) ∧ offX (fun k => k < w.heap.size) mv ∧ Keeps (fun k => k < w.heap.size) w wr) (fun _ i _ => k - (intOf i).toNat)
  case atStart => exact ⟨0, Nat.zero_le _, rfl, World.ownsRow_nil _ _ _ _, offX_nil _, Keeps.refl _ _⟩
  case round =>
    obtain ⟨m, hm, rfl, hrow, hoff, hkp⟩ := hrel
    by_cases hlt : m < k
    · have hzr := hz.keeps hzx hkp
      have hbr := hb.keeps hbx hkp
      obtain ⟨_, _, e, -, fz⟩ := hzr
      simp only [Value.slice.injEq, true_and] at e
      obtain ⟨rfl, rfl⟩ := e
      obtain ⟨b, off, rfl, hcell⟩ := fz (by omega)
      have cz := hcell m (by omega)
      have m0 : (0 : Int) ≤ (m : Int) := by omega
      have m1 : (m : Int) < (zs.length : Int) := by omega
      have hml := mdl_len zs bs m
      have hwl := hkp.size
      generalize hze : zs.getD m 0 = z at cz
      have HZE := hide hze
      clear hze fz hcell
      obtain ⟨ba', hba⟩ : ∃ b, ans bs m = b := ⟨_, rfl⟩
      have HBA := hide hba
      clear hba
      cases ba' with
      | false =>
        have HR := hide hrow
        have HK := hide hkp
        clear hrow hkp
        go_wp2_with (go_at_call 15; refine (answer_any _ bs m _ hbr (by omega)).mono ?_; rw [HBA.out]; rintro e w' ⟨rfl, hw⟩; obtain rfl := hw.symm)
        go_roundw
        case rel => exact ⟨m + 1, by omega, by go_num, by rw [mdl, HBA.out]; simpa using HR.out, hoff, HK.out⟩
        case measure => simp [intOf]; omega
      | true =>
        go_wp2_with (first | (go_at_call 15; refine (answer_any _ bs m _ hbr (by omega)).mono ?_; rw [HBA.out]; rintro e w' ⟨rfl, hw⟩; obtain rfl := hw.symm) | (at_builtin; refine wpList_append_lies _ rfl _ _ 24 rfl 0 2 i2 _ 1 8 Try.underlying24 hi2 hz20 hz21 hz22 rfl (by omega) u7 (mdl zs bs m).length (ints (mdl zs bs m)) rfl (hrow.alloc _) ⟨wr.heap.size, 0, none⟩ 1 1 [.int .i64 z] rfl rfl (World.news_of_block (cs := #[.int .i64 z]) (t := 2) (fr := (0, 0)) (heap_alloc_new wr _)) (by simp [Value.oneCell']) (by omega) (by simp only [maxLen]; omega) (by omega) (by omega) (wr.heap.size + 1) (by simp) ?_))
        intro g2 cap2 w3 own3 hgrow3 hat3 hlt3
        have HFIN : Hid (w3.ownsRow 0 2 1 (.slice (some ⟨g2, 0, none⟩) ((mdl zs bs m).length + 1) cap2) (mdl zs bs (m + 1)).length (ints (mdl zs bs (m + 1))) ∧ offX (fun k => k < w.heap.size) (.slice (some ⟨g2, 0, none⟩) ((mdl zs bs m).length + 1) cap2) ∧ Keeps (fun k => k < w.heap.size) w w3) := by
          refine ⟨?_, ?_, (hkp.alloc _).grown hgrow3 (fun x hx => hoff x hx)⟩
          · rw [mdl, HBA.out, if_pos rfl, HZE.out, ints_snoc]
            simpa using own3
          · intro x hx hX
            exact off_new hat3 (n := (mdl zs bs m).length + 1) (cap := cap2) (k := x) (by omega) (fun hv => hoff x hv hX) hx
        clear own3 hgrow3 hat3 hlt3 hrow hkp hoff
        go_wp2_with fail
        go_roundw
        case rel => exact ⟨m + 1, by omega, by go_num, HFIN.out⟩
        case measure => simp [intOf]; omega
    · have hmk : m = k := by omega
      have HR : Hid (wr.ownsRow 0 2 1 u7 (mdl zs bs k).length (ints (mdl zs bs k))) := by subst hmk; exact hrow
      have HK := hide hkp
      have dm : decide ((m : Int) < (k : Int)) = false := by simp; omega
      clear hrow hkp hmk
      go_wp2_with fail
      go_ret
      exact ⟨u7, rfl, HR.out, HK.out.below _ (Nat.le_refl _) (fun _ h => h)⟩

end Go.Proofs.Qxb6613901a
