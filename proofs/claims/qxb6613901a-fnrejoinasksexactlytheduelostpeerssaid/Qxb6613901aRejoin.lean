import Derived.Test.Qxb6613901aLink
import Derived.Test.Qxb6613901aJoins
import Derived.Deep.RegionWith
import Derived.Deep.CutBlock
namespace Go.Proofs.Qxb6613901a
open Go Go.RowKit
attribute [local go_sem ↓] Go.wp_at_zero Go.wp_at_succ

theorem nil_linked (a : Addr) (w : World) : (nilAhead 259 28 (.pointer (some a)) "Linked").run Try.prog w = .ok (some false) w := by kernel_rfl
theorem meth_linked (a : Addr) (w : World) : (method 259 28 (.pointer (some a)) "Linked").run Try.prog w = .ok (78, .pointer (some a)) w := by kernel_rfl
theorem meth_links (a : Addr) (w : World) : (method 259 28 (.pointer (some a)) "Links").run Try.prog w = .ok (79, .pointer (some a)) w := by kernel_rfl

def asI (l : List (Nat × Int)) : List Int := l.map (fun a => (a.1 : Int))
def asQ (l : List (Nat × Int)) : List Int := l.map (fun a => a.2)
def asS (stp : Int) (l : List (Nat × Int)) : List Int := l.map (fun _ => stp)

theorem linked_b (O : Nat) (p q : Int) (lv : Value) (zs : List Int) (w : World) (hc : w.cell? ⟨O, 1, none⟩ = some lv) (hv : IntsAt w lv zs) (hl : zs.length ≤ 1099511627776) (b : Bool) (hb : Hid (has zs q = b)) :
    Calls Try.prog 78 #[.pointer (some ⟨O, 0, none⟩), .int .i64 p, .int .i64 q] w fun e w' => e = .returned (.bool b) ∧ w' = w :=
  hb.out ▸ linked_any O p q lv zs w hc hv hl

theorem link_b (R : Nat) (stp join q : Int) (av : Value) (bs : List Bool) (ss js is : List Int) (X : Nat → Prop) (w : World)
    (hrec : RecAt w R stp av ss js is X) (hb : BoolsAt w av bs) (hbx : liesIn X av) (hbl : bs.length ≤ 1099511627776)
    (hs : ss.length ≤ 1099511627776) (hj : js.length ≤ 1099511627776) (hi : is.length ≤ 1099511627776) (b : Bool) (ha : Hid (ans bs join = b)) :
    Calls Try.prog 11 #[.pointer (some ⟨R, 0, none⟩), .int .i64 join, .int .i64 q] w fun e w' =>
      e = .returned (.bool b) ∧ RecAt w' R stp av (ss ++ [stp]) (js ++ [join]) (is ++ [q]) X ∧ Keeps X w w' :=
  ha.out ▸ link_any R stp join q av bs ss js is X w hrec hb hbx hbl hs hj hi

theorem quiet2 {P : Program} {f : FuncId} {args : Array Value} {w : World} {n m : Nat} {v : Value}
    (h : Calls P f args (w.drewN (n + m)) fun e w' => e = .returned v ∧ w' = w.drewN (n + m)) : Calls P f args (w.drewN (n + m)) fun e w'' => e = .returned v ∧ ∃ x, w'' = w.drewN (n + x) :=
  h.mono fun _ _ ⟨he, hm⟩ => ⟨he, m, hm⟩

/-- What holds at the head of round k of Rejoin's loop. -/
def RInv (w1 : World) (X1 X2 : Nat → Prop) (R : Nat) (stp : Int) (av jv : Value) (ss js is : List Int) (l : List JP) (lk : Int → Bool) (step : Int) (room : Bool) (an : Int → Bool) (k : Nat) (wr : World) : Prop :=
  wr.ownsRow 0 79 5 jv l.length (jcells (at_ lk step room an l k)) ∧
  RecAt wr R stp av (ss ++ asS stp (asks lk step room (l.take k))) (js ++ asI (asks lk step room (l.take k))) (is ++ asQ (asks lk step room (l.take k))) X1 ∧
  Keeps X2 w1 wr

theorem rinv_same {w1 : World} {X1 X2 : Nat → Prop} {R : Nat} {stp : Int} {av jv : Value} {ss js is : List Int} {l : List JP} {lk : Int → Bool} {step : Int} {room : Bool} {an : Int → Bool} {k : Nat} {wr : World}
    {j : JP} (hj : l[k]? = some j) (h : RInv w1 X1 X2 R stp av jv ss js is l lk step room an k wr) (hd : due lk step room j = false) (hs : (j.lost && lk j.id) = false) :
    RInv w1 X1 X2 R stp av jv ss js is l lk step room an (k + 1) wr := by
  obtain ⟨h1, h2, h3⟩ := h
  have hk := (List.getElem?_eq_some_iff.1 hj).1
  refine ⟨?_, ?_, h3⟩
  · rw [at_succ lk step room an l k j hj]
    have e : step1 lk step room an k j = j := by simp [step1, hs, hd]
    rw [e, set_same _ k j (by rw [at_get lk step room an l k (by omega)]; exact hj)]
    exact h1
  · rw [asks_take_succ lk step room l k j hj, hd]
    simpa using h2

theorem owns_heap {w w' : World} {e size : Nat} {v : Value} {n : Nat} {xs : List Value} (h : w.ownsRow 0 e size v n xs) (hh : w'.heap = w.heap) : w'.ownsRow 0 e size v n xs := by
  unfold World.ownsRow at h ⊢; rw [hh]; exact h

theorem RecAt.heap {w w' : World} {R : Nat} {stp : Int} {av : Value} {ss js is : List Int} {X : Nat → Prop} (h : RecAt w R stp av ss js is X) (hh : w'.heap = w.heap) : RecAt w' R stp av ss js is X := by
  unfold RecAt World.ownsRow at h ⊢; rw [hh]; exact h

theorem RecAt.setCell {w : World} {R : Nat} {stp : Int} {av : Value} {ss js is : List Int} {X : Nat → Prop} (h : RecAt w R stp av ss js is X) (p : Addr) (hp : X p.block) (u : Value) : RecAt (w.setCell p u) R stp av ss js is X := by
  obtain ⟨sv, jv, iv, hR, os, oj, oi, asj, asi, aji, sR, jR, iR, xs, xj, xi, xR, hXl⟩ := h
  exact ⟨sv, jv, iv, blk_other hR p rfl (fun e => xR (e ▸ hp)) u, owns_setCell os p (fun e => xs _ e hp) u, owns_setCell oj p (fun e => xj _ e hp) u, owns_setCell oi p (fun e => xi _ e hp) u,
    asj, asi, aji, sR, jR, iR, xs, xj, xi, xR, fun k hk => by have := hXl k hk; simpa [World.setCell] using this⟩

theorem RecAt.mono {w : World} {R : Nat} {stp : Int} {av : Value} {ss js is : List Int} {X Y : Nat → Prop} (h : RecAt w R stp av ss js is X) (hY : ∀ k, Y k → X k) : RecAt w R stp av ss js is Y := by
  obtain ⟨sv, jv, iv, hR, os, oj, oi, asj, asi, aji, sR, jR, iR, xs, xj, xi, xR, hXl⟩ := h
  exact ⟨sv, jv, iv, hR, os, oj, oi, asj, asi, aji, sR, jR, iR, xs.mono hY, xj.mono hY, xi.mono hY, fun h => xR (hY _ h), fun k hk => hXl k (hY k hk)⟩

/-- A new block: it joins what is kept apart. -/
theorem RecAt.alloc {w : World} {R : Nat} {stp : Int} {av : Value} {ss js is : List Int} {X : Nat → Prop} (h : RecAt w R stp av ss js is X) (o : Obj) : RecAt (w.alloc o) R stp av ss js is (fun k => X k ∨ k = w.heap.size) := by
  obtain ⟨sv, jv, iv, hR, os, oj, oi, asj, asi, aji, sR, jR, iR, xs, xj, xi, xR, hXl⟩ := h
  have off : ∀ {v e n l}, w.ownsRow 0 e 1 v n l → offX X v → offX (fun k => X k ∨ k = w.heap.size) v := fun ho hx k hk hor => by
    rcases hor with h | h
    · exact hx k hk h
    · have := owns_lt ho hk; omega
  refine ⟨sv, jv, iv, blk_alloc hR o, os.alloc o, oj.alloc o, oi.alloc o, asj, asi, aji, sR, jR, iR, off os xs, off oj xj, off oi xi, ?_, ?_⟩
  · rintro (h | h)
    · exact xR h
    · have := blk_lt hR; omega
  · rintro k (h | h)
    · have := hXl k h; simp; omega
    · simp; omega

theorem own_set {w : World} {J n cap k f : Nat} {L : List JP} {j j' : JP} {u : Value} (h : w.ownsRow 0 79 5 (.slice (some ⟨J, 0, none⟩) n cap) n (jcells L)) (hj : L[k]? = some j) (hf : f < 5) (hc : j.cells.set f u = j'.cells) :
    (w.setCell ⟨J, k * 5 + f, none⟩ u).ownsRow 0 79 5 (.slice (some ⟨J, 0, none⟩) n cap) n (jcells (L.set k j')) := by
  have := (h.stored (k * 5 + f) u).1
  rwa [jcells_set L k f hf u j j' hj hc] at this

theorem rinv_next {w1 : World} {X1 X2 : Nat → Prop} {R : Nat} {stp : Int} {av jv : Value} {ss js is : List Int} {l : List JP} {lk : Int → Bool} {step : Int} {room : Bool} {an : Int → Bool} {k : Nat} {wr : World}
    {j j' : JP} (hj : l[k]? = some j) (hs : step1 lk step room an k j = j')
    (h1 : wr.ownsRow 0 79 5 jv l.length (jcells ((at_ lk step room an l k).set k j')))
    (h2 : RecAt wr R stp av (ss ++ asS stp (asks lk step room (l.take k) ++ (if due lk step room j then [(k, j.id)] else []))) (js ++ asI (asks lk step room (l.take k) ++ (if due lk step room j then [(k, j.id)] else []))) (is ++ asQ (asks lk step room (l.take k) ++ (if due lk step room j then [(k, j.id)] else []))) X1)
    (h3 : Keeps X2 w1 wr) :
    RInv w1 X1 X2 R stp av jv ss js is l lk step room an (k + 1) wr := by
  refine ⟨?_, ?_, h3⟩
  · rw [at_succ lk step room an l k j hj, hs]; exact h1
  · rw [asks_take_succ lk step room l k j hj]; exact h2

set_option maxRecDepth 100000 in
set_option maxHeartbeats 1600000 in
theorem rejoin_any (S O R : Nat) (p step mx lnk stp : Int) (cv0 cv2 cv3 cv4 cv5 : Value) (av lv jv kv : Value) (bs : List Bool) (zs : List Int) (ss js is : List Int) (l : List JP) (X : Nat → Prop) (w : World)
    (hS : w.heap[S]? = some (.cells #[jv, kv] 26 (0, 0))) (hO0 : w.cell? ⟨O, 0, none⟩ = some (.int .i64 lnk)) (hO1 : w.cell? ⟨O, 1, none⟩ = some lv)
    (hj : w.ownsRow 0 79 5 jv l.length (jcells l)) (hX : offX X jv) (XS : X S) (XO : X O)
    (hrec : RecAt w R stp av ss js is (fun k => X k ∨ jv.ownBlock = some k))
    (hb : BoolsAt w av bs) (hbx : liesIn X av) (hbl : bs.length ≤ 1099511627776)
    (hz : IntsAt w lv zs) (hzx : liesIn X lv) (hzl : zs.length ≤ 1099511627776)
    (hs : ss.length + l.length ≤ 1099511627776) (hjs : js.length + l.length ≤ 1099511627776) (hi : is.length + l.length ≤ 1099511627776) (hl : l.length ≤ 1099511627776)
    (hstep : step ≤ 9223372036854775743) (hstep0 : -9223372036854775808 ≤ step) (hwait : ∀ j ∈ l, 0 ≤ j.wait ∧ j.wait ≤ 64) :
    Calls Try.prog 10 #[.pointer (some ⟨S, 0, none⟩), .int .i64 p, .int .i64 step, .agg #[cv0, .int .i64 mx, cv2, cv3, cv4, cv5], .iface 28 (.pointer (some ⟨O, 0, none⟩)), .func (.func 11) #[.pointer (some ⟨R, 0, none⟩)] #[]] w fun e w' =>
      e = .returned (.tuple #[]) ∧
      RInv w (fun k => X k ∨ jv.ownBlock = some k) X R stp av jv ss js is l (has zs) step (decide (lnk < mx)) (ans bs) l.length w' := by
  have cS : w.cell? ⟨S, 0, none⟩ = some jv := blk_cell hS 0
  have lS := blk_lt hS
  have lO := World.block_lt_of_cell? w _ hO0
  obtain ⟨ja, jcap, hjv, hjg⟩ := owns_form hj
  subst hjv
  go_enter Try.func10, Try.ntmps10
  go_wp2_with fail
  go_loopw [19] (fun i wr => ∃ k : Nat, k ≤ l.length ∧ i = .int .i64 k ∧
      RInv (w.alloc (.cells #[cv0, .int .i64 mx, cv2, cv3, cv4, cv5] 35)) (fun k => (X k ∨ (Value.slice ja l.length jcap).ownBlock = some k) ∨ k = w.heap.size) (fun k => X k ∨ k = w.heap.size) R stp av (.slice ja l.length jcap) ss js is l (has zs) step (decide (lnk < mx)) (ans bs) k wr) (fun i _ => l.length - (intOf i).toNat)
  case atStart =>
    refine ⟨0, Nat.zero_le _, rfl, ?_, ?_, Keeps.refl _ _⟩
    · rw [at_zero]; exact hj.alloc _
    · simpa [asks, asI, asQ, asS] using hrec.alloc (.cells #[cv0, .int .i64 mx, cv2, cv3, cv4, cv5] 35)
  case round =>
    obtain ⟨k, hk, rfl, hinv⟩ := hrel
    by_cases hlt : k < l.length
    · obtain ⟨J, rfl⟩ := hjg (by omega)
      obtain ⟨j, hjk⟩ : ∃ j, l[k]? = some j := ⟨_, List.getElem?_eq_getElem hlt⟩
      have hw := hwait j (List.mem_of_getElem? hjk)
      obtain ⟨hrow, hrc, hkp⟩ := hinv
      have cS1 : wr.cell? ⟨S, 0, none⟩ = some (.slice (some ⟨J, 0, none⟩) l.length jcap) := hkp.cell (a := ⟨S, 0, none⟩) (.inl XS) (by rw [World.cell?_alloc_past _ _ _ lS]; exact cS)
      have hcells : ∀ f, f < 5 → wr.cell? ⟨J, k * 5 + f, none⟩ = j.cells[f]? := fun f hf => by
        rw [hrow.cellAt (k * 5 + f) (by omega), jcells_at _ k f hf j (by rw [at_get _ _ _ _ _ _ (by omega)]; exact hjk)]
      have hfz : ∀ o, wr.frozen? ⟨J, o, none⟩ = false := fun o => hrow.frozenAt o
      have c1 : wr.cell? ⟨J, k * 5 + 1, none⟩ = some (.int .i64 j.id) := hcells 1 (by omega)
      have c2 : wr.cell? ⟨J, k * 5 + 2, none⟩ = some (.bool j.lost) := hcells 2 (by omega)
      have c3 : wr.cell? ⟨J, k * 5 + 3, none⟩ = some (.int .i64 j.next) := hcells 3 (by omega)
      have c4 : wr.cell? ⟨J, k * 5 + 4, none⟩ = some (.int .i64 j.wait) := hcells 4 (by omega)
      have hO0' : wr.cell? ⟨O, 0, none⟩ = some (.int .i64 lnk) := hkp.cell (a := ⟨O, 0, none⟩) (.inl XO) (by rw [World.cell?_alloc_past _ _ _ lO]; exact hO0)
      have hO1' : wr.cell? ⟨O, 1, none⟩ = some lv := hkp.cell (a := ⟨O, 1, none⟩) (.inl XO) (by rw [World.cell?_alloc_past _ _ _ lO]; exact hO1)
      have hz' : IntsAt wr lv zs := (hz.keeps hzx ((Keeps.refl X w).alloc _)).keeps hzx (hkp.mono fun _ h => .inl h)
      have hC' : wr.cell? ⟨w.heap.size, 1, none⟩ = some (.int .i64 mx) := hkp.cell (a := ⟨w.heap.size, 1, none⟩) (.inr rfl) (by simp)
      have xJ : ¬ (X J ∨ J = w.heap.size) := by
        rintro (h | h)
        · exact hX J rfl h
        · have := owns_lt hj (k := J) rfl; omega
      have HROW : Hid (wr.ownsRow 0 79 5 (.slice (some ⟨J, 0, none⟩) l.length jcap) l.length (jcells (at_ (has zs) step (decide (lnk < mx)) (ans bs) l k))) := hrow
      have HREC := hide hrc
      have HKP := hide hkp
      clear hcells hrow hrc hkp
      have hat : (at_ (has zs) step (decide (lnk < mx)) (ans bs) l k)[k]? = some j := by rw [at_get _ _ _ _ _ _ (by omega)]; exact hjk
      have HAT := hide hat
      have HJK := hide hjk
      clear hat hjk
      obtain ⟨id, lost, next, wait⟩ := j
      simp only at c1 c2 c3 c4 hw
      have n1 := nil_linked
      have m1 := meth_linked
      have m2 := meth_links
      cases lost with
      | false =>
        go_wp2_with fail
        go_roundw
        case rel => exact ⟨k + 1, by omega, by go_num, rinv_same HJK.out ⟨HROW.out, HREC.out, HKP.out⟩ (by simp [due]) (by simp)⟩
        case measure => simp [intOf]; omega
      | true =>
        obtain ⟨blk, hlk⟩ : ∃ b, has zs id = b := ⟨_, rfl⟩
        have HLK := hide hlk
        clear hlk
        cases blk with
        | true =>
          go_wp2_with fail
          go_quiet ((go_at_call 78; exact Calls.quiet_of_same (linked_b O p id lv zs _ (by exact hO1') (by exact hz') hzl true HLK)))
          go_wp2_with fail
          go_roundw
          case rel =>
            refine ⟨k + 1, by omega, by go_num, rinv_next (j' := ⟨id, false, next, wait⟩) HJK.out (by simp [step1, HLK.out]) (own_set (f := 2) (owns_heap HROW.out rfl) HAT.out (by omega) rfl) ?_ (((HKP.out).drewN nq).setCell xJ _)⟩
            rw [show due (has zs) step (decide (lnk < mx)) ⟨id, true, next, wait⟩ = false by simp [due, HLK.out]]
            simpa using (RecAt.heap HREC.out (w' := wr.drewN nq) rfl).setCell ⟨J, k * 5 + 2, none⟩ (.inl (.inr rfl)) (.bool false)
          case measure => simp [intOf]; omega
        | false =>
          by_cases hdue : step < next
          · go_wp2_with fail
            go_quiet ((go_at_call 78; exact Calls.quiet_of_same (linked_b O p id lv zs _ (by exact hO1') (by exact hz') hzl false HLK)))
            go_wp2_with fail
            go_quiet (fail)
            go_wp2_with fail
            go_roundw
            case rel =>
              refine ⟨k + 1, by omega, by go_num, rinv_same HJK.out ⟨owns_heap HROW.out rfl, RecAt.heap HREC.out rfl, (HKP.out).drewN _⟩ (by simp [due]; omega) (by simp [HLK.out])⟩
            case measure => simp [intOf]; omega
          · have hdd : decide (step < next) = false := by simp; omega
            have hdn : next ≤ step := by omega
            by_cases hroom : mx ≤ lnk
            · go_wp2_with fail
              go_quiet ((go_at_call 78; exact Calls.quiet_of_same (linked_b O p id lv zs _ (by exact hO1') (by exact hz') hzl false HLK)))
              go_wp2_with fail
              go_quiet ((go_at_call 79; go_must (exact quiet2 (links_any O p lnk _ (by exact hO0')))))
              go_wp2_with fail
              go_roundw
              case rel =>
                refine ⟨k + 1, by omega, by go_num, rinv_same HJK.out ⟨owns_heap HROW.out rfl, RecAt.heap HREC.out rfl, (HKP.out).drewN _⟩ (by simp [due]; omega) (by simp [HLK.out])⟩
              case measure => simp [intOf]; omega
            · have hr2 : lnk < mx := by omega
              have hr3 : decide (mx ≤ lnk) = false := by simp; omega
              obtain ⟨ba, han⟩ : ∃ b, ans bs k = b := ⟨_, rfl⟩
              have HAN := hide han
              clear han
              go_wp2_with fail
              go_quiet ((go_at_call 78; exact Calls.quiet_of_same (linked_b O p id lv zs _ (by exact hO1') (by exact hz') hzl false HLK)))
              revert nq; intro nq0
              go_wp2_with fail
              go_quiet ((go_at_call 79; go_must (exact quiet2 (links_any O p lnk _ (by exact hO0')))))
              go_wp2_with fail
              have hbw : BoolsAt (wr.drewN (nq0 + nq)) av bs := (hb.keeps hbx ((Keeps.refl X w).alloc _)).keeps hbx (((HKP.out).mono fun _ h => .inl h).drewN _)
              have hal := due_len (has zs) step (decide (lnk < mx)) (l.take k)
              have hall : (l.take k).length ≤ k := List.length_take_le _ _
              refine (link_b R stp k id av bs _ _ _ _ (wr.drewN (nq0 + nq)) (RecAt.heap HREC.out rfl) hbw (fun a n c h h0 => .inl (.inl (hbx a n c h h0))) hbl (by simp [asS]; omega) (by simp [asI]; omega) (by simp [asQ]; omega) ba HAN).mono ?_
              rintro e w2 ⟨rfl, hrec2, hk2⟩
              have hrow2 := owns_keeps (owns_heap HROW.out (w' := wr.drewN (nq0 + nq)) rfl) hk2 (fun a ha => .inl (.inr ha))
              have c22 : w2.cell? ⟨J, k * 5 + 2, none⟩ = some (.bool true) := hk2.cell (a := ⟨J, k * 5 + 2, none⟩) (.inl (.inr rfl)) c2
              have c32 : w2.cell? ⟨J, k * 5 + 3, none⟩ = some (.int .i64 next) := hk2.cell (a := ⟨J, k * 5 + 3, none⟩) (.inl (.inr rfl)) c3
              have c42 : w2.cell? ⟨J, k * 5 + 4, none⟩ = some (.int .i64 wait) := hk2.cell (a := ⟨J, k * 5 + 4, none⟩) (.inl (.inr rfl)) c4
              have hfz2 : ∀ o, w2.frozen? ⟨J, o, none⟩ = false := fun o => hrow2.frozenAt o
              have hkk : Keeps (fun k => X k ∨ k = w.heap.size) (w.alloc (.cells #[cv0, .int .i64 mx, cv2, cv3, cv4, cv5] 35)) w2 := ((HKP.out).drewN (nq0 + nq)).trans (hk2.mono fun a ha => by rcases ha with h | h; exact .inl (.inl h); exact .inr h)
              have hd1 : due (has zs) step (decide (lnk < mx)) ⟨id, true, next, wait⟩ = true := by simp [due, HLK.out]; omega
              have HROW2 := hide hrow2
              have HREC2 := hide hrec2
              have HKK := hide hkk
              have HD := hide hd1
              clear hrow2 hrec2 hkk hd1 hk2 hbw hal hall HREC HROW HKP hS hj hX hrec cS hz' hO0' hO1' hC' n1 m1 m2 cS1 c1 c2 c3 c4 hfz hz hzx hb hbx hO0 hO1 hjs hi hwait
              cases ba with
              | true =>
                go_wp2_with fail
                go_roundw
                case rel =>
                  refine ⟨k + 1, by omega, by go_num, rinv_next (j' := ⟨id, false, next, wait⟩) HJK.out (by simp [step1, HLK.out, HD.out, HAN.out]) (own_set (f := 2) HROW2.out HAT.out (by omega) rfl) ?_ ((HKK.out).setCell xJ _)⟩
                  rw [HD.out]
                  simpa [asI, asQ, asS] using (HREC2.out).setCell ⟨J, k * 5 + 2, none⟩ (.inl (.inr rfl)) (.bool false)
                case measure => simp [intOf]; omega
              | false =>
                go_wp2_with fail
                rw [show (if 64 < 2 * wait then (64 : Int) else 2 * wait) = min (2 * wait) 64 by omega]
                go_roundw
                case rel =>
                  refine ⟨k + 1, by omega, by go_num, rinv_next (j' := ⟨id, true, step + min (2 * wait) 64, min (2 * wait) 64⟩) HJK.out (by simp [step1, HLK.out, HD.out, HAN.out]) ?_ ?_ (((HKK.out).setCell xJ _).setCell xJ _)⟩
                  · have o1 := own_set (f := 4) (u := .int .i64 (min (2 * wait) 64)) (j' := ⟨id, true, next, min (2 * wait) 64⟩) HROW2.out HAT.out (by omega) rfl
                    have hlk2 : k < (at_ (has zs) step (decide (lnk < mx)) (ans bs) l k).length := (List.getElem?_eq_some_iff.1 HAT.out).1
                    have o2 := own_set (f := 3) (u := .int .i64 (step + min (2 * wait) 64)) (j' := ⟨id, true, step + min (2 * wait) 64, min (2 * wait) 64⟩) o1 (List.getElem?_set_self hlk2) (by omega) rfl
                    rw [List.set_set] at o2
                    exact o2
                  · rw [HD.out]
                    simpa [asI, asQ, asS] using ((HREC2.out).setCell ⟨J, k * 5 + 4, none⟩ (.inl (.inr rfl)) _).setCell ⟨J, k * 5 + 3, none⟩ (.inl (.inr rfl)) _
                case measure => simp [intOf]; omega
    · have hkl : k = l.length := by omega
      subst hkl
      obtain ⟨h1, h2, h3⟩ := hinv
      have HF : Hid (RInv w (fun k => X k ∨ (Value.slice ja l.length jcap).ownBlock = some k) X R stp av (.slice ja l.length jcap) ss js is l (has zs) step (decide (lnk < mx)) (ans bs) l.length wr) :=
        ⟨h1, h2.mono (fun _ h => .inl h), ((Keeps.refl X w).alloc _).trans (h3.mono (fun _ h => .inl h))⟩
      clear h1 h2 h3 hS hO0 hO1 hj hX hrec hb hz
      go_wp2_with fail
      go_end0
      exact ⟨rfl, HF.out⟩

end Go.Proofs.Qxb6613901a
