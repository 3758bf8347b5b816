import Derived.Test.Qxb6613901aAskWalk
import Derived.Deep.Cut
namespace Go.Proofs.Qxb6613901a
open Go Go.RowKit
attribute [local go_sem ↓] Go.wp_at_zero Go.wp_at_succ

set_option maxRecDepth 100000 in
set_option maxHeartbeats 1600000 in
theorem ask_early (p step lnk mx : Int) (a1 a2 a3 : Option Addr) (n1 n2 n3 c1 c2 c3 : Nat) (w : World) (h1 : n1 ≤ maxLen) (h2 : n2 ≤ maxLen) (h3 : n3 ≤ maxLen)
    (h : ¬ (n1 + n2 + n3 ≤ 1048576 ∧ n1 ≤ 4096 ∧ n2 ≤ 4096 ∧ n3 ≤ 65536 ∧ 32 * n1 + 8 * n2 + n3 ≤ 1048576 ∧ step ≤ 9223372036854775743)) :
    Calls Try.prog 4 #[.int .i64 p, .int .i64 step, .slice a1 n1 c1, .slice a2 n2 c2, .int .i64 lnk, .int .i64 mx, .slice a3 n3 c3] w fun e w' => e = .returned (.bool true) ∧ Below w.heap.size w w' := by
  have hB := bytes13 p step lnk mx a1 a2 a3 n1 n2 n3 c1 c2 c3 w h1 h2 h3
  unfold maxLen at h1 h2 h3
  by_cases g0 : n1 + n2 + n3 ≤ 1048576
  · rw [decide_eq_true g0] at hB
    have HB := hide hB
    clear hB
    by_cases g1 : 4096 < n1
    · go_enter Try.func4, Try.ntmps4
      go_wp2_with (go_at_call 13; refine (HB.out).mono ?_; rintro e w' ⟨rfl, rfl⟩)
      go_ret
      exact ⟨rfl, Below.refl _ _⟩
    have d1 : decide (4096 < (n1 : Int)) = false := by simp; omega
    by_cases g2 : 4096 < n2
    · go_enter Try.func4, Try.ntmps4
      go_wp2_with (go_at_call 13; refine (HB.out).mono ?_; rintro e w' ⟨rfl, rfl⟩)
      go_ret
      exact ⟨rfl, Below.refl _ _⟩
    have d2 : decide (4096 < (n2 : Int)) = false := by simp; omega
    by_cases g3 : 65536 < n3
    · go_enter Try.func4, Try.ntmps4
      go_wp2_with (go_at_call 13; refine (HB.out).mono ?_; rintro e w' ⟨rfl, rfl⟩)
      go_ret
      exact ⟨rfl, Below.refl _ _⟩
    have d3 : decide (65536 < (n3 : Int)) = false := by simp; omega
    by_cases g4 : 1048576 < 32 * n1 + 8 * n2 + n3
    · omega
    · have g5 : 9223372036854775743 < step := by omega
      go_enter Try.func4, Try.ntmps4
      go_wp2_with (go_at_call 13; refine (HB.out).mono ?_; rintro e w' ⟨rfl, rfl⟩)
      go_ret
      exact ⟨rfl, Below.refl _ _⟩
  · rw [decide_eq_false g0] at hB
    have HB := hide hB
    clear hB
    go_enter Try.func4, Try.ntmps4
    go_wp2_with (go_at_call 13; refine (HB.out).mono ?_; rintro e w' ⟨rfl, rfl⟩)
    go_ret
    exact ⟨rfl, Below.refl _ _⟩

/-- The service, the overlay, the settings and the recorder, as they stand between two calls of Rejoin. -/
structure AInv (w : World) (S O C R : Nat) (jv lv av : Value) (lnk mx stp : Int) (l : List JP) (ss is qs : List Int) (wr : World) : Prop where
  s : wr.heap[S]? = some (.cells #[jv, .slice none 0 0] 26 (0, 0))
  o : wr.heap[O]? = some (.cells #[.int .i64 lnk, lv, .slice none 0 0, .int .i64 0, .slice none 0 0, .slice none 0 0, .slice none 0 0, .slice none 0 0, .slice none 0 0] 32 (0, 0))
  c : wr.heap[C]? = some (.cells #[.int .i64 0, .int .i64 mx, .int .i64 0, .int .i64 0, .int .i64 0, .pointer none] 35 (0, 0))
  j : wr.ownsRow 0 79 5 jv l.length (jcells l)
  off : offX (fun k => k < w.heap.size ∨ k = S ∨ k = O ∨ k = C) jv
  r : RecAt wr R stp av ss is qs (fun k => (k < w.heap.size ∨ k = S ∨ k = O ∨ k = C) ∨ jv.ownBlock = some k)
  keeps : Keeps (fun k => k < w.heap.size) w wr

theorem info4 : (Try.prog.info? 4).map (fun i => (i.zero, i.size, i.bytes)) = some (some (.bool false), 1, 1) := by kernel_rfl

theorem RecAt.below {w w' : World} {R : Nat} {stp : Int} {av : Value} {ss js is : List Int} {X : Nat → Prop} (h : RecAt w R stp av ss js is X) (hk : Below w.heap.size w w') : RecAt w' R stp av ss js is X := by
  obtain ⟨sv, jv, iv, hR, os, oj, oi, asj, asi, aji, sR, jR, iR, xs, xj, xi, xR, hXl⟩ := h
  have K := Keeps.of_below hk
  exact ⟨sv, jv, iv, K.at (blk_lt hR) hR, owns_keeps os K (fun k hk => owns_lt os hk), owns_keeps oj K (fun k hk => owns_lt oj hk), owns_keeps oi K (fun k hk => owns_lt oi hk),
    asj, asi, aji, sR, jR, iR, xs, xj, xi, xR, fun k hk => Nat.lt_of_lt_of_le (hXl k hk) K.size⟩

theorem AInv.below {w : World} {S O C R : Nat} {jv lv av : Value} {lnk mx stp : Int} {l : List JP} {ss is qs : List Int} {wr w2 : World}
    (h : AInv w S O C R jv lv av lnk mx stp l ss is qs wr) (hk : Below wr.heap.size wr w2) : AInv w S O C R jv lv av lnk mx stp l ss is qs w2 := by
  have K := Keeps.of_below hk
  have hs := h.keeps.size
  exact ⟨K.at (blk_lt h.s) h.s, K.at (blk_lt h.o) h.o, K.at (blk_lt h.c) h.c, owns_keeps h.j K (fun k hk => owns_lt h.j hk), h.off, h.r.below hk, h.keeps.trans (K.mono fun k hk => by omega)⟩

theorem asI_append (a b : List (Nat × Int)) : asI (a ++ b) = asI a ++ asI b := by simp [asI]
theorem asQ_append (a b : List (Nat × Int)) : asQ (a ++ b) = asQ a ++ asQ b := by simp [asQ]
theorem asI_at {a : List (Nat × Int)} {k i : Nat} {q : Int} (h : a[k]? = some (i, q)) : (asI a)[k]? = some (i : Int) := by simp [asI, h]
theorem asQ_at {a : List (Nat × Int)} {k i : Nat} {q : Int} (h : a[k]? = some (i, q)) : (asQ a)[k]? = some q := by simp [asQ, h]

def bls (l : List Bool) : List Value := l.map Value.bool

/-- The recorder's k-th entry. -/
theorem AInv.reads {w : World} {S O C R : Nat} {jv lv av : Value} {lnk mx stp : Int} {l : List JP} {ss is qs : List Int} {wr : World} (h : AInv w S O C R jv lv av lnk mx stp l ss is qs wr) {k : Nat} {x q : Int} (hx : is[k]? = some x) (hq : qs[k]? = some q) :
    ∃ g1 c1 g2 c2, g1 < wr.heap.size ∧ g2 < wr.heap.size ∧ R < wr.heap.size ∧ wr.cell? ⟨R, 3, none⟩ = some (.slice (some ⟨g1, 0, none⟩) is.length c1) ∧ wr.cell? ⟨R, 4, none⟩ = some (.slice (some ⟨g2, 0, none⟩) qs.length c2) ∧
      wr.cell? ⟨g1, k, none⟩ = some (.int .i64 x) ∧ wr.cell? ⟨g2, k, none⟩ = some (.int .i64 q) := by
  obtain ⟨_, iv, qv, hR, _, oi, oq, _⟩ := h.r
  have hk1 := (List.getElem?_eq_some_iff.1 hx).1
  have hk2 := (List.getElem?_eq_some_iff.1 hq).1
  obtain ⟨a1, c1, rfl, f1⟩ := owns_form oi
  obtain ⟨a2, c2, rfl, f2⟩ := owns_form oq
  obtain ⟨g1, rfl⟩ := f1 (by omega)
  obtain ⟨g2, rfl⟩ := f2 (by omega)
  refine ⟨g1, c1, g2, c2, owns_lt oi rfl, owns_lt oq rfl, blk_lt hR, blk_cell hR 3, blk_cell hR 4, ?_, ?_⟩
  · rw [oi.cellAt k (by omega)]; simp [ints, hx]
  · rw [oq.cellAt k (by omega)]; simp [ints, hq]

theorem contains_b (v : Value) (zs : List Int) (q : Int) (w : World) (hv : IntsAt w v zs) (hl : zs.length ≤ 1099511627776) (b : Bool) (hb : Hid (has zs q = b)) :
    Calls Try.prog 14 #[v, .int .i64 q] w fun e w' => e = .returned (.bool b) ∧ w' = w := hb.out ▸ contains_any v zs q w hv hl

theorem answer_b (v : Value) (bs : List Bool) (i : Int) (w : World) (hv : BoolsAt w v bs) (hl : bs.length ≤ 1099511627776) (b : Bool) (hb : Hid (ans bs i = b)) :
    Calls Try.prog 15 #[v, .int .i64 i] w fun e w' => e = .returned (.bool b) ∧ w' = w := hb.out ▸ answer_any v bs i w hv hl

theorem loop3_no {lk : Int → Bool} {step : Int} {room : Bool} {l : List JP} {i : Nat} {j : JP} {w3 wr : World} (hi : i < l.length) (h : l[i]? = some j) (hd : due lk step room j = false)
    (hr : Below w3.heap.size w3 wr ∧ wr.ownsRow 0 4 1 (.slice (some ⟨w3.heap.size, 0, none⟩) l.length l.length) l.length (bls (askL lk step room l i))) (hsz : w3.heap.size < wr.heap.size) (o : Obj) :
    ∃ i' : Nat, i' ≤ l.length ∧ Value.int .i64 ((i : Int) + 1) = .int .i64 i' ∧ Value.int .i64 (asks lk step room (l.take i)).length = .int .i64 (asks lk step room (l.take i')).length ∧ Below w3.heap.size w3 (wr.alloc o) ∧ w3.heap.size < (wr.alloc o).heap.size ∧
      (wr.alloc o).ownsRow 0 4 1 (.slice (some ⟨w3.heap.size, 0, none⟩) l.length l.length) l.length (bls (askL lk step room l i')) :=
  ⟨i + 1, by omega, by go_num, by rw [asks_len h false hd]; simp, hr.1.alloc (by omega) o, by simp; omega, by rw [askL_no h hd]; exact hr.2.alloc o⟩

theorem loop3_yes {lk : Int → Bool} {step : Int} {room : Bool} {l : List JP} {i : Nat} {j : JP} {w3 wr : World} (hi : i < l.length) (h : l[i]? = some j) (hd : due lk step room j = true)
    (hr : Below w3.heap.size w3 wr ∧ wr.ownsRow 0 4 1 (.slice (some ⟨w3.heap.size, 0, none⟩) l.length l.length) l.length (bls (askL lk step room l i))) (hsz : w3.heap.size < wr.heap.size) (o : Obj) {KK : Nat} (hK : (asks lk step room (l.take i)).length = KK) (n : Nat) {W : World}
    (hW : W = ((wr.setCell ⟨w3.heap.size, i, none⟩ (.bool true)).alloc o).drewN n) :
    ∃ i' : Nat, i' ≤ l.length ∧ Value.int .i64 ((i : Int) + 1) = .int .i64 i' ∧ Value.int .i64 ((KK : Int) + 1) = .int .i64 (asks lk step room (l.take i')).length ∧ Below w3.heap.size w3 W ∧ w3.heap.size < W.heap.size ∧
      W.ownsRow 0 4 1 (.slice (some ⟨w3.heap.size, 0, none⟩) l.length l.length) l.length (bls (askL lk step room l i')) := by
  subst hW
  have hb := (hr.1.setCell (p := ⟨w3.heap.size, i, none⟩) (Nat.le_refl _) (.bool true)).alloc (by simp [World.setCell]; omega) o
  refine ⟨i + 1, by omega, by go_num, by rw [asks_len h true hd, hK]; simp, ⟨hb.os, hb.tape, hb.output, hb.size, hb.block⟩, ?_, ?_⟩
  · simp [World.setCell]; omega
  · rw [askL_yes h hd]
    have := (hr.2.stored i (.bool true)).1.alloc o
    rw [show (bls (askL lk step room l i)).set i (.bool true) = bls ((askL lk step room l i).set i true) by simp [bls, List.map_set]] at this
    exact owns_heap this rfl

theorem step1_id (lk : Int → Bool) (step : Int) (room : Bool) (an : Int → Bool) (i : Nat) (j : JP) : (step1 lk step room an i j).id = j.id := by
  unfold step1
  split
  · rfl
  · split
    · split <;> rfl
    · rfl

theorem loop4_rel {lk : Int → Bool} {step : Int} {room : Bool} {l : List JP} {ls : List Bool} {n i : Nat} {j : JP} {w3 wr : World} {KK NA : Nat} (hi : i < n) (h : l[i]? = some j) (b : Bool) (hd : due lk step room j = b) (hK : (asks lk step room (l.take i)).length = KK)
    (hr : Below w3.heap.size w3 wr ∧ wr.ownsRow 0 4 1 (.slice (some ⟨w3.heap.size, 0, none⟩) n n) n (bls ls)) (hsz : w3.heap.size < wr.heap.size) (x : Int) (hx : x = (NA : Int) + KK + (if b then 1 else 0)) (m : Nat) {W : World} (hW : W = wr.drewN m) :
    ∃ i' : Nat, i' ≤ n ∧ Value.int .i64 ((i : Int) + 1) = .int .i64 i' ∧ Value.int .i64 x = .int .i64 ((NA : Int) + (asks lk step room (l.take i')).length) ∧ Below w3.heap.size w3 W ∧ w3.heap.size < W.heap.size ∧
      W.ownsRow 0 4 1 (.slice (some ⟨w3.heap.size, 0, none⟩) n n) n (bls ls) := by
  subst hW
  refine ⟨i + 1, by omega, by go_num, ?_, ⟨hr.1.os, hr.1.tape, hr.1.output, hr.1.size, hr.1.block⟩, hsz, owns_heap hr.2 rfl⟩
  rw [asks_len h b hd, hK, hx]
  cases b <;> simp <;> omega

theorem loop5_rel {ls : List Bool} {n i : Nat} {w3 wr : World} (hi : i < n)
    (hr : Below w3.heap.size w3 wr ∧ wr.ownsRow 0 4 1 (.slice (some ⟨w3.heap.size, 0, none⟩) n n) n (bls ls)) (hsz : w3.heap.size < wr.heap.size) (o : Obj) (m : Nat) {W : World} (hW : W = (wr.alloc o).drewN m) :
    ∃ i' : Nat, i' ≤ n ∧ Value.int .i64 ((i : Int) + 1) = .int .i64 i' ∧ Below w3.heap.size w3 W ∧ w3.heap.size < W.heap.size ∧
      W.ownsRow 0 4 1 (.slice (some ⟨w3.heap.size, 0, none⟩) n n) n (bls ls) := by
  subst hW
  have hb := hr.1.alloc (by omega) o
  exact ⟨i + 1, by omega, by go_num, ⟨hb.os, hb.tape, hb.output, hb.size, hb.block⟩, by simp; omega, owns_heap (hr.2.alloc o) rfl⟩

theorem AInv.next {w : World} {S O C R : Nat} {jv lv av : Value} {lnk mx stp : Int} {l : List JP} {ss is qs : List Int} {wr w2 : World} {lk : Int → Bool} {step : Int} {room : Bool} {an : Int → Bool}
    (h : AInv w S O C R jv lv av lnk mx stp l ss is qs wr)
    (h2 : RInv wr (fun k => (k < w.heap.size ∨ k = S ∨ k = O ∨ k = C) ∨ jv.ownBlock = some k) (fun k => k < w.heap.size ∨ k = S ∨ k = O ∨ k = C) R stp av jv ss is qs l lk step room an l.length w2) :
    AInv w S O C R jv lv av lnk mx stp (rj lk step room an l) (ss ++ asS stp (asks lk step room l)) (is ++ asI (asks lk step room l)) (qs ++ asQ (asks lk step room l)) w2 := by
  obtain ⟨r1, r2, r3⟩ := h2
  rw [at_end] at r1
  rw [List.take_length] at r2
  exact ⟨r3.at (.inr (.inl rfl)) h.s, r3.at (.inr (.inr (.inl rfl))) h.o, r3.at (.inr (.inr (.inr rfl))) h.c, by rw [rj_length]; exact r1, h.off, r2, h.keeps.trans (r3.mono fun _ hk => .inl hk)⟩

theorem AInv.rejoin {w : World} {S O C R : Nat} {jv lv av : Value} {lnk mx step p : Int} {l : List JP} {ss is qs : List Int} {wr : World} {bs : List Bool} {zs : List Int}
    (h : AInv w S O C R jv lv av lnk mx step l ss is qs wr) (hb : BoolsAt w av bs) (hbx : liesIn (fun k => k < w.heap.size) av) (hz : IntsAt w lv zs) (hzx : liesIn (fun k => k < w.heap.size) lv)
    (hbl : bs.length ≤ 65536) (hzl : zs.length ≤ 4096) (hl : l.length ≤ 4096) (h1 : ss.length ≤ 1000000) (h2 : is.length ≤ 1000000) (h3 : qs.length ≤ 1000000)
    (hstep : step ≤ 9223372036854775743) (hstep0 : -9223372036854775808 ≤ step) (hwait : ∀ j ∈ l, 0 ≤ j.wait ∧ j.wait ≤ 64) :
    Calls Try.prog 10 #[.pointer (some ⟨S, 0, none⟩), .int .i64 p, .int .i64 step, .agg #[.int .i64 0, .int .i64 mx, .int .i64 0, .int .i64 0, .int .i64 0, .pointer none], .iface 28 (.pointer (some ⟨O, 0, none⟩)), .func (.func 11) #[.pointer (some ⟨R, 0, none⟩)] #[]] wr fun e w' =>
      e = .returned (.tuple #[]) ∧
      AInv w S O C R jv lv av lnk mx step (rj (has zs) step (decide (lnk < mx)) (ans bs) l) (ss ++ asS step (asks (has zs) step (decide (lnk < mx)) l)) (is ++ asI (asks (has zs) step (decide (lnk < mx)) l)) (qs ++ asQ (asks (has zs) step (decide (lnk < mx)) l)) w' := by
  refine (rejoin_any S O R p step mx lnk step _ _ _ _ _ av lv jv (.slice none 0 0) bs zs ss is qs l (fun k => k < w.heap.size ∨ k = S ∨ k = O ∨ k = C) wr h.s (by exact blk_cell h.o 0) (by exact blk_cell h.o 1) h.j h.off (.inr (.inl rfl)) (.inr (.inr (.inl rfl))) h.r
    (hb.keeps hbx h.keeps) (fun a n c e h0 => .inl (hbx a n c e h0)) (by omega) (hz.keeps hzx h.keeps) (fun a n c e h0 => .inl (hzx a n c e h0)) (by omega) (by omega) (by omega) (by omega) (by omega) hstep hstep0 hwait).mono ?_
  rintro e w2 ⟨rfl, hr2⟩
  exact ⟨rfl, h.next hr2⟩

set_option maxRecDepth 100000 in
set_option maxHeartbeats 9600000 in
theorem ask_main (p step lnk mx : Int) (jv0 lv av : Value) (js : List JP) (zs : List Int) (bs : List Bool) (w : World)
    (hj : JoinsAt w jv0 js) (hz : IntsAt w lv zs) (hb : BoolsAt w av bs) (hzx : liesIn (fun k => k < w.heap.size) lv) (hbx : liesIn (fun k => k < w.heap.size) av)
    (g0 : js.length + zs.length + bs.length ≤ 1048576) (g1 : js.length ≤ 4096) (g2 : zs.length ≤ 4096) (g3 : bs.length ≤ 65536) (g4 : 32 * js.length + 8 * zs.length + bs.length ≤ 1048576) (g5 : step ≤ 9223372036854775743) (g6 : -9223372036854775808 ≤ step) :
    Calls Try.prog 4 #[.int .i64 p, .int .i64 step, jv0, lv, .int .i64 lnk, .int .i64 mx, av] w fun e w' => e = .returned (.bool true) ∧ Below w.heap.size w w' := by
  have hz' := hz
  have hb' := hb
  obtain ⟨ja, jcap, rfl, hjc, hjx⟩ := hj
  obtain ⟨za, zcap, rfl, hzc, -⟩ := hz'
  obtain ⟨ba, bcap, rfl, hbc, -⟩ := hb'
  have hB := bytes13 p step lnk mx ja za ba js.length zs.length bs.length jcap zcap bcap w (by unfold maxLen; omega) (by unfold maxLen; omega) (by unfold maxLen; omega)
  rw [decide_eq_true g0] at hB
  have HB := hide hB
  clear hB
  obtain ⟨room, hrm⟩ : ∃ r, decide (lnk < mx) = r := ⟨_, rfl⟩
  have HRM := hide hrm
  clear hrm
  have d1 : decide (4096 < (js.length : Int)) = false := by simp; omega
  have d2 : decide (4096 < (zs.length : Int)) = false := by simp; omega
  have d3 : decide (65536 < (bs.length : Int)) = false := by simp; omega
  have d4 : decide (1048576 < 32 * (js.length : Int) + 8 * (zs.length : Int) + (bs.length : Int)) = false := by simp; omega
  have d5 : decide (9223372036854775743 < step) = false := by simp; omega
  go_enter Try.func4, Try.ntmps4
  go_wp2_with (go_at_call 13; refine (HB.out).mono ?_; rintro e w' ⟨rfl, hw⟩; obtain rfl := hw.symm)
  go_loop [15] (fun i => ∃ k : Nat, k ≤ js.length ∧ i = .int .i64 k ∧ Hid (∀ x j, x < k → js[x]? = some j → 0 ≤ j.wait ∧ j.wait ≤ 64)) (fun i => js.length - (intOf i).toNat)
  case atStart => exact ⟨0, Nat.zero_le _, rfl, fun x j h => absurd h (by omega)⟩
  case round =>
    obtain ⟨k, hk, rfl, HG⟩ := hrel
    by_cases hlt : k < js.length
    · as_aux_lemma =>
      obtain ⟨j, hjk⟩ : ∃ j, js[k]? = some j := ⟨_, List.getElem?_eq_getElem hlt⟩
      obtain ⟨b, off, -, rfl, hcell⟩ := hjx (by omega)
      obtain ⟨-, -, -, c3⟩ := hcell k j hjk
      have HJ := hide hjk
      have hlt' : (k : Int) < (js.length : Int) := by omega
      clear hcell hjx hjk
      by_cases hw0 : j.wait < 0
      · go_wp2_with fail
        go_ret
        exact ⟨rfl, Below.refl _ _⟩
      · have e0 : decide (j.wait < 0) = false := by simpa using hw0
        by_cases hw1 : 64 < j.wait
        · go_wp2_with fail
          go_ret
          exact ⟨rfl, Below.refl _ _⟩
        · have e1 : decide (64 < j.wait) = false := by simpa using hw1
          go_wp2_with fail
          go_round
          case rel =>
            refine ⟨k + 1, by omega, by go_num, fun x j' hx hj' => ?_⟩
            by_cases hxk : x = k
            · subst hxk
              rw [HJ.out] at hj'
              cases hj'
              exact ⟨by omega, by omega⟩
            · exact HG.out x j' (by omega) hj'
          case measure => simp [intOf]; omega
    · as_aux_lemma =>
      have hgood : ∀ j ∈ js, 0 ≤ j.wait ∧ j.wait ≤ 64 := fun j hj => by
        obtain ⟨x, hx⟩ := List.getElem?_of_mem hj
        exact HG.out x j (by have := (List.getElem?_eq_some_iff.1 hx).1; omega) hx
      have HW := hide hgood
      have dk : decide ((k : Int) < (js.length : Int)) = false := by simp; omega
      clear hgood HG HB
      go_wp2_with fail
      go_loopw [17] (fun i wr => ∃ (m : Nat) (jv : Value), m ≤ js.length ∧ i = .int .i64 m ∧ wr.heap[w.heap.size]? = some (.cells #[jv, .slice none 0 0] 26 (0, 0)) ∧
          wr.ownsRow 0 79 5 jv (js.take m).length (jcells (js.take m)) ∧ jv.ownBlock ≠ some w.heap.size ∧ offX (fun k => k < w.heap.size) jv ∧ Keeps (fun k => k < w.heap.size) w wr) (fun i _ => js.length - (intOf i).toNat)
      case atStart =>
        exact ⟨0, _, Nat.zero_le _, rfl, heap_alloc_new w _, by simpa [jcells] using World.ownsRow_nil _ _ _ _, by simp [Value.ownBlock], offX_nil _, (Keeps.refl _ w).alloc _⟩
      case round =>
        obtain ⟨m, jv, hm, rfl, hS, hrow, jS, xj, hkp⟩ := hrel
        by_cases hlt : m < js.length
        · as_aux_lemma =>
          obtain ⟨j, hjk⟩ : ∃ j, js[m]? = some j := ⟨_, List.getElem?_eq_getElem hlt⟩
          obtain ⟨b, off, hbl, rfl, hcell⟩ := hjx (by omega)
          obtain ⟨q0, q1, q2, q3⟩ := hcell m j hjk
          have c0 : wr.cell? ⟨b, off + m * 4, none⟩ = some (.int .i64 j.id) := hkp.cell (a := ⟨b, off + m * 4, none⟩) hbl q0
          have c1 : wr.cell? ⟨b, off + m * 4 + 1, none⟩ = some (.bool j.lost) := hkp.cell (a := ⟨b, off + m * 4 + 1, none⟩) hbl q1
          have c2 : wr.cell? ⟨b, off + m * 4 + 2, none⟩ = some (.int .i64 j.next) := hkp.cell (a := ⟨b, off + m * 4 + 2, none⟩) hbl q2
          have c3 : wr.cell? ⟨b, off + m * 4 + 3, none⟩ = some (.int .i64 j.wait) := hkp.cell (a := ⟨b, off + m * 4 + 3, none⟩) hbl q3
          have m0 : (0 : Int) ≤ (m : Int) := by omega
          have m1 : (m : Int) < (js.length : Int) := by omega
          have HJ := hide hjk
          have HS : Hid (wr.heap[w.heap.size]? = some (.cells #[jv, .slice none 0 0] 26 (0, 0)) ∧ wr.ownsRow 0 79 5 jv (js.take m).length (jcells (js.take m)) ∧ Keeps (fun k => k < w.heap.size) w wr) := ⟨hS, hrow, hkp⟩
          have hwl : w.heap.size ≤ wr.heap.size := hkp.size
          have htk : (js.take m).length = m := by simp; omega
          have HTK := hide htk
          clear hcell hjx hjk q0 q1 q2 q3 hS hrow hkp htk
          go_wp2_with fail
          go_region_held3 (fun w' => w'.cell? ⟨b, off + m * 4, none⟩ = some (.int .i64 j.id) ∧ w'.cell? ⟨b, off + m * 4 + 1, none⟩ = some (.bool j.lost) ∧ w'.cell? ⟨b, off + m * 4 + 2, none⟩ = some (.int .i64 j.next) ∧ w'.cell? ⟨b, off + m * 4 + 3, none⟩ = some (.int .i64 j.wait))
            (first
              | go_keep
              | (go_split_ands
                 refine ⟨hk2.cell (a := ⟨b, off + m * 4, none⟩) hbl c0, hk2.cell (a := ⟨b, off + m * 4 + 1, none⟩) hbl c1, hk2.cell (a := ⟨b, off + m * 4 + 2, none⟩) hbl c2, hk2.cell (a := ⟨b, off + m * 4 + 3, none⟩) hbl c3⟩))
            ((go_at_call 9; refine (addJoin_any w.heap.size j.id j.next j.wait j.lost jv (.slice none 0 0) (js.take m) (fun k => k < w.heap.size) _ (by exact HS.out.1) (by exact HS.out.2.1) jS xj (by simp) (by intro k hk; exact Nat.lt_of_lt_of_le hk (by exact hwl)) (by rw [HTK.out]; omega)).mono ?_; rintro e w2 ⟨rfl, jv2, hS2, hrow2, jS2, xj2, hk2⟩))
          have HR2 : Hid (w2.heap[w.heap.size]? = some (.cells #[jv2, .slice none 0 0] 26 (0, 0)) ∧ w2.ownsRow 0 79 5 jv2 (js.take (m + 1)).length (jcells (js.take (m + 1))) ∧ jv2.ownBlock ≠ some w.heap.size ∧ offX (fun k => k < w.heap.size) jv2 ∧ Keeps (fun k => k < w.heap.size) w w2) := by
            obtain ⟨hm', rfl⟩ := List.getElem?_eq_some_iff.1 HJ.out
            rw [List.take_succ_eq_append_getElem hm']
            exact ⟨hS2, hrow2, jS2, xj2, HS.out.2.2.trans ⟨hk2.os, hk2.tape, hk2.output, hk2.size, hk2.block⟩⟩
          clear hS2 hrow2 jS2 xj2 hk2 HS HJ c0 c1 c2 c3 jS xj
          go_wp2_with fail
          go_roundw
          case rel => exact ⟨m + 1, jv2, by omega, by go_num, HR2.out⟩
          case measure => simp [intOf]; omega
        · as_aux_lemma =>
          have hmn : m = js.length := by omega
          have dm : decide ((m : Int) < (js.length : Int)) = false := by simp; omega
          have hrow' : wr.ownsRow 0 79 5 jv js.length (jcells js) := by rw [hmn, List.take_length] at hrow; exact hrow
          have jl : ∀ x, jv.ownBlock = some x → x < wr.heap.size := fun x hx => owns_lt hrow' hx
          have lS := blk_lt hS
          obtain ⟨W1, hW1⟩ : ∃ W1 : World, W1 = ((wr.alloc (.cells #[.int .i64 lnk, .slice za zs.length zcap, .slice none 0 0, .int .i64 0, .slice none 0 0, .slice none 0 0, .slice none 0 0, .slice none 0 0, .slice none 0 0] 32)).alloc (.cells #[.int .i64 0, .int .i64 mx, .int .i64 0, .int .i64 0, .int .i64 0, .pointer none] 35)).alloc (.cells #[.int .i64 step, .slice ba bs.length bcap, .slice none 0 0, .slice none 0 0, .slice none 0 0] 38) := ⟨_, rfl⟩
          have hA : AInv w w.heap.size wr.heap.size (wr.heap.size + 1) (wr.heap.size + 1 + 1) jv (.slice za zs.length zcap) (.slice ba bs.length bcap) lnk mx step js [] [] [] W1 := by
            rw [hW1]
            obtain ⟨a1, a2, a3⟩ := three wr (.cells #[.int .i64 lnk, .slice za zs.length zcap, .slice none 0 0, .int .i64 0, .slice none 0 0, .slice none 0 0, .slice none 0 0, .slice none 0 0, .slice none 0 0] 32) (.cells #[.int .i64 0, .int .i64 mx, .int .i64 0, .int .i64 0, .int .i64 0, .pointer none] 35) (.cells #[.int .i64 step, .slice ba bs.length bcap, .slice none 0 0, .slice none 0 0, .slice none 0 0] 38)
            refine ⟨blk_alloc (blk_alloc (blk_alloc hS _) _) _, a1, a2, ((hrow'.alloc _).alloc _).alloc _, ?_, RecAt.start a3 ?_ ?_, ((hkp.alloc _).alloc _).alloc _⟩
            · intro x hx hor
              have := jl x hx
              rcases hor with h | h | h | h
              · exact xj x hx h
              · exact jS (h ▸ hx)
              · omega
              · omega
            · rintro (h | h)
              · omega
              · have := jl _ h; omega
            · rintro x (h | h)
              · simp only [size_alloc]; omega
              · have := jl _ h; simp only [size_alloc]; omega
          have hcall := hA.rejoin (p := p) hb hbx hz hzx g3 g2 g1 (by simp) (by simp) (by simp) g5 g6 HW.out
          rw [hW1, HRM.out] at hcall
          have HC := hide hcall
          clear hcall hA hW1 hS hrow hrow' jS xj hkp hmn
          obtain ⟨SO, hSO⟩ : ∃ SO : Nat, wr.heap.size = SO := ⟨_, rfl⟩
          rw [hSO] at HC lS jl
          go_wp2_with fail
          refine (HC.out).mono ?_
          rintro e w2 ⟨rfl, hA2⟩
          clear HC jl hSO
          simp only [List.nil_append] at hA2
          have e0 : w2.cell? ⟨SO + 1, 0, none⟩ = some (.int .i64 0) := blk_cell hA2.c 0
          have e1 : w2.cell? ⟨SO + 1, 1, none⟩ = some (.int .i64 mx) := blk_cell hA2.c 1
          have e2 : w2.cell? ⟨SO + 1, 2, none⟩ = some (.int .i64 0) := blk_cell hA2.c 2
          have e3 : w2.cell? ⟨SO + 1, 3, none⟩ = some (.int .i64 0) := blk_cell hA2.c 3
          have e4 : w2.cell? ⟨SO + 1, 4, none⟩ = some (.int .i64 0) := blk_cell hA2.c 4
          have e5 : w2.cell? ⟨SO + 1, 5, none⟩ = some (.pointer none) := blk_cell hA2.c 5
          have eI : ∃ ia icap, w2.cell? ⟨SO + 1 + 1, 3, none⟩ = some (.slice ia (asks (has zs) step room js).length icap) := by
            obtain ⟨_, iv, _, hR, _, oi, _⟩ := hA2.r
            obtain ⟨ia, icap, rfl, -⟩ := owns_form oi
            exact ⟨ia, icap, by have := blk_cell hR 3; simpa [asI] using this⟩
          obtain ⟨ia, icap, eI⟩ := eI
          have hal := due_len (has zs) step room js
          have hcall := hA2.rejoin (p := p) hb hbx hz hzx g3 g2 (by rw [rj_length]; exact g1) (by simp [asS]; omega) (by simp [asI]; omega) (by simp [asQ]; omega) g5 g6 (rj_wait _ _ _ _ _ HW.out)
          rw [HRM.out, rj_rj _ _ _ _ _ (fun j hj => (HW.out j hj).1), ← asI_append, ← asQ_append] at hcall
          have HC := hide hcall
          clear hcall hA2
          generalize hA1 : (asks (has zs) step room js).length = NA at *
          have HA1 := hide hA1
          clear hA1
          go_wp2_with fail
          refine (HC.out).mono ?_
          rintro e w3 ⟨rfl, hA3⟩
          clear HC e0 e1 e2 e3 e4 e5 eI
          have hroom := HRM.out
          have HA3 := hide hA3
          have hs3 := hA3.keeps.size
          clear hA3
          obtain ⟨i4, hi4, hz40, hz41, hz42⟩ := info_parts info4
          go_wp2_with (at_make; refine wpList_make_full _ rfl _ _ 29 rfl 0 4 i4 (.bool false) 1 Try.underlying29 hi4 hz40 hz41 _ _ _ _ js.length rfl rfl rfl rfl (by rw [hz42]; omega) (by unfold maxLen; omega) (by omega) ?_)
          intro w4 own4 hgrow4
          have own5 : w4.ownsRow 0 4 1 (.slice (some ⟨w3.heap.size, 0, none⟩) js.length js.length) js.length (bls (askL (has zs) step room js 0)) := by
            have e : (madeCells #[Value.bool false] js.length).toList = bls (askL (has zs) step room js 0) := by
              rw [toList_madeCells_one]; simp [bls, askL]
            rw [← e]; exact own4
          have bel4 : Below w3.heap.size w3 w4 := ⟨hgrow4.os, hgrow4.tape, hgrow4.output, hgrow4.size, fun k hk => hgrow4.block k hk (by simp)⟩
          have HO5 := hide own5
          have HB4 := hide bel4
          clear own4 hgrow4 own5 bel4
          go_wp2_with fail
          clear hroom
          go_loopw [24, 25] (fun kv iv wr => ∃ i : Nat, i ≤ js.length ∧ iv = .int .i64 i ∧ kv = .int .i64 (asks (has zs) step room (js.take i)).length ∧ Below w3.heap.size w3 wr ∧ w3.heap.size < wr.heap.size ∧
              wr.ownsRow 0 4 1 (.slice (some ⟨w3.heap.size, 0, none⟩) js.length js.length) js.length (bls (askL (has zs) step room js i))) (fun _ iv _ => js.length - (intOf iv).toNat)
          case atStart =>
            refine ⟨0, Nat.zero_le _, rfl, by simp [asks], HB4.out, ?_, HO5.out⟩
            exact (owns_lt HO5.out (k := w3.heap.size) rfl)
          case round =>
            obtain ⟨i, hi, rfl, rfl, hbel, hsz, hrow⟩ := hrel
            by_cases hlt : i < js.length
            · as_aux_lemma =>
              obtain ⟨j, hjk⟩ : ∃ j, js[i]? = some j := ⟨_, List.getElem?_eq_getElem hlt⟩
              obtain ⟨b, off, hbl, rfl, hcell⟩ := hjx (by omega)
              obtain ⟨q0, q1, q2, q3⟩ := hcell i j hjk
              have hA := HA3.out.below hbel
              have hK := hA.keeps
              have c0 : wr.cell? ⟨b, off + i * 4, none⟩ = some (.int .i64 j.id) := hK.cell (a := ⟨b, off + i * 4, none⟩) hbl q0
              have c1 : wr.cell? ⟨b, off + i * 4 + 1, none⟩ = some (.bool j.lost) := hK.cell (a := ⟨b, off + i * 4 + 1, none⟩) hbl q1
              have c2 : wr.cell? ⟨b, off + i * 4 + 2, none⟩ = some (.int .i64 j.next) := hK.cell (a := ⟨b, off + i * 4 + 2, none⟩) hbl q2
              have c3 : wr.cell? ⟨b, off + i * 4 + 3, none⟩ = some (.int .i64 j.wait) := hK.cell (a := ⟨b, off + i * 4 + 3, none⟩) hbl q3
              have m0 : (0 : Int) ≤ (i : Int) := by omega
              have m1 : (i : Int) < (js.length : Int) := by omega
              have hzr : IntsAt (wr.alloc (.cells #[.int .i64 j.id, .bool j.lost, .int .i64 j.next, .int .i64 j.wait] 47)) (.slice za zs.length zcap) zs := hz.keeps hzx (hK.alloc _)
              have HR : Hid (Below w3.heap.size w3 wr ∧ wr.ownsRow 0 4 1 (.slice (some ⟨w3.heap.size, 0, none⟩) js.length js.length) js.length (bls (askL (has zs) step room js i))) := ⟨hbel, hrow⟩
              have HJ := hide hjk
              have hbw : b < wr.heap.size := by have := hbel.size; omega
              clear hcell hjx hjk q0 q1 q2 q3 hK hbel hrow hA
              obtain ⟨id, lost, next, wait⟩ := j
              simp only at c0 c1 c2 c3 hzr
              cases lost with
              | false =>
                go_wp2_with fail
                go_roundw
                case rel => exact loop3_no hlt HJ.out (by simp [due]) HR.out hsz _
                case measure => simp [intOf]; omega
              | true =>
                obtain ⟨blk, hlk⟩ : ∃ b, has zs id = b := ⟨_, rfl⟩
                have HLK := hide hlk
                clear hlk
                cases blk with
                | true =>
                  go_wp2_with (go_at_call 14; refine (contains_b _ zs id _ hzr (by omega) true HLK).mono ?_; rintro e w' ⟨rfl, hw⟩; obtain rfl := hw.symm)
                  go_roundw
                  case rel => exact loop3_no hlt HJ.out (by simp [due, HLK.out]) HR.out hsz _
                  case measure => simp [intOf]; omega
                | false =>
                  by_cases hns : next ≤ step
                  · cases room with
                    | false =>
                      go_wp2_with (go_at_call 14; refine (contains_b _ zs id _ hzr (by omega) false HLK).mono ?_; rintro e w' ⟨rfl, hw⟩; obtain rfl := hw.symm)
                      go_roundw
                      case rel => exact loop3_no hlt HJ.out (by simp [due]) HR.out hsz _
                      case measure => simp [intOf]; omega
                    | true =>
                      have hd : due (has zs) step true ⟨id, true, next, wait⟩ = true := by simp [due, HLK.out, hns]
                      obtain ⟨hk1, hk2⟩ := ask_at (has zs) step true js i _ HJ.out hd
                      rw [HA1.out] at hk2
                      have hk3 : (asks (has zs) step true js ++ asks (has zs) step true (rj (has zs) step true (ans bs) js))[(asks (has zs) step true (js.take i)).length]? = some (i, id) := by
                        rw [List.getElem?_append_left (by rw [HA1.out]; exact hk2)]; exact hk1
                      obtain ⟨r1, rc1, r2, rc2, rl1, rl2, rl3, rr1, rr2, rr3, rr4⟩ := HA3.out.reads (asI_at hk3) (asQ_at hk3)
                      have s1 := (HR.out.1.cell (p := ⟨SO + 1 + 1, 3, none⟩) rl3).trans rr1
                      have s2 := (HR.out.1.cell (p := ⟨SO + 1 + 1, 4, none⟩) rl3).trans rr2
                      have s3 := (HR.out.1.cell (p := ⟨r1, (asks (has zs) step true (js.take i)).length, none⟩) rl1).trans rr3
                      have s4 := (HR.out.1.cell (p := ⟨r2, (asks (has zs) step true (js.take i)).length, none⟩) rl2).trans rr4
                      have hLl : (asks (has zs) step true js ++ asks (has zs) step true (rj (has zs) step true (ans bs) js)).length = NA + (asks (has zs) step true (rj (has zs) step true (ans bs) js)).length := by rw [List.length_append, HA1.out]
                      have hLI : (asI (asks (has zs) step true js ++ asks (has zs) step true (rj (has zs) step true (ans bs) js))).length = NA + (asks (has zs) step true (rj (has zs) step true (ans bs) js)).length := by rw [asI, List.length_map, hLl]
                      have hLQ : (asQ (asks (has zs) step true js ++ asks (has zs) step true (rj (has zs) step true (ans bs) js))).length = NA + (asks (has zs) step true (rj (has zs) step true (ans bs) js)).length := by rw [asQ, List.length_map, hLl]
                      have hA2l := due_len (has zs) step true (rj (has zs) step true (ans bs) js)
                      rw [rj_length] at hA2l
                      rw [hLI] at s1
                      rw [hLQ] at s2
                      generalize (asks (has zs) step true (rj (has zs) step true (ans bs) js)).length = NB at s1 s2 hA2l
                      have ca : wr.cell? ⟨w3.heap.size, i, none⟩ = some (.bool false) := by
                        rw [HR.out.2.cellAt i (by omega)]
                        simp [bls, askL_at hlt]
                      have fa : wr.frozen? ⟨w3.heap.size, i, none⟩ = false := HR.out.2.frozenAt i
                      have HD := hide hd
                      clear hd hk1 hk3 rr1 rr2 rr3 rr4 hLl hLI hLQ
                      generalize hKK : (asks (has zs) step true (js.take i)).length = KK at *
                      have HKK := hide hKK
                      clear hKK
                      have hkn : decide ((NA : Int) ≤ (KK : Int)) = false := by simp; omega
                      have x1 : ¬ SO + 1 + 1 = w3.heap.size := by omega
                      have x2 : ¬ r1 = w3.heap.size := by omega
                      have x3 : ¬ r2 = w3.heap.size := by omega
                      have x4 : SO + 1 + 1 < wr.heap.size := by omega
                      have x5 : r1 < wr.heap.size := by omega
                      have x6 : r2 < wr.heap.size := by omega
                      have x7 : (KK : Int) < (NA : Int) + (NB : Int) := by omega
                      have x8 : (0 : Int) ≤ (KK : Int) := by omega
                      go_upto_region 35 with (go_at_call 14; refine (contains_b _ zs id _ hzr (by omega) false HLK).mono ?_; rintro e w' ⟨rfl, hw⟩; obtain rfl := hw.symm)
                      go_quiet (fail)
                      go_wp2_with fail
                      go_roundw
                      case rel => exact loop3_yes hlt HJ.out HD.out HR.out hsz _ HKK.out _ rfl
                      case measure => simp [intOf]; omega
                  · have hd0 : decide (next ≤ step) = false := by simpa using hns
                    go_wp2_with (go_at_call 14; refine (contains_b _ zs id _ hzr (by omega) false HLK).mono ?_; rintro e w' ⟨rfl, hw⟩; obtain rfl := hw.symm)
                    go_roundw
                    case rel => exact loop3_no hlt HJ.out (by simp [due]; omega) HR.out hsz _
                    case measure => simp [intOf]; omega
            · as_aux_lemma =>
              have hil : i = js.length := by omega
              have hd : decide ((i : Int) < (js.length : Int)) = false := by simp; omega
              have hkk : (asks (has zs) step room (js.take i)).length = NA := by rw [hil, List.take_length]; exact HA1.out
              have hrow2 : wr.ownsRow 0 4 1 (.slice (some ⟨w3.heap.size, 0, none⟩) js.length js.length) js.length (bls (askL (has zs) step room js js.length)) := by rw [hil] at hrow; exact hrow
              rw [hkk]
              have HR3 : Hid (Below w3.heap.size w3 wr ∧ wr.ownsRow 0 4 1 (.slice (some ⟨w3.heap.size, 0, none⟩) js.length js.length) js.length (bls (askL (has zs) step room js js.length))) := ⟨hbel, hrow2⟩
              clear hkk hrow2 hrow hbel hil
              obtain ⟨w5, hw5⟩ : ∃ w5 : World, w5 = wr := ⟨_, rfl⟩
              subst hw5
              go_wp2_with fail
              go_loopw [24, 27] (fun kv iv wr => ∃ i4 : Nat, i4 ≤ js.length ∧ iv = .int .i64 i4 ∧ kv = .int .i64 ((NA : Int) + (asks (has zs) step room ((rj (has zs) step room (ans bs) js).take i4)).length) ∧ Below w3.heap.size w3 wr ∧ w3.heap.size < wr.heap.size ∧
                  wr.ownsRow 0 4 1 (.slice (some ⟨w3.heap.size, 0, none⟩) js.length js.length) js.length (bls (askL (has zs) step room js js.length))) (fun _ iv _ => js.length - (intOf iv).toNat)
              case atStart => exact ⟨0, Nat.zero_le _, rfl, by simp [asks], HR3.out.1, hsz, HR3.out.2⟩
              case round =>
                obtain ⟨i4, hi4', rfl, rfl, hbel, hsz4, hrow⟩ := hrel
                by_cases hlt : i4 < js.length
                · as_aux_lemma =>
                  obtain ⟨j, hjk⟩ : ∃ j, js[i4]? = some j := ⟨_, List.getElem?_eq_getElem hlt⟩
                  obtain ⟨b, off, hbl, rfl, hcell⟩ := hjx (by omega)
                  obtain ⟨q0, q1, q2, q3⟩ := hcell i4 j hjk
                  have hA := HA3.out.below hbel
                  have hK := hA.keeps
                  have hwj := HW.out j (List.mem_of_getElem? hjk)
                  have c0 : wr.cell? ⟨b, off + i4 * 4, none⟩ = some (.int .i64 j.id) := hK.cell (a := ⟨b, off + i4 * 4, none⟩) hbl q0
                  have c3 : wr.cell? ⟨b, off + i4 * 4 + 3, none⟩ = some (.int .i64 j.wait) := hK.cell (a := ⟨b, off + i4 * 4 + 3, none⟩) hbl q3
                  have m0 : (0 : Int) ≤ (i4 : Int) := by omega
                  have m1 : (i4 : Int) < (js.length : Int) := by omega
                  have hbr : BoolsAt wr (.slice ba bs.length bcap) bs := hb.keeps hbx hK
                  have ca : wr.cell? ⟨w3.heap.size, i4, none⟩ = some (.bool (due (has zs) step room j)) := by
                    rw [hrow.cellAt i4 (by omega)]
                    simp [bls, askL_end hjk]
                  have HR : Hid (Below w3.heap.size w3 wr ∧ wr.ownsRow 0 4 1 (.slice (some ⟨w3.heap.size, 0, none⟩) js.length js.length) js.length (bls (askL (has zs) step room js js.length))) := ⟨hbel, hrow⟩
                  have hdue2 := due_step1 (has zs) step room (ans bs) i4 j hwj.1
                  have hget := rj_get (has zs) step room (ans bs) js i4 j hjk
                  have hNB := due_len (has zs) step room ((rj (has zs) step room (ans bs) js).take i4)
                  have htl : ((rj (has zs) step room (ans bs) js).take i4).length ≤ i4 := List.length_take_le _ _
                  have HJ := hide hjk
                  have HD2 := hide hdue2
                  have HG := hide hget
                  clear hcell hjx hjk q0 q1 q2 q3 hK hbel hrow hA hdue2 hget
                  generalize hKK : (asks (has zs) step room ((rj (has zs) step room (ans bs) js).take i4)).length = KK at hNB ⊢
                  have HKK := hide hKK
                  clear hKK
                  obtain ⟨bd, hbd⟩ : ∃ b, due (has zs) step room j = b := ⟨_, rfl⟩
                  rw [hbd] at ca
                  have HBD := hide hbd
                  clear hbd
                  obtain ⟨bn, hbn⟩ : ∃ b, ans bs i4 = b := ⟨_, rfl⟩
                  have HBN := hide hbn
                  clear hbn
                  cases bd with
                  | false =>
                    go_wp2_with fail
                    go_roundw
                    case rel => exact loop4_rel hlt HG.out false (by rw [HD2.out, HBD.out]; rfl) HKK.out HR.out hsz4 _ (by simp) 0 rfl
                    case measure => simp [intOf]; omega
                  | true =>
                    cases bn with
                    | true =>
                      go_wp2_with (go_at_call 15; refine (answer_b _ bs i4 _ hbr (by omega) true HBN).mono ?_; rintro e w' ⟨rfl, hw⟩; obtain rfl := hw.symm)
                      go_roundw
                      case rel => exact loop4_rel hlt HG.out false (by rw [HD2.out, HBD.out, HBN.out]; rfl) HKK.out HR.out hsz4 _ (by simp) 0 rfl
                      case measure => simp [intOf]; omega
                    | false =>
                      by_cases hw0 : j.wait = 0
                      · have hd2 : due (has zs) step room (step1 (has zs) step room (ans bs) i4 j) = true := by rw [HD2.out, HBD.out, HBN.out]; simp [hw0]
                        obtain ⟨hk1, hk2⟩ := ask_at (has zs) step room _ i4 _ HG.out hd2
                        rw [step1_id, HKK.out] at hk1
                        rw [HKK.out] at hk2
                        have hk3 : (asks (has zs) step room js ++ asks (has zs) step room (rj (has zs) step room (ans bs) js))[NA + KK]? = some (i4, j.id) := by
                          rw [List.getElem?_append_right (by rw [HA1.out]; omega), HA1.out, show NA + KK - NA = KK by omega]; exact hk1
                        obtain ⟨r1, rc1, r2, rc2, rl1, rl2, rl3, rr1, rr2, rr3, rr4⟩ := HA3.out.reads (asI_at hk3) (asQ_at hk3)
                        have s1 := (HR.out.1.cell (p := ⟨SO + 1 + 1, 3, none⟩) rl3).trans rr1
                        have s2 := (HR.out.1.cell (p := ⟨SO + 1 + 1, 4, none⟩) rl3).trans rr2
                        have s3 := (HR.out.1.cell (p := ⟨r1, NA + KK, none⟩) rl1).trans rr3
                        have s4 := (HR.out.1.cell (p := ⟨r2, NA + KK, none⟩) rl2).trans rr4
                        have hLl : (asks (has zs) step room js ++ asks (has zs) step room (rj (has zs) step room (ans bs) js)).length = NA + (asks (has zs) step room (rj (has zs) step room (ans bs) js)).length := by rw [List.length_append, HA1.out]
                        have hA2l := due_len (has zs) step room (rj (has zs) step room (ans bs) js)
                        rw [rj_length] at hA2l
                        rw [asI, List.length_map, hLl] at s1
                        rw [asQ, List.length_map, hLl] at s2
                        generalize (asks (has zs) step room (rj (has zs) step room (ans bs) js)).length = NB at s1 s2 hA2l hk2
                        have HDD := hide hd2
                        clear hd2 hk1 hk3 rr1 rr2 rr3 rr4 hLl
                        rw [show (NA : Int) + (KK : Int) = ((NA + KK : Nat) : Int) by omega]
                        obtain ⟨LL, hLL⟩ : ∃ LL, NA + NB = LL := ⟨_, rfl⟩
                        obtain ⟨TT, hTT⟩ : ∃ TT, NA + KK = TT := ⟨_, rfl⟩
                        have x9 : TT < LL := by omega
                        have x10 : LL ≤ 10000 := by omega
                        rw [hLL] at s1 s2
                        rw [hTT] at s3 s4 ⊢
                        have HTT := hide hTT
                        clear hLL hTT
                        have hkn : decide ((LL : Int) ≤ (TT : Int)) = false := by simp; omega
                        have x7 : (TT : Int) < (LL : Int) := by omega
                        have x8 : (0 : Int) ≤ (TT : Int) := by omega
                        have hwq : (j.wait == 0) = true := by simp [hw0]
                        clear hw0
                        go_upto_region 44 with (go_at_call 15; refine (answer_b _ bs i4 _ hbr (by omega) false HBN).mono ?_; rintro e w' ⟨rfl, hw⟩; obtain rfl := hw.symm)
                        go_quiet (fail)
                        go_wp2_with fail
                        go_roundw
                        case rel => exact loop4_rel hlt HG.out true HDD.out HKK.out HR.out hsz4 _ (by have := HTT.out; simp; omega) _ rfl
                        case measure => simp [intOf]; omega
                      · have hwq : (j.wait == 0) = false := by simp [hw0]
                        go_wp2_with (go_at_call 15; refine (answer_b _ bs i4 _ hbr (by omega) false HBN).mono ?_; rintro e w' ⟨rfl, hw⟩; obtain rfl := hw.symm)
                        go_roundw
                        case rel => exact loop4_rel hlt HG.out false (by rw [HD2.out, HBD.out, HBN.out]; simp [hw0]) HKK.out HR.out hsz4 _ (by simp) 0 rfl
                        case measure => simp [intOf]; omega
                · as_aux_lemma =>
                  have hil4 : i4 = js.length := by omega
                  have hd4 : decide ((i4 : Int) < (js.length : Int)) = false := by simp; omega
                  have hA := HA3.out.below hbel
                  have eR : ∃ xa xcap, wr.cell? ⟨SO + 1 + 1, 3, none⟩ = some (.slice xa (NA + (asks (has zs) step room (rj (has zs) step room (ans bs) js)).length) xcap) := by
                    obtain ⟨_, iv, _, hR, _, oi, _⟩ := hA.r
                    obtain ⟨xa, xcap, rfl, -⟩ := owns_form oi
                    refine ⟨xa, xcap, ?_⟩
                    have := blk_cell hR 3
                    rw [asI, List.length_map, List.length_append, HA1.out] at this
                    exact this
                  obtain ⟨xa, xcap, eR⟩ := eR
                  have hA2l := due_len (has zs) step room (rj (has zs) step room (ans bs) js)
                  rw [rj_length] at hA2l
                  have hkk : (asks (has zs) step room ((rj (has zs) step room (ans bs) js).take i4)).length = (asks (has zs) step room (rj (has zs) step room (ans bs) js)).length := by
                    rw [hil4, ← rj_length (has zs) step room (ans bs) js, List.take_length]
                  rw [hkk]
                  generalize (asks (has zs) step room (rj (has zs) step room (ans bs) js)).length = NB at eR hA2l ⊢
                  rw [show (NA : Int) + (NB : Int) = ((NA + NB : Nat) : Int) by omega]
                  generalize NA + NB = LL at eR ⊢
                  have HR5 : Hid (Below w3.heap.size w3 wr ∧ wr.ownsRow 0 4 1 (.slice (some ⟨w3.heap.size, 0, none⟩) js.length js.length) js.length (bls (askL (has zs) step room js js.length))) := ⟨hbel, hrow⟩
                  clear hkk hrow hbel hil4 hA HR3
                  obtain ⟨w6, hw6⟩ : ∃ w6 : World, w6 = wr := ⟨_, rfl⟩
                  subst hw6
                  go_wp2_with fail
                  go_loopw [28] (fun iv wr => ∃ i5 : Nat, i5 ≤ js.length ∧ iv = .int .i64 i5 ∧ Below w3.heap.size w3 wr ∧ w3.heap.size < wr.heap.size ∧
                      wr.ownsRow 0 4 1 (.slice (some ⟨w3.heap.size, 0, none⟩) js.length js.length) js.length (bls (askL (has zs) step room js js.length))) (fun iv _ => js.length - (intOf iv).toNat)
                  case atStart => exact ⟨0, Nat.zero_le _, rfl, HR5.out.1, hsz4, HR5.out.2⟩
                  case round =>
                    obtain ⟨i5, hi5, rfl, hbel, hsz5, hrow⟩ := hrel
                    by_cases hlt : i5 < js.length
                    · as_aux_lemma =>
                      obtain ⟨j, hjk⟩ : ∃ j, js[i5]? = some j := ⟨_, List.getElem?_eq_getElem hlt⟩
                      obtain ⟨b, off, hbl, rfl, hcell⟩ := hjx (by omega)
                      obtain ⟨q0, q1, q2, q3⟩ := hcell i5 j hjk
                      have hA := HA3.out.below hbel
                      have hK := hA.keeps
                      have hwj := HW.out j (List.mem_of_getElem? hjk)
                      have c0 : wr.cell? ⟨b, off + i5 * 4, none⟩ = some (.int .i64 j.id) := hK.cell (a := ⟨b, off + i5 * 4, none⟩) hbl q0
                      have c1 : wr.cell? ⟨b, off + i5 * 4 + 1, none⟩ = some (.bool j.lost) := hK.cell (a := ⟨b, off + i5 * 4 + 1, none⟩) hbl q1
                      have c2 : wr.cell? ⟨b, off + i5 * 4 + 2, none⟩ = some (.int .i64 j.next) := hK.cell (a := ⟨b, off + i5 * 4 + 2, none⟩) hbl q2
                      have c3 : wr.cell? ⟨b, off + i5 * 4 + 3, none⟩ = some (.int .i64 j.wait) := hK.cell (a := ⟨b, off + i5 * 4 + 3, none⟩) hbl q3
                      have m0 : (0 : Int) ≤ (i5 : Int) := by omega
                      have m1 : (i5 : Int) < (js.length : Int) := by omega
                      have hzr : ∀ o, IntsAt (wr.alloc o) (.slice za zs.length zcap) zs := fun o => hz.keeps hzx (hK.alloc o)
                      have hbr : ∀ o, BoolsAt (wr.alloc o) (.slice ba bs.length bcap) bs := fun o => hb.keeps hbx (hK.alloc o)
                      have hsr : ∀ o, (wr.alloc o).heap[w.heap.size]? = some (.cells #[jv, .slice none 0 0] 26 (0, 0)) := fun o => blk_alloc hA.s o
                      have hjr : ∀ o, (wr.alloc o).ownsRow 0 79 5 jv (rj (has zs) step room (ans bs) js).length (jcells (rj (has zs) step room (ans bs) js)) := fun o => hA.j.alloc o
                      have ca : wr.cell? ⟨w3.heap.size, i5, none⟩ = some (.bool (due (has zs) step room j)) := by
                        rw [hrow.cellAt i5 (by omega)]
                        simp [bls, askL_end hjk]
                      have HR : Hid (Below w3.heap.size w3 wr ∧ wr.ownsRow 0 4 1 (.slice (some ⟨w3.heap.size, 0, none⟩) js.length js.length) js.length (bls (askL (has zs) step room js js.length))) := ⟨hbel, hrow⟩
                      have HG := hide (rj_get (has zs) step room (ans bs) js i5 j hjk)
                      have HZR := hide hzr
                      have HBR := hide hbr
                      have HSR := hide hsr
                      have HJR := hide hjr
                      have hbw : b < wr.heap.size := by have := hbel.size; omega
                      have hll : (rj (has zs) step room (ans bs) js).length ≤ 1099511627776 := by rw [rj_length]; omega
                      have HLL := hide hll
                      clear hcell hjx hjk q0 q1 q2 q3 hK hbel hrow hA hzr hbr hsr hjr hll eR
                      obtain ⟨id, lost, next, wait⟩ := j
                      simp only at c0 c1 c2 c3 hwj
                      cases lost with
                      | false =>
                        have hd : due (has zs) step room ⟨id, false, next, wait⟩ = false := by simp [due]
                        have hs : step1 (has zs) step room (ans bs) i5 ⟨id, false, next, wait⟩ = ⟨id, false, next, wait⟩ := by simp [step1, hd]
                        rw [hd] at ca
                        rw [hs] at HG
                        clear hd hs
                        go_wp2_with (go_at_call 12; refine (join_any w.heap.size i5 jv (.slice none 0 0) _ ⟨id, false, next, wait⟩ _ (HSR.out _) (HJR.out _) HG.out HLL.out).mono ?_; rintro e w' ⟨rfl, nq, rfl⟩)
                        go_roundw
                        case rel => exact loop5_rel hlt HR.out hsz5 _ _ rfl
                        case measure => simp [intOf]; omega
                      | true =>
                        obtain ⟨blk, hlk⟩ : ∃ b, has zs id = b := ⟨_, rfl⟩
                        have HLK := hide hlk
                        clear hlk
                        cases blk with
                        | true =>
                          have hd : due (has zs) step room ⟨id, true, next, wait⟩ = false := by simp [due, HLK.out]
                          have hs : step1 (has zs) step room (ans bs) i5 ⟨id, true, next, wait⟩ = ⟨id, false, next, wait⟩ := by simp [step1, HLK.out]
                          rw [hd] at ca
                          rw [hs] at HG
                          clear hd hs
                          go_wp2_with (first | (go_at_call 14; refine (contains_b _ zs id _ (HZR.out _) (by omega) true HLK).mono ?_; rintro e w' ⟨rfl, hw⟩; obtain rfl := hw.symm) | (go_at_call 12; refine (join_any w.heap.size i5 jv (.slice none 0 0) _ ⟨id, false, next, wait⟩ _ (HSR.out _) (HJR.out _) HG.out HLL.out).mono ?_; rintro e w' ⟨rfl, nq, rfl⟩))
                          go_roundw
                          case rel => exact loop5_rel hlt HR.out hsz5 _ _ rfl
                          case measure => simp [intOf]; omega
                        | false =>
                          obtain ⟨bd, hbd⟩ : ∃ b, due (has zs) step room ⟨id, true, next, wait⟩ = b := ⟨_, rfl⟩
                          have HBD := hide hbd
                          clear hbd
                          cases bd with
                          | false =>
                            have hd : due (has zs) step room ⟨id, true, next, wait⟩ = false := HBD.out
                            have hs : step1 (has zs) step room (ans bs) i5 ⟨id, true, next, wait⟩ = ⟨id, true, next, wait⟩ := by simp [step1, HLK.out, hd]
                            rw [hd] at ca
                            rw [hs] at HG
                            clear hd hs
                            go_wp2_with (first | (go_at_call 14; refine (contains_b _ zs id _ (HZR.out _) (by omega) false HLK).mono ?_; rintro e w' ⟨rfl, hw⟩; obtain rfl := hw.symm) | (go_at_call 12; refine (join_any w.heap.size i5 jv (.slice none 0 0) _ ⟨id, true, next, wait⟩ _ (HSR.out _) (HJR.out _) HG.out HLL.out).mono ?_; rintro e w' ⟨rfl, nq, rfl⟩))
                            go_roundw
                            case rel => exact loop5_rel hlt HR.out hsz5 _ _ rfl
                            case measure => simp [intOf]; omega
                          | true =>
                            obtain ⟨bn, hbn⟩ : ∃ b, ans bs i5 = b := ⟨_, rfl⟩
                            have HBN := hide hbn
                            clear hbn
                            cases bn with
                            | true =>
                              have hd : due (has zs) step room ⟨id, true, next, wait⟩ = true := HBD.out
                              have hs : step1 (has zs) step room (ans bs) i5 ⟨id, true, next, wait⟩ = ⟨id, false, next, wait⟩ := by simp [step1, HLK.out, hd, HBN.out]
                              rw [hd] at ca
                              rw [hs] at HG
                              clear hd hs
                              go_wp2_with (first | (go_at_call 14; refine (contains_b _ zs id _ (HZR.out _) (by omega) false HLK).mono ?_; rintro e w' ⟨rfl, hw⟩; obtain rfl := hw.symm) | (go_at_call 15; refine (answer_b _ bs i5 _ (HBR.out _) (by omega) true HBN).mono ?_; rintro e w' ⟨rfl, hw⟩; obtain rfl := hw.symm) | (go_at_call 12; refine (join_any w.heap.size i5 jv (.slice none 0 0) _ ⟨id, false, next, wait⟩ _ (HSR.out _) (HJR.out _) HG.out HLL.out).mono ?_; rintro e w' ⟨rfl, nq, rfl⟩))
                              go_roundw
                              case rel => exact loop5_rel hlt HR.out hsz5 _ _ rfl
                              case measure => simp [intOf]; omega
                            | false =>
                              by_cases h64 : 64 < 2 * wait
                              · have hd : due (has zs) step room ⟨id, true, next, wait⟩ = true := HBD.out
                                have hs : step1 (has zs) step room (ans bs) i5 ⟨id, true, next, wait⟩ = ⟨id, true, step + 64, 64⟩ := by simp [step1, HLK.out, hd, HBN.out]; omega
                                rw [hd] at ca
                                rw [hs] at HG
                                clear hd hs
                                go_wp2_with (first | (go_at_call 14; refine (contains_b _ zs id _ (HZR.out _) (by omega) false HLK).mono ?_; rintro e w' ⟨rfl, hw⟩; obtain rfl := hw.symm) | (go_at_call 15; refine (answer_b _ bs i5 _ (HBR.out _) (by omega) false HBN).mono ?_; rintro e w' ⟨rfl, hw⟩; obtain rfl := hw.symm) | (go_at_call 12; refine (join_any w.heap.size i5 jv (.slice none 0 0) _ ⟨id, true, step + 64, 64⟩ _ (HSR.out _) (HJR.out _) HG.out HLL.out).mono ?_; rintro e w' ⟨rfl, nq, rfl⟩))
                                go_roundw
                                case rel => exact loop5_rel hlt HR.out hsz5 _ _ rfl
                                case measure => simp [intOf]; omega
                              · have hd : due (has zs) step room ⟨id, true, next, wait⟩ = true := HBD.out
                                have hs : step1 (has zs) step room (ans bs) i5 ⟨id, true, next, wait⟩ = ⟨id, true, step + 2 * wait, 2 * wait⟩ := by simp [step1, HLK.out, hd, HBN.out]; omega
                                rw [hd] at ca
                                rw [hs] at HG
                                clear hd hs
                                go_wp2_with (first | (go_at_call 14; refine (contains_b _ zs id _ (HZR.out _) (by omega) false HLK).mono ?_; rintro e w' ⟨rfl, hw⟩; obtain rfl := hw.symm) | (go_at_call 15; refine (answer_b _ bs i5 _ (HBR.out _) (by omega) false HBN).mono ?_; rintro e w' ⟨rfl, hw⟩; obtain rfl := hw.symm) | (go_at_call 12; refine (join_any w.heap.size i5 jv (.slice none 0 0) _ ⟨id, true, step + 2 * wait, 2 * wait⟩ _ (HSR.out _) (HJR.out _) HG.out HLL.out).mono ?_; rintro e w' ⟨rfl, nq, rfl⟩))
                                go_roundw
                                case rel => exact loop5_rel hlt HR.out hsz5 _ _ rfl
                                case measure => simp [intOf]; omega
                    · have hd5 : decide ((i5 : Int) < (js.length : Int)) = false := by simp; omega
                      have hfin := (HA3.out.below hbel).keeps.below _ (Nat.le_refl _) (fun _ h => h)
                      have HF := hide hfin
                      clear hfin hbel hrow
                      go_wp2_with fail
                      go_ret
                      exact ⟨rfl, HF.out⟩

end Go.Proofs.Qxb6613901a
