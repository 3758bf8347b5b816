import Derived.Test.Qxb6613901aRejoin
namespace Go.Proofs.Qxb6613901a
open Go Go.RowKit
attribute [local go_sem ↓] Go.wp_at_zero Go.wp_at_succ

/-- The overlay at block O: what it holds, apart from X. -/
def OvAt (w : World) (O : Nat) (nv av : Value) (pos : Int) (BP BN LP LQ : List Int) (X : Nat → Prop) : Prop :=
  ∃ bp bn lp lq, w.heap[O]? = some (.cells #[.int .i64 0, .slice none 0 0, nv, .int .i64 pos, av, bp, bn, lp, lq] 32 (0, 0)) ∧
    w.ownsRow 0 2 1 bp BP.length (ints BP) ∧
    w.ownsRow 0 3 1 bn BN.length (ints BN) ∧
    w.ownsRow 0 2 1 lp LP.length (ints LP) ∧
    w.ownsRow 0 2 1 lq LQ.length (ints LQ) ∧
    apartV bp bn ∧ apartV bp lp ∧ apartV bp lq ∧ apartV bn lp ∧ apartV bn lq ∧ apartV lp lq ∧
    bp.ownBlock ≠ some O ∧ bn.ownBlock ≠ some O ∧ lp.ownBlock ≠ some O ∧ lq.ownBlock ≠ some O ∧ offX X bp ∧ offX X bn ∧ offX X lp ∧ offX X lq ∧ ¬ X O ∧ (∀ k, X k → k < w.heap.size)

theorem OvAt.push_bp {w u w1 : World} {O : Nat} {nv av bp bn lp lq : Value} {pos x : Int} {BP BN LP LQ : List Int} {X : Nat → Prop} {g cap H : Nat}
    (hO : w.heap[O]? = some (.cells #[.int .i64 0, .slice none 0 0, nv, .int .i64 pos, av, bp, bn, lp, lq] 32 (0, 0))) (o_bn : w.ownsRow 0 3 1 bn BN.length (ints BN)) (o_lp : w.ownsRow 0 2 1 lp LP.length (ints LP)) (o_lq : w.ownsRow 0 2 1 lq LQ.length (ints LQ))
    (a_bp_bn : apartV bp bn) (a_bp_lp : apartV bp lp) (a_bp_lq : apartV bp lq) (a_bn_lp : apartV bn lp) (a_bn_lq : apartV bn lq) (a_lp_lq : apartV lp lq)
    (n_bp : bp.ownBlock ≠ some O) (n_bn : bn.ownBlock ≠ some O) (n_lp : lp.ownBlock ≠ some O) (n_lq : lq.ownBlock ≠ some O) (x_bp : offX X bp) (x_bn : offX X bn) (x_lp : offX X lp) (x_lq : offX X lq) (xO : ¬ X O) (hXl : ∀ k, X k → k < w.heap.size)
    (hu : Keeps (fun _ => True) w u) (hH : w.heap.size ≤ H) (own1 : w1.ownsRow 0 2 1 (.slice (some ⟨g, 0, none⟩) (BP.length + 1) cap) (BP.length + 1) (ints BP ++ [.int .i64 x])) (hgrow : u.grownBy w1 bp.ownBlock) (hat : bp.ownBlock = some g ∨ g = H) :
    OvAt (w1.setCell ⟨O, 5, none⟩ (.slice (some ⟨g, 0, none⟩) (BP.length + 1) cap)) O nv av pos (BP ++ [x]) BN LP LQ X ∧ Keeps X w (w1.setCell ⟨O, 5, none⟩ (.slice (some ⟨g, 0, none⟩) (BP.length + 1) cap)) := by
  obtain ⟨pR, po, pnR, px, pk, pz⟩ := push (j := 5) hO hu hH hXl n_bp x_bp xO own1 hgrow hat
  obtain ⟨q_bn, b_bn⟩ := pz _ _ _ _ o_bn a_bp_bn n_bn
  obtain ⟨q_lp, b_lp⟩ := pz _ _ _ _ o_lp a_bp_lp n_lp
  obtain ⟨q_lq, b_lq⟩ := pz _ _ _ _ o_lq a_bp_lq n_lq
  refine ⟨⟨_, bn, lp, lq, pR, ?_, q_bn, q_lp, q_lq, b_bn, b_lp, b_lq, a_bn_lp, a_bn_lq, a_lp_lq, pnR, n_bn, n_lp, n_lq, px, x_bn, x_lp, x_lq, xO, fun k hk => Nat.lt_of_lt_of_le (hXl k hk) pk.size⟩, pk⟩
  rw [ints_snoc]; simpa using po

theorem OvAt.push_bn {w u w1 : World} {O : Nat} {nv av bp bn lp lq : Value} {pos x : Int} {BP BN LP LQ : List Int} {X : Nat → Prop} {g cap H : Nat}
    (hO : w.heap[O]? = some (.cells #[.int .i64 0, .slice none 0 0, nv, .int .i64 pos, av, bp, bn, lp, lq] 32 (0, 0))) (o_bp : w.ownsRow 0 2 1 bp BP.length (ints BP)) (o_lp : w.ownsRow 0 2 1 lp LP.length (ints LP)) (o_lq : w.ownsRow 0 2 1 lq LQ.length (ints LQ))
    (a_bp_bn : apartV bp bn) (a_bp_lp : apartV bp lp) (a_bp_lq : apartV bp lq) (a_bn_lp : apartV bn lp) (a_bn_lq : apartV bn lq) (a_lp_lq : apartV lp lq)
    (n_bp : bp.ownBlock ≠ some O) (n_bn : bn.ownBlock ≠ some O) (n_lp : lp.ownBlock ≠ some O) (n_lq : lq.ownBlock ≠ some O) (x_bp : offX X bp) (x_bn : offX X bn) (x_lp : offX X lp) (x_lq : offX X lq) (xO : ¬ X O) (hXl : ∀ k, X k → k < w.heap.size)
    (hu : Keeps (fun _ => True) w u) (hH : w.heap.size ≤ H) (own1 : w1.ownsRow 0 3 1 (.slice (some ⟨g, 0, none⟩) (BN.length + 1) cap) (BN.length + 1) (ints BN ++ [.int .i64 x])) (hgrow : u.grownBy w1 bn.ownBlock) (hat : bn.ownBlock = some g ∨ g = H) :
    OvAt (w1.setCell ⟨O, 6, none⟩ (.slice (some ⟨g, 0, none⟩) (BN.length + 1) cap)) O nv av pos BP (BN ++ [x]) LP LQ X ∧ Keeps X w (w1.setCell ⟨O, 6, none⟩ (.slice (some ⟨g, 0, none⟩) (BN.length + 1) cap)) := by
  obtain ⟨pR, po, pnR, px, pk, pz⟩ := push (j := 6) hO hu hH hXl n_bn x_bn xO own1 hgrow hat
  obtain ⟨q_bp, b_bp⟩ := pz _ _ _ _ o_bp a_bp_bn.symm n_bp
  obtain ⟨q_lp, b_lp⟩ := pz _ _ _ _ o_lp a_bn_lp n_lp
  obtain ⟨q_lq, b_lq⟩ := pz _ _ _ _ o_lq a_bn_lq n_lq
  refine ⟨⟨bp, _, lp, lq, pR, q_bp, ?_, q_lp, q_lq, b_bp.symm, a_bp_lp, a_bp_lq, b_lp, b_lq, a_lp_lq, n_bp, pnR, n_lp, n_lq, x_bp, px, x_lp, x_lq, xO, fun k hk => Nat.lt_of_lt_of_le (hXl k hk) pk.size⟩, pk⟩
  rw [ints_snoc]; simpa using po

theorem OvAt.push_lp {w u w1 : World} {O : Nat} {nv av bp bn lp lq : Value} {pos x : Int} {BP BN LP LQ : List Int} {X : Nat → Prop} {g cap H : Nat}
    (hO : w.heap[O]? = some (.cells #[.int .i64 0, .slice none 0 0, nv, .int .i64 pos, av, bp, bn, lp, lq] 32 (0, 0))) (o_bp : w.ownsRow 0 2 1 bp BP.length (ints BP)) (o_bn : w.ownsRow 0 3 1 bn BN.length (ints BN)) (o_lq : w.ownsRow 0 2 1 lq LQ.length (ints LQ))
    (a_bp_bn : apartV bp bn) (a_bp_lp : apartV bp lp) (a_bp_lq : apartV bp lq) (a_bn_lp : apartV bn lp) (a_bn_lq : apartV bn lq) (a_lp_lq : apartV lp lq)
    (n_bp : bp.ownBlock ≠ some O) (n_bn : bn.ownBlock ≠ some O) (n_lp : lp.ownBlock ≠ some O) (n_lq : lq.ownBlock ≠ some O) (x_bp : offX X bp) (x_bn : offX X bn) (x_lp : offX X lp) (x_lq : offX X lq) (xO : ¬ X O) (hXl : ∀ k, X k → k < w.heap.size)
    (hu : Keeps (fun _ => True) w u) (hH : w.heap.size ≤ H) (own1 : w1.ownsRow 0 2 1 (.slice (some ⟨g, 0, none⟩) (LP.length + 1) cap) (LP.length + 1) (ints LP ++ [.int .i64 x])) (hgrow : u.grownBy w1 lp.ownBlock) (hat : lp.ownBlock = some g ∨ g = H) :
    OvAt (w1.setCell ⟨O, 7, none⟩ (.slice (some ⟨g, 0, none⟩) (LP.length + 1) cap)) O nv av pos BP BN (LP ++ [x]) LQ X ∧ Keeps X w (w1.setCell ⟨O, 7, none⟩ (.slice (some ⟨g, 0, none⟩) (LP.length + 1) cap)) := by
  obtain ⟨pR, po, pnR, px, pk, pz⟩ := push (j := 7) hO hu hH hXl n_lp x_lp xO own1 hgrow hat
  obtain ⟨q_bp, b_bp⟩ := pz _ _ _ _ o_bp a_bp_lp.symm n_bp
  obtain ⟨q_bn, b_bn⟩ := pz _ _ _ _ o_bn a_bn_lp.symm n_bn
  obtain ⟨q_lq, b_lq⟩ := pz _ _ _ _ o_lq a_lp_lq n_lq
  refine ⟨⟨bp, bn, _, lq, pR, q_bp, q_bn, ?_, q_lq, a_bp_bn, b_bp.symm, a_bp_lq, b_bn.symm, a_bn_lq, b_lq, n_bp, n_bn, pnR, n_lq, x_bp, x_bn, px, x_lq, xO, fun k hk => Nat.lt_of_lt_of_le (hXl k hk) pk.size⟩, pk⟩
  rw [ints_snoc]; simpa using po

theorem OvAt.push_lq {w u w1 : World} {O : Nat} {nv av bp bn lp lq : Value} {pos x : Int} {BP BN LP LQ : List Int} {X : Nat → Prop} {g cap H : Nat}
    (hO : w.heap[O]? = some (.cells #[.int .i64 0, .slice none 0 0, nv, .int .i64 pos, av, bp, bn, lp, lq] 32 (0, 0))) (o_bp : w.ownsRow 0 2 1 bp BP.length (ints BP)) (o_bn : w.ownsRow 0 3 1 bn BN.length (ints BN)) (o_lp : w.ownsRow 0 2 1 lp LP.length (ints LP))
    (a_bp_bn : apartV bp bn) (a_bp_lp : apartV bp lp) (a_bp_lq : apartV bp lq) (a_bn_lp : apartV bn lp) (a_bn_lq : apartV bn lq) (a_lp_lq : apartV lp lq)
    (n_bp : bp.ownBlock ≠ some O) (n_bn : bn.ownBlock ≠ some O) (n_lp : lp.ownBlock ≠ some O) (n_lq : lq.ownBlock ≠ some O) (x_bp : offX X bp) (x_bn : offX X bn) (x_lp : offX X lp) (x_lq : offX X lq) (xO : ¬ X O) (hXl : ∀ k, X k → k < w.heap.size)
    (hu : Keeps (fun _ => True) w u) (hH : w.heap.size ≤ H) (own1 : w1.ownsRow 0 2 1 (.slice (some ⟨g, 0, none⟩) (LQ.length + 1) cap) (LQ.length + 1) (ints LQ ++ [.int .i64 x])) (hgrow : u.grownBy w1 lq.ownBlock) (hat : lq.ownBlock = some g ∨ g = H) :
    OvAt (w1.setCell ⟨O, 8, none⟩ (.slice (some ⟨g, 0, none⟩) (LQ.length + 1) cap)) O nv av pos BP BN LP (LQ ++ [x]) X ∧ Keeps X w (w1.setCell ⟨O, 8, none⟩ (.slice (some ⟨g, 0, none⟩) (LQ.length + 1) cap)) := by
  obtain ⟨pR, po, pnR, px, pk, pz⟩ := push (j := 8) hO hu hH hXl n_lq x_lq xO own1 hgrow hat
  obtain ⟨q_bp, b_bp⟩ := pz _ _ _ _ o_bp a_bp_lq.symm n_bp
  obtain ⟨q_bn, b_bn⟩ := pz _ _ _ _ o_bn a_bn_lq.symm n_bn
  obtain ⟨q_lp, b_lp⟩ := pz _ _ _ _ o_lp a_lp_lq.symm n_lp
  refine ⟨⟨bp, bn, lp, _, pR, q_bp, q_bn, q_lp, ?_, a_bp_bn, a_bp_lp, b_bp.symm, a_bn_lp, b_bn.symm, b_lp.symm, n_bp, n_bn, n_lp, pnR, x_bp, x_bn, x_lp, px, xO, fun k hk => Nat.lt_of_lt_of_le (hXl k hk) pk.size⟩, pk⟩
  rw [ints_snoc]; simpa using po

theorem OvAt.heap {w w' : World} {O : Nat} {nv av : Value} {pos : Int} {BP BN LP LQ : List Int} {X : Nat → Prop} (h : OvAt w O nv av pos BP BN LP LQ X) (hh : w'.heap = w.heap) : OvAt w' O nv av pos BP BN LP LQ X := by
  unfold OvAt World.ownsRow at h ⊢; rw [hh]; exact h

theorem OvAt.mono {w : World} {O : Nat} {nv av : Value} {pos : Int} {BP BN LP LQ : List Int} {X Y : Nat → Prop} (h : OvAt w O nv av pos BP BN LP LQ X) (hY : ∀ k, Y k → X k) : OvAt w O nv av pos BP BN LP LQ Y := by
  obtain ⟨bp, bn, lp, lq, hO, o_bp, o_bn, o_lp, o_lq, a_bp_bn, a_bp_lp, a_bp_lq, a_bn_lp, a_bn_lq, a_lp_lq, n_bp, n_bn, n_lp, n_lq, x_bp, x_bn, x_lp, x_lq, xO, hXl⟩ := h
  exact ⟨bp, bn, lp, lq, hO, o_bp, o_bn, o_lp, o_lq, a_bp_bn, a_bp_lp, a_bp_lq, a_bn_lp, a_bn_lq, a_lp_lq, n_bp, n_bn, n_lp, n_lq, x_bp.mono hY, x_bn.mono hY, x_lp.mono hY, x_lq.mono hY, fun h => xO (hY _ h), fun k hk => hXl k (hY k hk)⟩

/-- A new block joins what is kept apart. -/
theorem OvAt.alloc {w : World} {O : Nat} {nv av : Value} {pos : Int} {BP BN LP LQ : List Int} {X : Nat → Prop} (h : OvAt w O nv av pos BP BN LP LQ X) (o : Obj) : OvAt (w.alloc o) O nv av pos BP BN LP LQ (fun k => X k ∨ k = w.heap.size) := by
  obtain ⟨bp, bn, lp, lq, hO, o_bp, o_bn, o_lp, o_lq, a_bp_bn, a_bp_lp, a_bp_lq, a_bn_lp, a_bn_lq, a_lp_lq, n_bp, n_bn, n_lp, n_lq, x_bp, x_bn, x_lp, x_lq, xO, hXl⟩ := h
  have off : ∀ {v e n l}, w.ownsRow 0 e 1 v n l → offX X v → offX (fun k => X k ∨ k = w.heap.size) v := fun ho hx k hk hor => by
    rcases hor with h | h
    · exact hx k hk h
    · have := owns_lt ho hk; omega
  refine ⟨bp, bn, lp, lq, blk_alloc hO o, o_bp.alloc o, o_bn.alloc o, o_lp.alloc o, o_lq.alloc o, a_bp_bn, a_bp_lp, a_bp_lq, a_bn_lp, a_bn_lq, a_lp_lq, n_bp, n_bn, n_lp, n_lq, off o_bp x_bp, off o_bn x_bn, off o_lp x_lp, off o_lq x_lq, ?_, ?_⟩
  · rintro (h | h)
    · exact xO h
    · have := blk_lt hO; omega
  · rintro k (h | h)
    · have := hXl k h; simp; omega
    · simp; omega

/-- The position is stored anew. -/
theorem OvAt.setPos {w : World} {O : Nat} {nv av : Value} {pos : Int} {BP BN LP LQ : List Int} {X : Nat → Prop} (h : OvAt w O nv av pos BP BN LP LQ X) (pos' : Int) : OvAt (w.setCell ⟨O, 3, none⟩ (.int .i64 pos')) O nv av pos' BP BN LP LQ X := by
  obtain ⟨bp, bn, lp, lq, hO, o_bp, o_bn, o_lp, o_lq, a_bp_bn, a_bp_lp, a_bp_lq, a_bn_lp, a_bn_lq, a_lp_lq, n_bp, n_bn, n_lp, n_lq, x_bp, x_bn, x_lp, x_lq, xO, hXl⟩ := h
  exact ⟨bp, bn, lp, lq, blk_set hO 3 _, owns_setCell o_bp _ n_bp _, owns_setCell o_bn _ n_bn _, owns_setCell o_lp _ n_lp _, owns_setCell o_lq _ n_lq _, a_bp_bn, a_bp_lp, a_bp_lq, a_bn_lp, a_bn_lq, a_lp_lq, n_bp, n_bn, n_lp, n_lq, x_bp, x_bn, x_lp, x_lq, xO, fun k hk => by have := hXl k hk; simpa [World.setCell] using this⟩

/-- An append onto a row v of the caller's own, which X names. -/
theorem OvAt.grown {w u w1 : World} {O : Nat} {nv av v : Value} {pos : Int} {BP BN LP LQ : List Int} {X : Nat → Prop} {g n cap H : Nat} (h : OvAt w O nv av pos BP BN LP LQ (fun k => X k ∨ v.ownBlock = some k)) (hu : Keeps (fun _ => True) w u) (hH : w.heap.size ≤ H)
    (hgrow : u.grownBy w1 v.ownBlock) (hat : v.ownBlock = some g ∨ g = H) (hlt : g < w1.heap.size) : OvAt w1 O nv av pos BP BN LP LQ (fun k => X k ∨ (Value.slice (some ⟨g, 0, none⟩) n cap).ownBlock = some k) := by
  obtain ⟨bp, bn, lp, lq, hO, o_bp, o_bn, o_lp, o_lq, a_bp_bn, a_bp_lp, a_bp_lq, a_bn_lp, a_bn_lq, a_lp_lq, n_bp, n_bn, n_lp, n_lq, x_bp, x_bn, x_lp, x_lq, xO, hXl⟩ := h
  have ow : ∀ {z e m l}, w.ownsRow 0 e 1 z m l → offX (fun k => X k ∨ v.ownBlock = some k) z → w1.ownsRow 0 e 1 z m l ∧ offX (fun k => X k ∨ (Value.slice (some ⟨g, 0, none⟩) n cap).ownBlock = some k) z := fun hz hx => by
    refine ⟨owns_grown (owns_keeps hz hu (fun _ _ => trivial)) hgrow (fun k hk hv => hx k hk (.inr hv)), fun k hk hor => ?_⟩
    rcases hor with h | h
    · exact hx k hk (.inl h)
    · exact off_new hat (k := k) (by have := owns_lt hz hk; omega) (fun hv => hx k hk (.inr hv)) h
  have hs : w.heap.size ≤ w1.heap.size := Nat.le_trans hu.size hgrow.size
  refine ⟨bp, bn, lp, lq, blk_grown hgrow (hu.at trivial hO) (fun e => xO (.inr e)), (ow o_bp x_bp).1, (ow o_bn x_bn).1, (ow o_lp x_lp).1, (ow o_lq x_lq).1, a_bp_bn, a_bp_lp, a_bp_lq, a_bn_lp, a_bn_lq, a_lp_lq, n_bp, n_bn, n_lp, n_lq, (ow o_bp x_bp).2, (ow o_bn x_bn).2, (ow o_lp x_lp).2, (ow o_lq x_lq).2, ?_, ?_⟩
  · rintro (h | h)
    · exact xO (.inl h)
    · exact off_new hat (k := O) (by have := blk_lt hO; omega) (fun hv => xO (.inr hv)) h
  · rintro k (h | h)
    · have := hXl k (.inl h); omega
    · simp [Value.ownBlock] at h; omega

end Go.Proofs.Qxb6613901a
