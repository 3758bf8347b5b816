import Derived.Test.Qxb6613901aRejoin
namespace Go.Proofs.Qxb6613901a
open Go Go.RowKit
attribute [local go_sem ↓] Go.wp_at_zero Go.wp_at_succ

theorem info79 : (Try.prog.info? 79).map (fun i => (i.zero, i.size, i.bytes)) = some (some (.agg #[.bool false, .int .i64 0, .bool false, .int .i64 0, .int .i64 0]), 5, 40) := by kernel_rfl

set_option maxRecDepth 100000 in
set_option maxHeartbeats 1600000 in
theorem addJoin_any (S : Nat) (id next wait : Int) (lost : Bool) (jv kv : Value) (l : List JP) (X : Nat → Prop) (w : World)
    (hS : w.heap[S]? = some (.cells #[jv, kv] 26 (0, 0))) (hj : w.ownsRow 0 79 5 jv l.length (jcells l)) (jS : jv.ownBlock ≠ some S) (hX : offX X jv) (xS : ¬ X S) (hXl : ∀ k, X k → k < w.heap.size)
    (hl : l.length ≤ 1099511627) :
    Calls Try.prog 9 #[.pointer (some ⟨S, 0, none⟩), .int .i64 id, .bool lost, .int .i64 next, .int .i64 wait] w fun e w' =>
      e = .returned (.tuple #[]) ∧ ∃ jv', w'.heap[S]? = some (.cells #[jv', kv] 26 (0, 0)) ∧ w'.ownsRow 0 79 5 jv' (l ++ [JP.mk id lost next wait]).length (jcells (l ++ [JP.mk id lost next wait])) ∧
        jv'.ownBlock ≠ some S ∧ offX X jv' ∧ Keeps X w w' := by
  obtain ⟨i0, hi0, hz0, hz1, hz2⟩ := info_parts info79
  have c0 : w.cell? ⟨S, 0, none⟩ = some jv := blk_cell hS 0
  have lS := blk_lt hS
  go_enter Try.func9, Try.ntmps9
  go_wp2_with (at_builtin; refine wpList_append_lies _ rfl _ _ 23 rfl 0 79 i0 _ 5 40 Try.underlying23 hi0 hz0 hz1 hz2 rfl (by omega) jv l.length (jcells l) rfl (hj.alloc _) ⟨w.heap.size, 0, none⟩ 1 1 (JP.cells (JP.mk id lost next wait)) rfl rfl (World.news_of_block (cs := #[.bool false, .int .i64 id, .bool lost, .int .i64 next, .int .i64 wait]) (t := 79) (fr := (0, 0)) (heap_alloc_new w _)) (by simp [Value.oneCell', JP.cells]) (by omega) (by simp only [maxLen]; omega) (by omega) (by omega) (w.heap.size + 1) (by simp) ?_)
  intro g cap w1 own1 hgrow hat hlt
  have hS1 := blk_grown hgrow (o := .cells #[jv, kv] 26 (0, 0)) (b := S) (blk_alloc hS _) jS
  have f1 : w1.frozen? ⟨S, 0, none⟩ = false := blk_frozen hS1 0
  have c1 : w1.cell? ⟨S, 0, none⟩ = some jv := blk_cell hS1 0
  go_wp2_with fail
  go_end0
  obtain ⟨pR, po, pnR, px, pk, -⟩ := push (j := 0) hS (keeps_alloc_all w _) (Nat.le_succ _) hXl jS hX xS own1 hgrow hat
  refine ⟨rfl, _, pR, ?_, pnR, px, pk⟩
  rw [jcells_append]
  simpa [jcells] using po

set_option maxRecDepth 100000 in
set_option maxHeartbeats 1600000 in
theorem join_any (S i : Nat) (jv kv : Value) (l : List JP) (j : JP) (w : World)
    (hS : w.heap[S]? = some (.cells #[jv, kv] 26 (0, 0))) (hj : w.ownsRow 0 79 5 jv l.length (jcells l)) (hi : l[i]? = some j) (hl : l.length ≤ 1099511627776) :
    Calls Try.prog 12 #[.pointer (some ⟨S, 0, none⟩), .int .i64 i] w fun e w' =>
      e = .returned (.tuple #[.bool j.lost, .int .i64 j.next, .int .i64 j.wait]) ∧ ∃ n, w' = w.drewN n := by
  have hlt := (List.getElem?_eq_some_iff.1 hi).1
  obtain ⟨ja, cap, hjv, hjg⟩ := owns_form hj
  subst hjv
  obtain ⟨J, rfl⟩ := hjg (by omega)
  have c0 : w.cell? ⟨S, 0, none⟩ = some (.slice (some ⟨J, 0, none⟩) l.length cap) := blk_cell hS 0
  have hcells : ∀ f, f < 5 → w.cell? ⟨J, i * 5 + f, none⟩ = j.cells[f]? := fun f hf => by
    rw [hj.cellAt (i * 5 + f) (by omega), jcells_at _ i f hf j hi]
  have c2 : w.cell? ⟨J, i * 5 + 2, none⟩ = some (.bool j.lost) := hcells 2 (by omega)
  have c3 : w.cell? ⟨J, i * 5 + 3, none⟩ = some (.int .i64 j.next) := hcells 3 (by omega)
  have c4 : w.cell? ⟨J, i * 5 + 4, none⟩ = some (.int .i64 j.wait) := hcells 4 (by omega)
  have h0 : (0 : Int) ≤ (i : Int) := by omega
  have h1 : (i : Int) < (l.length : Int) := by omega
  clear hcells hi hj hS hjg
  go_enter Try.func12, Try.ntmps12
  go_wp2_with fail
  go_quiet (fail)
  go_wp2_with fail
  go_ret3
  exact ⟨rfl, _, rfl⟩

end Go.Proofs.Qxb6613901a
