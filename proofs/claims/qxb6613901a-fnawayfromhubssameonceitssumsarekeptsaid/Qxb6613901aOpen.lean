import Derived.Test.Qxb6613901aRows
import Derived.Test.Qxb6613901aAskPlain
import Derived.ProofKit
import Derived.OpenShut
import Derived.Deep.Grids
import Derived.Deep.Slices
namespace Go.Proofs.Qxb6613901a
open Go Go.ChangeShapes Go.WideShapes Go.ChangeAt Go.RowKit
set_option linter.unusedVariables false

theorem add_plain' (b off i : Nat) : (⟨b, off, none⟩ : Addr).add i = ⟨b, off + i, none⟩ := Go.WideShapes.add_plain b off i

theorem cell_lt {w : World} {a : Addr} {v : Value} (h : w.cell? a = some v) : a.block < w.heap.size := World.block_lt_of_cell? w a h

/-- A slice of int64 (or int) that came in. -/
theorem ints_of {H : Type} {enc : TypeId × Value → H} {W : World} {t e : TypeId} (ht : Try.prog.underlying t = some (.slice e)) (he : Try.prog.underlying e = some (.int .i64)) (hc : Try.prog.cellsOf e = 1)
    {a : Option Addr} {len cap : Nat} {d : DataW H} {p : List MemPlace} (h : DataW.Trod enc Try.prog W 0 (fun _ => true) true t (.slice a len cap) d p) :
    ∃ zs : List Int, zs.length = len ∧ len ≤ maxLen ∧ IntsAt W (.slice a len cap) zs ∧ liesIn (fun k => k < W.heap.size) (.slice a len cap) ∧ (∀ n ∈ zs, (Lit.int .i64 n).wf = true) := by
  obtain ⟨fuel, hf⟩ := h
  rcases open_ints ht he hc hf with ⟨hcs, _⟩ | ⟨x, l, c, zs, hcs, _, hl, hm, hz, _, hcell, hwz⟩
  · simp [Value.cells] at hcs
    obtain ⟨rfl, rfl, rfl⟩ := hcs
    exact ⟨[], rfl, Nat.zero_le _, IntsAt.nil W, by intro a n c e h; simp at e, by simp⟩
  · simp [Value.cells] at hcs
    obtain ⟨rfl, rfl, rfl⟩ := hcs
    have hz' : zs.length = cap := by simpa using hz
    have htl : (zs.take len).length = len := by simp; omega
    have key : 0 < len → ∃ b off, x = ⟨b, off, none⟩ ∧ ∀ k, k < len → W.cell? ⟨b, off + k, none⟩ = some (.int .i64 ((zs.take len).getD k 0)) := by
      intro h0
      obtain ⟨b, off, rfl, hc⟩ := ints_at hcell (by omega)
      refine ⟨b, off, rfl, fun k hk => ?_⟩
      rw [hc k (by omega)]
      simp [hk]
    refine ⟨zs.take len, htl, by omega, ⟨some x, cap, by rw [htl], by omega, fun h0 => ?_⟩, ?_, fun n hn => hwz n (List.mem_of_mem_take hn)⟩
    · rw [htl] at h0 ⊢
      obtain ⟨b, off, rfl, hk⟩ := key h0
      exact ⟨b, off, rfl, hk⟩
    · intro a' n' c' e h0
      simp at e
      obtain ⟨rfl, rfl, rfl⟩ := e
      obtain ⟨b, off, rfl, hk⟩ := key h0
      exact cell_lt (hk 0 h0)

/-- A slice of bools that came in. -/
theorem bools_of {H : Type} {enc : TypeId × Value → H} {W : World} {t e : TypeId} (ht : Try.prog.underlying t = some (.slice e)) (he : Try.prog.underlying e = some .bool) (hc : Try.prog.cellsOf e = 1)
    {a : Option Addr} {len cap : Nat} {d : DataW H} {p : List MemPlace} (h : DataW.Trod enc Try.prog W 0 (fun _ => true) true t (.slice a len cap) d p) :
    ∃ bs : List Bool, bs.length = len ∧ len ≤ maxLen ∧ BoolsAt W (.slice a len cap) bs ∧ liesIn (fun k => k < W.heap.size) (.slice a len cap) := by
  obtain ⟨fuel, hf⟩ := h
  rcases Go.Deep.open_bools ht he hc hf with ⟨hcs, _⟩ | ⟨x, l, c, B, hcs, _, hl, hm, _, hcell⟩
  · simp [Value.cells] at hcs
    obtain ⟨rfl, rfl, rfl⟩ := hcs
    exact ⟨[], rfl, Nat.zero_le _, BoolsAt.nil W, by intro a n c e h; simp at e⟩
  · simp [Value.cells] at hcs
    obtain ⟨rfl, rfl, rfl⟩ := hcs
    have htl : ((List.range len).map B).length = len := by simp
    have key : 0 < len → ∃ b off, x = ⟨b, off, none⟩ ∧ ∀ k, k < len → W.cell? ⟨b, off + k, none⟩ = some (.bool (((List.range len).map B).getD k false)) := by
      intro h0
      obtain ⟨b, off, spot⟩ := x
      have hspot : spot = none := by simpa [Addr.add] using World.cell?_spot (hcell 0 (by omega))
      subst hspot
      refine ⟨b, off, rfl, fun k hk => ?_⟩
      have := hcell k (by omega)
      rw [add_plain'] at this
      rw [this]
      simp [hk]
    refine ⟨(List.range len).map B, htl, by omega, ⟨some x, cap, by rw [htl], by omega, fun h0 => ?_⟩, ?_⟩
    · rw [htl] at h0 ⊢
      obtain ⟨b, off, rfl, hk⟩ := key h0
      exact ⟨b, off, rfl, hk⟩
    · intro a' n' c' e h0
      simp at e
      obtain ⟨rfl, rfl, rfl⟩ := e
      obtain ⟨b, off, rfl, hk⟩ := key h0
      exact cell_lt (hk 0 h0)

theorem cells47 : Try.prog.cellsOf 47 = 4 := by kernel_rfl

theorem four {α : Type} (l : List α) (h : l.length = 4) : ∃ a b c d, l = [a, b, c, d] := by
  match l, h with
  | [a, b, c, d], _ => exact ⟨a, b, c, d, rfl⟩

set_option maxRecDepth 100000 in
theorem join_elem {H : Type} {enc : TypeId × Value → H} {W : World} {sp : Nat → Bool} {n : Nat} {x : Addr} {cs' : List Value} {y : DataW H × List MemPlace} (h1 : W.cells? 0 x 4 = some cs') (h2 : DataW.trod enc Try.prog W 0 sp true n 47 cs' = some y) :
    ∃ q : Int × Bool × Int × Int, W.cell? (x.add 0) = some (.int .i64 q.1) ∧ W.cell? (x.add 1) = some (.bool q.2.1) ∧ W.cell? (x.add 2) = some (.int .i64 q.2.2.1) ∧ W.cell? (x.add 3) = some (.int .i64 q.2.2.2) := by
  obtain ⟨_, hlen, hcell⟩ := World.cells?_some h1
  obtain ⟨xs, k, hk, hxy, _, hxl, hff⟩ := DataW.trod_struct Try.underlying47 h2
  obtain ⟨y0, y1, y2, y3, rfl⟩ := four xs (by simpa using hxl)
  obtain ⟨v0, v1, v2, v3, rfl⟩ := four cs' hlen
  have k2 : Try.prog.cellsOf 2 = 1 := by kernel_rfl
  have k3 : Try.prog.cellsOf 3 = 1 := by kernel_rfl
  have k4 : Try.prog.cellsOf 4 = 1 := by kernel_rfl
  have g0 := hff 0 { name := "ID", type := 2, offset := 0, embedded := false, tag := "", pkgPath := "", byteOffset := 0 } rfl
  have g1 := hff 1 { name := "Lost", type := 4, offset := 1, embedded := false, tag := "", pkgPath := "", byteOffset := 8 } rfl
  have g2 := hff 2 { name := "Next", type := 3, offset := 2, embedded := false, tag := "", pkgPath := "", byteOffset := 16 } rfl
  have g3 := hff 3 { name := "Wait", type := 3, offset := 3, embedded := false, tag := "", pkgPath := "", byteOffset := 24 } rfl
  simp [k2, k3, k4] at g0 g1 g2 g3
  obtain ⟨z0, e0, _⟩ := DataW.trod_int Try.underlying2 g0
  obtain ⟨z1, e1, _⟩ := DataW.trod_bool Try.underlying4 g1
  obtain ⟨z2, e2, _⟩ := DataW.trod_int Try.underlying3 g2
  obtain ⟨z3, e3, _⟩ := DataW.trod_int Try.underlying3 g3
  simp at e0 e1 e2 e3
  subst e0 e1 e2 e3
  exact ⟨(z0, z1, z2, z3), hcell 0 (by omega), hcell 1 (by omega), hcell 2 (by omega), hcell 3 (by omega)⟩

/-- A slice of JoinIn that came in. -/
theorem joins_of {H : Type} {enc : TypeId × Value → H} {W : World} {a : Option Addr} {len cap : Nat} {d : DataW H} {p : List MemPlace} (h : DataW.Trod enc Try.prog W 0 (fun _ => true) true 44 (.slice a len cap) d p) :
    ∃ js : List JP, js.length = len ∧ len ≤ maxLen ∧ JoinsAt W (.slice a len cap) js := by
  obtain ⟨fuel, hf⟩ := h
  rcases Go.Deep.open_slice Try.underlying44 hf with ⟨hcs, _⟩ | ⟨x, l, c, m, n, D, Pl, hcs, _, hl, hm, hmm, _, hx⟩
  · simp [Value.cells] at hcs
    obtain ⟨rfl, rfl, rfl⟩ := hcs
    exact ⟨[], rfl, Nat.zero_le _, none, 0, rfl, Nat.le_refl _, fun h => absurd h (by simp)⟩
  · simp [Value.cells] at hcs
    obtain ⟨rfl, rfl, rfl⟩ := hcs
    simp only [if_true] at hmm
    subst hmm
    rw [cells47] at hx
    have each : ∀ i, i < len → ∃ q : Int × Bool × Int × Int, W.cell? ((x.add (i * 4)).add 0) = some (.int .i64 q.1) ∧ W.cell? ((x.add (i * 4)).add 1) = some (.bool q.2.1) ∧ W.cell? ((x.add (i * 4)).add 2) = some (.int .i64 q.2.2.1) ∧ W.cell? ((x.add (i * 4)).add 3) = some (.int .i64 q.2.2.2) := by
      intro i hi
      obtain ⟨cs', h1, h2⟩ := hx i (by omega)
      exact join_elem h1 h2
    obtain ⟨q, hq⟩ := Go.Deep.choose_lt each
    have htl : ((List.range len).map (fun i => (⟨(q i).1, (q i).2.1, (q i).2.2.1, (q i).2.2.2⟩ : JP))).length = len := by simp
    refine ⟨(List.range len).map (fun i => (⟨(q i).1, (q i).2.1, (q i).2.2.1, (q i).2.2.2⟩ : JP)), htl, by omega, some x, m, by rw [htl], by omega, fun h0 => ?_⟩
    rw [htl] at h0
    obtain ⟨b, off, spot⟩ := x
    have hspot : spot = none := by simpa [Addr.add] using World.cell?_spot (hq 0 h0).1
    subst hspot
    refine ⟨b, off, cell_lt (hq 0 h0).1, rfl, fun k j hj => ?_⟩
    have hkl : k < len := by have := (List.getElem?_eq_some_iff.1 hj).1; simpa using this
    have hjq : (⟨(q k).1, (q k).2.1, (q k).2.2.1, (q k).2.2.2⟩ : JP) = j := by simpa [hkl] using hj
    subst hjq
    have := hq k hkl
    simp only [add_plain'] at this
    simpa [Nat.add_assoc] using this

end Go.Proofs.Qxb6613901a
