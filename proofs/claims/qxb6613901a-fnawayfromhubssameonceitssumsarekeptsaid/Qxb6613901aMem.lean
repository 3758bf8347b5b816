import Derived.WalkKit
import Derived.WalkSpells
import Derived.Deep.AppendLies
import Derived.Deep.Draws
namespace Go.Proofs.Qxb6613901a
open Go Go.RowKit

/-- The blocks in X are as they were; the streams are as they were; no block has gone. -/
structure Keeps (X : Nat → Prop) (w w' : World) : Prop where
  os : w'.os = w.os
  tape : w'.tape = w.tape
  output : w'.output = w.output
  size : w.heap.size ≤ w'.heap.size
  block : ∀ k, X k → k < w.heap.size → w'.heap[k]? = w.heap[k]?

theorem hide {p : Prop} (h : p) : Hid p := h

theorem Keeps.refl (X : Nat → Prop) (w : World) : Keeps X w w := ⟨rfl, rfl, rfl, Nat.le_refl _, fun _ _ _ => rfl⟩

theorem Keeps.trans {X : Nat → Prop} {a b c : World} (h : Keeps X a b) (k : Keeps X b c) : Keeps X a c :=
  ⟨k.os.trans h.os, k.tape.trans h.tape, k.output.trans h.output, Nat.le_trans h.size k.size,
    fun i hi hl => (k.block i hi (Nat.lt_of_lt_of_le hl h.size)).trans (h.block i hi hl)⟩

theorem Keeps.mono {X Y : Nat → Prop} {w w' : World} (h : Keeps X w w') (hY : ∀ k, Y k → X k) : Keeps Y w w' :=
  ⟨h.os, h.tape, h.output, h.size, fun k hk hl => h.block k (hY k hk) hl⟩

theorem Keeps.drew {X : Nat → Prop} {a w : World} (h : Keeps X a w) : Keeps X a w.drew := ⟨h.os, h.tape, h.output, h.size, h.block⟩

theorem Keeps.drewN {X : Nat → Prop} {a w : World} (h : Keeps X a w) (n : Nat) : Keeps X a (w.drewN n) := ⟨h.os, h.tape, h.output, h.size, h.block⟩

theorem Keeps.alloc {X : Nat → Prop} {a w : World} (h : Keeps X a w) (o : Obj) : Keeps X a (w.alloc o) :=
  h.trans ⟨rfl, rfl, rfl, by simp, fun _ _ hl => Below.heap_alloc _ _ _ hl⟩

theorem Keeps.setCell {X : Nat → Prop} {a w : World} (h : Keeps X a w) {p : Addr} (hp : ¬ X p.block) (u : Value) : Keeps X a (w.setCell p u) :=
  h.trans ⟨rfl, rfl, rfl, by simp [World.setCell], fun k hk _ => Below.heap_setCell _ _ _ _ (fun e => hp (e ▸ hk))⟩

theorem Keeps.grown {X : Nat → Prop} {a w w' : World} {row : Option Nat} (h : Keeps X a w) (hg : w.grownBy w' row) (hr : ∀ k, row = some k → ¬ X k) : Keeps X a w' :=
  h.trans ⟨hg.os, hg.tape, hg.output, hg.size, fun k hk hl => hg.block k hl (fun e => hr k e.symm hk)⟩

theorem Keeps.below {X : Nat → Prop} {w w' : World} (h : Keeps X w w') (B : Nat) (hB : B ≤ w.heap.size) (hX : ∀ k, k < B → X k) : Below B w w' :=
  ⟨h.os, h.tape, h.output, h.size, fun k hk => h.block k (hX k hk) (by omega)⟩

theorem Keeps.of_below {B : Nat} {w w' : World} (h : Below B w w') : Keeps (fun k => k < B) w w' :=
  ⟨h.os, h.tape, h.output, h.size, fun k hk _ => h.block k hk⟩

theorem Keeps.at {X : Nat → Prop} {w w' : World} (h : Keeps X w w') {k : Nat} {o : Obj} (hk : X k) (hb : w.heap[k]? = some o) : w'.heap[k]? = some o :=
  (h.block k hk (Array.getElem?_eq_some_iff.1 hb).1).trans hb

theorem Keeps.cell {X : Nat → Prop} {w w' : World} (h : Keeps X w w') {a : Addr} {v : Value} (hk : X a.block) (hb : w.cell? a = some v) : w'.cell? a = some v :=
  (World.cell?_of_block (h.block a.block hk (World.block_lt_of_cell? w a hb))).trans hb

theorem blk_lt {w : World} {b : Nat} {o : Obj} (h : w.heap[b]? = some o) : b < w.heap.size := (Array.getElem?_eq_some_iff.1 h).1

theorem blk_cell {w : World} {b : Nat} {cs : Array Value} {t : TypeId} (h : w.heap[b]? = some (.cells cs t (0, 0))) (o : Nat) : w.cell? ⟨b, o, none⟩ = cs[o]? :=
  cell_of_row w b o cs t (0, 0) h

theorem blk_frozen {w : World} {b : Nat} {cs : Array Value} {t : TypeId} (h : w.heap[b]? = some (.cells cs t (0, 0))) (o : Nat) : w.frozen? ⟨b, o, none⟩ = false :=
  frozen_of_row w b o cs t h

theorem blk_set {w : World} {b : Nat} {cs : Array Value} {t : TypeId} (h : w.heap[b]? = some (.cells cs t (0, 0))) (o : Nat) (u : Value) :
    (w.setCell ⟨b, o, none⟩ u).heap[b]? = some (.cells (cs.setIfInBounds o u) t (0, 0)) := heap_setCell_same w b o cs t u h

theorem blk_other {w : World} {b c : Nat} {o : Obj} (h : w.heap[b]? = some o) (p : Addr) (hp : p.block = c) (hne : b ≠ c) (u : Value) : (w.setCell p u).heap[b]? = some o :=
  (heap_setCell_other w p b u (by omega)).trans h

theorem blk_alloc {w : World} {b : Nat} {o : Obj} (h : w.heap[b]? = some o) (x : Obj) : (w.alloc x).heap[b]? = some o :=
  (Below.heap_alloc w x b (blk_lt h)).trans h

theorem blk_grown {w w' : World} {row : Option Nat} (hg : w.grownBy w' row) {b : Nat} {o : Obj} (h : w.heap[b]? = some o) (hne : row ≠ some b) : w'.heap[b]? = some o :=
  (hg.block b (blk_lt h) (fun e => hne e.symm)).trans h

/-- A slice value that reads as the integers zs. -/
def IntsAt (w : World) (v : Value) (zs : List Int) : Prop :=
  ∃ ao cap, v = .slice ao zs.length cap ∧ zs.length ≤ cap ∧ (0 < zs.length → ∃ b off, ao = some ⟨b, off, none⟩ ∧ ∀ k, k < zs.length → w.cell? ⟨b, off + k, none⟩ = some (.int .i64 (zs.getD k 0)))

def BoolsAt (w : World) (v : Value) (bs : List Bool) : Prop :=
  ∃ ao cap, v = .slice ao bs.length cap ∧ bs.length ≤ cap ∧ (0 < bs.length → ∃ b off, ao = some ⟨b, off, none⟩ ∧ ∀ k, k < bs.length → w.cell? ⟨b, off + k, none⟩ = some (.bool (bs.getD k false)))

theorem IntsAt.nil (w : World) : IntsAt w (.slice none 0 0) [] := ⟨none, 0, rfl, Nat.le_refl _, fun h => absurd h (by simp)⟩
theorem BoolsAt.nil (w : World) : BoolsAt w (.slice none 0 0) [] := ⟨none, 0, rfl, Nat.le_refl _, fun h => absurd h (by simp)⟩

/-- The slice value lies, if it has elements, in a block of X. -/
def liesIn (X : Nat → Prop) (v : Value) : Prop := ∀ a n c, v = .slice (some a) n c → 0 < n → X a.block

theorem IntsAt.keeps {X : Nat → Prop} {w w' : World} {v : Value} {zs : List Int} (h : IntsAt w v zs) (hx : liesIn X v) (hk : Keeps X w w') : IntsAt w' v zs := by
  obtain ⟨ao, cap, rfl, hc, hz⟩ := h
  refine ⟨ao, cap, rfl, hc, fun h0 => ?_⟩
  obtain ⟨b, off, rfl, hcell⟩ := hz h0
  exact ⟨b, off, rfl, fun k hkl => hk.cell (a := ⟨b, off + k, none⟩) (hx ⟨b, off, none⟩ _ _ rfl h0) (hcell k hkl)⟩

theorem BoolsAt.keeps {X : Nat → Prop} {w w' : World} {v : Value} {bs : List Bool} (h : BoolsAt w v bs) (hx : liesIn X v) (hk : Keeps X w w') : BoolsAt w' v bs := by
  obtain ⟨ao, cap, rfl, hc, hz⟩ := h
  refine ⟨ao, cap, rfl, hc, fun h0 => ?_⟩
  obtain ⟨b, off, rfl, hcell⟩ := hz h0
  exact ⟨b, off, rfl, fun k hkl => hk.cell (a := ⟨b, off + k, none⟩) (hx ⟨b, off, none⟩ _ _ rfl h0) (hcell k hkl)⟩

/-! ### Rows of the call's own, apart from one another and from X -/
def ints (l : List Int) : List Value := l.map (Value.int .i64)
theorem ints_length (l : List Int) : (ints l).length = l.length := by simp [ints]
theorem ints_append (l m : List Int) : ints (l ++ m) = ints l ++ ints m := by simp [ints]

def apartV (a b : Value) : Prop := ∀ k, a.ownBlock = some k → b.ownBlock ≠ some k
def offX (X : Nat → Prop) (v : Value) : Prop := ∀ k, v.ownBlock = some k → ¬ X k

theorem apartV.symm {a b : Value} (h : apartV a b) : apartV b a := fun k hb ha => h k ha hb
theorem offX.mono {X Y : Nat → Prop} {v : Value} (h : offX X v) (hY : ∀ k, Y k → X k) : offX Y v := fun k hk hy => h k hk (hY k hy)
theorem apartV_nil (b : Value) : apartV (.slice none 0 0) b := fun k h => by simp [Value.ownBlock] at h
theorem offX_nil (X : Nat → Prop) : offX X (.slice none 0 0) := fun k h => by simp [Value.ownBlock] at h

/-- Behind an append onto v (world w to w1; the new slice at g): whatever old block was not v's is not the new one's. -/
theorem off_new {v : Value} {g H n cap : Nat} (hat : v.ownBlock = some g ∨ g = H) {k : Nat} (hk : k < H) (hv : v.ownBlock ≠ some k) : (Value.slice (some ⟨g, 0, none⟩) n cap).ownBlock ≠ some k := by
  intro h
  simp [Value.ownBlock] at h
  rcases hat with hat | hat
  · exact hv (by rw [hat, h])
  · omega

theorem owns_lt {w : World} {e size : Nat} {v : Value} {n : Nat} {xs : List Value} (h : w.ownsRow 0 e size v n xs) {k : Nat} (hk : v.ownBlock = some k) : k < w.heap.size := (h.lt k hk).2

theorem owns_grown {w w' : World} {row : Option Nat} {e size : Nat} {v : Value} {n : Nat} {xs : List Value} (h : w.ownsRow 0 e size v n xs) (hg : w.grownBy w' row) (hne : ∀ k, v.ownBlock = some k → row ≠ some k) : w'.ownsRow 0 e size v n xs :=
  h.kept hg (by
    cases hv : v.ownBlock with
    | none => exact .inl rfl
    | some k => exact .inr (fun e => hne k hv e.symm))

theorem owns_keeps {X : Nat → Prop} {w w' : World} {e size : Nat} {v : Value} {n : Nat} {xs : List Value} (h : w.ownsRow 0 e size v n xs) (hk : Keeps X w w') (hx : ∀ k, v.ownBlock = some k → X k) : w'.ownsRow 0 e size v n xs := by
  refine ⟨h.1, ?_⟩
  rcases h.2 with hn | ⟨g, cap, cur, rfl, hb, hgg, rest⟩
  · exact .inl hn
  · exact .inr ⟨g, cap, cur, rfl, hb, hk.at (hx g rfl) hgg, rest⟩

theorem owns_setCell {w : World} {e size : Nat} {v : Value} {n : Nat} {xs : List Value} (h : w.ownsRow 0 e size v n xs) (p : Addr) (hp : v.ownBlock ≠ some p.block) (u : Value) : (w.setCell p u).ownsRow 0 e size v n xs := by
  refine ⟨h.1, ?_⟩
  rcases h.2 with hn | ⟨g, cap, cur, rfl, hb, hgg, rest⟩
  · exact .inl hn
  · exact .inr ⟨g, cap, cur, rfl, hb, blk_other hgg p rfl (fun e => hp (by simp [Value.ownBlock, e])) u, rest⟩

/-- The form of a value that owns a row. -/
theorem owns_form {w : World} {e size : Nat} {v : Value} {n : Nat} {xs : List Value} (h : w.ownsRow 0 e size v n xs) : ∃ ao cap, v = .slice ao n cap ∧ (0 < n → ∃ g, ao = some ⟨g, 0, none⟩) := by
  rcases h.2 with ⟨rfl, rfl⟩ | ⟨g, cap, cur, rfl, _⟩
  · exact ⟨none, 0, rfl, fun h => absurd h (by omega)⟩
  · exact ⟨_, cap, rfl, fun _ => ⟨g, rfl⟩⟩

theorem owns_ints {w : World} {e : Nat} {v : Value} {l : List Int} (h : w.ownsRow 0 e 1 v l.length (ints l)) : IntsAt w v l := by
  rcases h.2 with ⟨rfl, hl⟩ | ⟨g, cap, cur, rfl, _, hg, hnc, _⟩
  · have : l = [] := List.eq_nil_of_length_eq_zero hl
    subst this
    exact IntsAt.nil w
  · refine ⟨_, cap, rfl, hnc, fun h0 => ⟨g, 0, rfl, fun k hk => ?_⟩⟩
    rw [Nat.zero_add, h.cellAt k (by omega)]
    simp [ints, hk]

/-- ONE APPEND ONTO A ROW WHOSE SLICE LIES IN CELL j OF BLOCK R, AND THE STORE OF THE NEW SLICE THERE. u: the world at the append (w with new blocks, drawn or not). -/
theorem push {X : Nat → Prop} {w u w1 : World} {R j : Nat} {cs : Array Value} {T e : TypeId} {v : Value} {xs ys : List Value} {g n' cap H sz : Nat}
    (hR : w.heap[R]? = some (.cells cs T (0, 0))) (hu : Keeps (fun _ => True) w u) (hH : w.heap.size ≤ H) (hXl : ∀ k, X k → k < w.heap.size)
    (vR : v.ownBlock ≠ some R) (xv : offX X v) (xR : ¬ X R)
    (own1 : w1.ownsRow 0 e sz (.slice (some ⟨g, 0, none⟩) n' cap) n' (xs ++ ys)) (hgrow : u.grownBy w1 v.ownBlock) (hat : v.ownBlock = some g ∨ g = H) :
    (w1.setCell ⟨R, j, none⟩ (.slice (some ⟨g, 0, none⟩) n' cap)).heap[R]? = some (.cells (cs.setIfInBounds j (.slice (some ⟨g, 0, none⟩) n' cap)) T (0, 0)) ∧
    (w1.setCell ⟨R, j, none⟩ (.slice (some ⟨g, 0, none⟩) n' cap)).ownsRow 0 e sz (.slice (some ⟨g, 0, none⟩) n' cap) n' (xs ++ ys) ∧
    (Value.slice (some ⟨g, 0, none⟩) n' cap).ownBlock ≠ some R ∧
    offX X (.slice (some ⟨g, 0, none⟩) n' cap) ∧
    Keeps X w (w1.setCell ⟨R, j, none⟩ (.slice (some ⟨g, 0, none⟩) n' cap)) ∧
    (∀ {sz' : Nat} z e' m zs, w.ownsRow 0 e' sz' z m zs → apartV v z → z.ownBlock ≠ some R →
      (w1.setCell ⟨R, j, none⟩ (.slice (some ⟨g, 0, none⟩) n' cap)).ownsRow 0 e' sz' z m zs ∧ apartV (.slice (some ⟨g, 0, none⟩) n' cap) z) := by
  have hRl := blk_lt hR
  have gR : (Value.slice (some ⟨g, 0, none⟩) n' cap).ownBlock ≠ some R := off_new hat (by omega) vR
  have hR1 : w1.heap[R]? = some (.cells cs T (0, 0)) := blk_grown hgrow (hu.at trivial hR) vR
  have hk1 : Keeps X w w1 := (hu.mono (fun _ _ => trivial)).grown hgrow (fun k hk => xv k hk)
  refine ⟨blk_set hR1 _ _, owns_setCell own1 _ gR _, gR, ?_, hk1.setCell xR _, ?_⟩
  · intro k hk hX
    refine off_new hat (n := n') (cap := cap) (k := k) (by have := hXl k hX; omega) (fun hv => xv k hv hX) hk
  · intro sz' z e' m zs hz hap hzR
    refine ⟨owns_setCell (owns_grown (owns_keeps hz hu (fun _ _ => trivial)) hgrow (fun k hk hv => hap k hv hk)) _ hzR _, ?_⟩
    intro k hk hzk
    have := owns_lt hz hzk
    exact off_new hat (by omega) (fun hv => hap k hv hzk) hk

theorem size_alloc (w : World) (o : Obj) : (w.alloc o).heap.size = w.heap.size + 1 := by simp

theorem three (w : World) (a b c : Obj) : (((w.alloc a).alloc b).alloc c).heap[w.heap.size]? = some a ∧ (((w.alloc a).alloc b).alloc c).heap[w.heap.size + 1]? = some b ∧ (((w.alloc a).alloc b).alloc c).heap[w.heap.size + 1 + 1]? = some c := by
  have h2 := heap_alloc_new (w.alloc a) b
  have h3 := heap_alloc_new ((w.alloc a).alloc b) c
  rw [size_alloc] at h2
  rw [size_alloc, size_alloc] at h3
  exact ⟨blk_alloc (blk_alloc (heap_alloc_new w a) b) c, blk_alloc h2 c, h3⟩

theorem keeps_alloc_all (w : World) (o : Obj) : Keeps (fun _ => True) w (w.alloc o) := (Keeps.refl _ w).alloc o

end Go.Proofs.Qxb6613901a
