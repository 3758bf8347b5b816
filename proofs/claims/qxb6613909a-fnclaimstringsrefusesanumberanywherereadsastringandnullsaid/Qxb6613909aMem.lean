import Derived.Test.Qxb6613909aProg
import Derived.WalkKit
import Derived.WalkSpells
import Derived.WalkLawsBesides
import Derived.BigQuiet
import Derived.Deep.QuietTactic
import Derived.Deep.Draws
import Derived.Deep.AppendLies
import Derived.Laws.CopyOwn
import Derived.KernelRfl
namespace Go.Proofs.Qxb6613909a
open Go Go.RowKit

theorem hide {p : Prop} (h : p) : Hid p := h
theorem ret_bool {a b : Bool} (h : a = b) : Ending.returned (.bool a) = .returned (.bool b) := by rw [h]

/-- A slice of strings that reads as ss. -/
def StrsAt (w : World) (v : Value) (ss : List ByteArray) : Prop :=
  ∃ ao cap, v = .slice ao ss.length cap ∧ ss.length ≤ cap ∧ (0 < ss.length → ∃ b off, ao = some ⟨b, off, none⟩ ∧ ∀ k s, ss[k]? = some s → w.cell? ⟨b, off + k, none⟩ = some (.string s))

theorem StrsAt.below {w w' : World} {v : Value} {ss : List ByteArray} (h : StrsAt w v ss) (hb : Below w.heap.size w w') : StrsAt w' v ss := by
  obtain ⟨ao, cap, rfl, hc, f⟩ := h
  refine ⟨ao, cap, rfl, hc, fun h0 => ?_⟩
  obtain ⟨b, off, rfl, k⟩ := f h0
  refine ⟨b, off, rfl, fun i s hi => ?_⟩
  have := k i s hi
  exact (hb.cell (p := ⟨b, off + i, none⟩) (World.block_lt_of_cell? w _ this)).trans this

def strs (l : List ByteArray) : List Value := l.map Value.string
theorem strs_length (l : List ByteArray) : (strs l).length = l.length := by simp [strs]

theorem owns_lt {w : World} {e size : Nat} {v : Value} {n : Nat} {xs : List Value} (h : w.ownsRow 0 e size v n xs) {k : Nat} (hk : v.ownBlock = some k) : k < w.heap.size := (h.lt k hk).2

theorem owns_strs {w : World} {e g cap : Nat} {l : List ByteArray} (h : w.ownsRow 0 e 1 (.slice (some ⟨g, 0, none⟩) l.length cap) l.length (strs l)) (hc : l.length ≤ cap) : StrsAt w (.slice (some ⟨g, 0, none⟩) l.length cap) l := by
  refine ⟨_, cap, rfl, hc, fun _ => ⟨g, 0, rfl, fun k s hs => ?_⟩⟩
  have hk := (List.getElem?_eq_some_iff.1 hs).1
  rw [Nat.zero_add, h.cellAt k (by omega)]
  simp [strs, hs]

theorem StrsAt.take {w : World} {ao : Option Addr} {n c : Nat} {ss : List ByteArray} (h : StrsAt w (.slice ao n c) ss) (k : Nat) (hk : k ≤ n) : StrsAt w (.slice ao k c) (ss.take k) := by
  obtain ⟨ao', c', e, hc, f⟩ := h
  simp only [Value.slice.injEq] at e
  obtain ⟨rfl, rfl, rfl⟩ := e
  have hl : (ss.take k).length = k := by simp; omega
  refine ⟨ao, c, by rw [hl], by omega, fun h0 => ?_⟩
  obtain ⟨b, off, rfl, g⟩ := f (by omega)
  refine ⟨b, off, rfl, fun i s hi => ?_⟩
  have hil := (List.getElem?_eq_some_iff.1 hi).1
  rw [hl] at hil
  refine g i s ?_
  rwa [List.getElem?_take, if_pos hil] at hi

theorem StrsAt.drop {w : World} {ao : Option Addr} {n c : Nat} {ss : List ByteArray} (h : StrsAt w (.slice ao n c) ss) (k : Nat) (hk : k ≤ n) : StrsAt w (.slice (Option.map (fun x => x.add k) ao) (n - k) (c - k)) (ss.drop k) := by
  obtain ⟨ao', c', e, hc, f⟩ := h
  simp only [Value.slice.injEq] at e
  obtain ⟨rfl, rfl, rfl⟩ := e
  have hl : (ss.drop k).length = ss.length - k := by simp
  refine ⟨_, _, by rw [hl], by omega, fun h0 => ?_⟩
  obtain ⟨b, off, rfl, g⟩ := f (by omega)
  have ha : (⟨b, off, none⟩ : Addr).add k = ⟨b, off + k, none⟩ := Go.WideShapes.add_plain b off k
  refine ⟨b, off + k, by simp [ha], fun i s hi => ?_⟩
  rw [Nat.add_assoc]
  exact g (k + i) s (by simpa using hi)

theorem StrsAt.none (w : World) (ao : Option Addr) (n : Nat) (hn : n = 0) (ss : List ByteArray) (hz : ss = []) : StrsAt w (.slice ao n 0) ss := by
  subst hn hz
  exact ⟨ao, 0, rfl, Nat.le_refl _, fun h => absurd h (by simp)⟩

/-- A look ended in a bool; where it said yes the list is no longer than N. -/
def Looked (e : Ending) (n N : Nat) : Prop := ∃ b, e = .returned (.bool b) ∧ (b = true → n ≤ N)
theorem Looked.no (n N : Nat) : Looked (.returned (.bool false)) n N := ⟨false, rfl, by simp⟩
theorem Looked.yes {n N : Nat} (h : n ≤ N) : Looked (.returned (.bool true)) n N := ⟨true, rfl, fun _ => h⟩

/-! ### The two looks at the sizes: whichever way they end, nothing turns. -/
set_option maxRecDepth 100000 in
set_option maxHeartbeats 1600000 in
theorem bytes6 (v : Value) (k : Int) (ss : List ByteArray) (w : World) (hv : StrsAt w v ss) (hl : ss.length ≤ maxLen) (hs : ∀ s ∈ ss, s.size ≤ maxLen) :
    Calls Try.prog 6 #[v, .int .i64 k] w fun e w' => Looked e ss.length 1048576 ∧ w' = w := by
  unfold maxLen at hl
  obtain ⟨ao, cap, rfl, hcap, f⟩ := hv
  by_cases g1 : 1048576 < ss.length
  · go_enter Try.func6, Try.ntmps6
    go_wp2
    go_ret
    exact ⟨Looked.no _ _, rfl⟩
  · go_enter Try.func6, Try.ntmps6
    go_wp2_with fail
    go_loop [5, 6] (fun n i => ∃ (m : Nat) (z : Int), m ≤ ss.length ∧ i = .int .i64 m ∧ n = .int .i64 z ∧ 0 ≤ z ∧ z ≤ 1048576) (fun _ i => ss.length - (intOf i).toNat)
    case atStart => exact ⟨0, ss.length, Nat.zero_le _, rfl, rfl, by omega, by omega⟩
    case round =>
      obtain ⟨m, z, hm, rfl, rfl, hz0, hz1⟩ := hrel
      by_cases hlt : m < ss.length
      · obtain ⟨b, off, rfl, hcell⟩ := f (by omega)
        obtain ⟨s, hsm⟩ : ∃ s, ss[m]? = some s := ⟨_, List.getElem?_eq_getElem hlt⟩
        have c0 := hcell m s hsm
        have hsz := hs s (List.mem_of_getElem? hsm)
        unfold maxLen at hsz
        have m0 : (0 : Int) ≤ (m : Int) := by omega
        have m1 : (m : Int) < (ss.length : Int) := by omega
        clear hcell f hsm hs
        by_cases g2 : 1048576 < s.size
        · go_wp2_with fail
          go_ret
          exact ⟨Looked.no _ _, rfl⟩
        · by_cases g3 : 1048576 < z + s.size
          · go_wp2_with fail
            go_ret
            exact ⟨Looked.no _ _, rfl⟩
          · go_wp2_with fail
            go_round
            case rel => exact ⟨m + 1, z + s.size, by omega, by go_num, rfl, by omega, by omega⟩
            case measure => simp [intOf]; omega
      · have dm : decide ((m : Int) < (ss.length : Int)) = false := by simp; omega
        go_wp2_with fail
        go_ret
        exact ⟨Looked.yes (by omega), rfl⟩

set_option maxRecDepth 100000 in
set_option maxHeartbeats 1600000 in
theorem fit7 (v : Value) (limit : Int) (ss : List ByteArray) (w : World) (hv : StrsAt w v ss) (hl : ss.length ≤ 1048576) :
    Calls Try.prog 7 #[v, .int .i64 limit] w fun e w' => Looked e ss.length 65536 ∧ w' = w := by
  obtain ⟨ao, cap, rfl, hcap, f⟩ := hv
  by_cases g1 : 65536 < ss.length
  · go_enter Try.func7, Try.ntmps7
    go_wp2
    go_ret
    exact ⟨Looked.no _ _, rfl⟩
  by_cases g2 : limit < 16 * ss.length
  · go_enter Try.func7, Try.ntmps7
    go_wp2
    go_ret
    exact ⟨Looked.no _ _, rfl⟩
  · go_enter Try.func7, Try.ntmps7
    go_wp2_with fail
    go_loop [5, 6] (fun n i => ∃ (m : Nat) (z : Int), m ≤ ss.length ∧ i = .int .i64 m ∧ n = .int .i64 z) (fun _ i => ss.length - (intOf i).toNat)
    case atStart => exact ⟨0, 16 * ss.length, Nat.zero_le _, rfl, rfl⟩
    case round =>
      obtain ⟨m, z, hm, rfl, rfl⟩ := hrel
      by_cases hlt : m < ss.length
      · obtain ⟨b, off, rfl, hcell⟩ := f (by omega)
        obtain ⟨s, hsm⟩ : ∃ s, ss[m]? = some s := ⟨_, List.getElem?_eq_getElem hlt⟩
        have c0 := hcell m s hsm
        have m0 : (0 : Int) ≤ (m : Int) := by omega
        have m1 : (m : Int) < (ss.length : Int) := by omega
        clear hcell f hsm
        by_cases g3 : limit < wrap64 (z + s.size)
        · go_wp2_with fail
          go_ret
          exact ⟨Looked.no _ _, rfl⟩
        · go_wp2_with fail
          go_round
          case rel => exact ⟨m + 1, wrap64 (z + s.size), by omega, by go_num, rfl⟩
          case measure => simp [intOf]; omega
      · have dm : decide ((m : Int) < (ss.length : Int)) = false := by simp; omega
        go_wp2_with fail
        go_ret
        exact ⟨Looked.yes (by omega), rfl⟩

end Go.Proofs.Qxb6613909a
