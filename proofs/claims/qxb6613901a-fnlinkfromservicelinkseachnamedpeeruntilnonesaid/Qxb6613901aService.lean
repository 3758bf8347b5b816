import Derived.Test.Qxb6613901aOverOps
import Derived.Deep.RegionHeld3
namespace Go.Proofs.Qxb6613901a
open Go Go.RowKit
attribute [local go_sem ↓] Go.wp_at_zero Go.wp_at_succ

/-- The named peers, of the first k, whose link was accepted. -/
def mdl (zs : List Int) (bs : List Bool) : Nat → List Int
  | 0 => []
  | k + 1 => mdl zs bs k ++ (if ans bs k then [zs.getD k 0] else [])

theorem mdl_len (zs : List Int) (bs : List Bool) (k : Nat) : (mdl zs bs k).length ≤ k := by
  induction k with
  | zero => simp [mdl]
  | succ k ih => rw [mdl, List.length_append]; split <;> simp <;> omega

def doneN (asks : Int) (n : Nat) : Nat := min asks.toNat n
def bootsN (asks : Int) (n : Nat) : Nat := if (n : Int) < asks then n + 1 else asks.toNat

theorem boot_yes (O k : Nat) (p n z : Int) (nv av : Value) (zs : List Int) (BP BN LP LQ : List Int) (X : Nat → Prop) (w : World)
    (hov : OvAt w O nv av k BP BN LP LQ X) (hz : IntsAt w nv zs) (hzx : liesIn X nv) (hzl : zs.length ≤ 1099511627776) (hk : zs[k]? = some z)
    (h1 : BP.length ≤ 1099511627776) (h2 : BN.length ≤ 1099511627776) :
    Calls Try.prog 76 #[.pointer (some ⟨O, 0, none⟩), .int .i64 p, .int .i64 n] w fun e w' => ∃ g, e = .returned (.slice (some ⟨g, 0, none⟩) 1 1) ∧ Keeps X w w' ∧ w'.cell? ⟨g, 0, none⟩ = some (.int .i64 z) ∧ OvAt w' O nv av (k + 1 : Nat) (BP ++ [p]) (BN ++ [n]) LP LQ (fun x => X x ∨ x = g) := by
  have hlt := (List.getElem?_eq_some_iff.1 hk).1
  refine (boot_any O k p n nv av zs BP BN LP LQ X w hov hz hzx hzl (by omega) h1 h2).mono ?_
  rintro e w' ⟨h3, ⟨h4, _⟩ | ⟨z', g, hz', rfl, hc, ho⟩⟩
  · omega
  · rw [hk] at hz'; cases hz'
    exact ⟨g, rfl, h3, hc, ho⟩

theorem boot_no (O : Nat) (p n : Int) (nv av : Value) (zs : List Int) (BP BN LP LQ : List Int) (X : Nat → Prop) (w : World)
    (hov : OvAt w O nv av zs.length BP BN LP LQ X) (hz : IntsAt w nv zs) (hzx : liesIn X nv) (hzl : zs.length ≤ 1099511627776)
    (h1 : BP.length ≤ 1099511627776) (h2 : BN.length ≤ 1099511627776) :
    Calls Try.prog 76 #[.pointer (some ⟨O, 0, none⟩), .int .i64 p, .int .i64 n] w fun e w' => e = .returned (.slice none 0 0) ∧ Keeps X w w' ∧ OvAt w' O nv av zs.length (BP ++ [p]) (BN ++ [n]) LP LQ X := by
  refine (boot_any O zs.length p n nv av zs BP BN LP LQ X w hov hz hzx hzl (Nat.le_refl _) h1 h2).mono ?_
  rintro e w' ⟨h3, ⟨_, rfl, ho⟩ | ⟨z', g, hz', _⟩⟩
  · exact ⟨rfl, h3, ho⟩
  · simp at hz'

theorem ovLink_b (O : Nat) (p q pos : Int) (nv av : Value) (bs : List Bool) (BP BN LP LQ : List Int) (X : Nat → Prop) (w : World)
    (hov : OvAt w O nv av pos BP BN LP LQ X) (hb : BoolsAt w av bs) (hbx : liesIn X av) (hbl : bs.length ≤ 1099511627776)
    (h1 : LP.length ≤ 1099511627776) (h2 : LQ.length ≤ 1099511627776) (b : Bool) (ha : Hid (ans bs LQ.length = b)) :
    Calls Try.prog 77 #[.pointer (some ⟨O, 0, none⟩), .int .i64 p, .int .i64 q] w fun e w' =>
      e = .returned (.bool b) ∧ OvAt w' O nv av pos BP BN (LP ++ [p]) (LQ ++ [q]) X ∧ Keeps X w w' :=
  ha.out ▸ ovLink_any O p q pos nv av bs BP BN LP LQ X w hov hb hbx hbl h1 h2

theorem nil_boot (a : Addr) (w : World) : (nilAhead 259 28 (.pointer (some a)) "Bootstrap").run Try.prog w = .ok (some false) w := by kernel_rfl
theorem nil_link (a : Addr) (w : World) : (nilAhead 259 28 (.pointer (some a)) "Link").run Try.prog w = .ok (some false) w := by kernel_rfl
theorem meth_boot (a : Addr) (w : World) : (method 259 28 (.pointer (some a)) "Bootstrap").run Try.prog w = .ok (76, .pointer (some a)) w := by kernel_rfl
theorem meth_link (a : Addr) (w : World) : (method 259 28 (.pointer (some a)) "Link").run Try.prog w = .ok (77, .pointer (some a)) w := by kernel_rfl

/-- What holds at the head of round k of linkFromService's loop. -/
structure LInv (w : World) (O : Nat) (nv av : Value) (id : Int) (zs : List Int) (bs : List Bool) (X : Nat → Prop) (B K : Nat) (mv : Value) (wr : World) : Prop where
  ov : OvAt wr O nv av K (List.replicate B id) (List.replicate B 1) (List.replicate K id) (zs.take K) (fun x => X x ∨ mv.ownBlock = some x)
  row : wr.ownsRow 0 2 1 mv (mdl zs bs K).length (ints (mdl zs bs K))
  off : offX X mv
  keeps : Keeps X w wr

set_option maxRecDepth 100000 in
set_option maxHeartbeats 3200000 in
theorem service_any (P O : Nat) (id asks : Int) (nv av : Value) (zs : List Int) (bs : List Bool) (X : Nat → Prop) (w : World)
    (hP : w.cell? ⟨P, 0, none⟩ = some (.int .i64 id)) (XP : X P) (hov : OvAt w O nv av 0 [] [] [] [] X) (hz : IntsAt w nv zs) (hzx : liesIn X nv) (hb : BoolsAt w av bs) (hbx : liesIn X av)
    (hzl : zs.length ≤ 65536) (hbl : bs.length ≤ 65536) (ha1 : asks ≤ 9223372036854775807) :
    Calls Try.prog 36 #[.pointer (some ⟨P, 0, none⟩), .iface 28 (.pointer (some ⟨O, 0, none⟩)), .int .i64 asks] w fun e w' =>
      ∃ mv, e = .returned mv ∧ LInv w O nv av id zs bs X (bootsN asks zs.length) (doneN asks zs.length) mv w' := by
  obtain ⟨i2, hi2, hz20, hz21, hz22⟩ := info_parts info2
  have n1 := nil_boot
  have n2 := nil_link
  have m1 := meth_boot
  have m2 := meth_link
  go_enter Try.func36, Try.ntmps36
  go_wp2_with fail
  go_loopw [7, 10] (fun mv c wr => ∃ k : Nat, k ≤ zs.length ∧ c = .int .i64 k ∧ (k = 0 ∨ (k : Int) ≤ asks) ∧ LInv w O nv av id zs bs X k k mv wr) (fun _ c _ => zs.length + 1 - (intOf c).toNat)
  case atStart =>
    refine ⟨0, Nat.zero_le _, rfl, .inl rfl, ⟨?_, World.ownsRow_nil _ _ _ _, offX_nil _, Keeps.refl _ _⟩⟩
    simpa [Value.ownBlock] using hov
  case round =>
    obtain ⟨k, hk, rfl, hka, hinv⟩ := hrel
    by_cases hlt : (k : Int) < asks
    · have cP : wr.cell? ⟨P, 0, none⟩ = some (.int .i64 id) := hinv.keeps.cell (a := ⟨P, 0, none⟩) XP hP
      have hzr := hz.keeps hzx hinv.keeps
      have hbr := hb.keeps hbx hinv.keeps
      have HZX : liesIn (fun x => X x ∨ u7.ownBlock = some x) nv := fun a n c e h0 => Or.inl (hzx a n c e h0)
      have HI := hide hinv
      have HZ := hide hzr
      have HB := hide hbr
      clear hinv hzr hbr hov
      by_cases hlen : k < zs.length
      · obtain ⟨z, hzk⟩ : ∃ z, zs[k]? = some z := ⟨_, List.getElem?_eq_getElem hlen⟩
        have HZK := hide hzk
        clear hzk
        go_wp2_with fail
        go_region_held3 (fun w' => w'.cell? ⟨P, 0, none⟩ = some (.int .i64 id))
          (first
            | go_keep
            | exact hk2.cell (a := ⟨P, 0, none⟩) (.inl XP) cP)
          ((go_at_call 76; refine (boot_yes O k id 1 z nv av zs _ _ _ _ _ _ (by exact HI.out.ov) (by exact HZ.out) HZX (by omega) HZK.out (by simp; omega) (by simp; omega)).mono ?_; rintro e w1 ⟨g, rfl, hk2, cg, ho2⟩))
        have cP1 : w1.cell? ⟨P, 0, none⟩ = some (.int .i64 id) := hk2.cell (a := ⟨P, 0, none⟩) (.inl XP) cP
        have HO2 := hide ho2
        have hk2' : Keeps (fun x => X x ∨ u7.ownBlock = some x) wr w1 := ⟨hk2.os, hk2.tape, hk2.output, hk2.size, hk2.block⟩
        have HK2 := hide hk2'
        have HB1 := hide ((hb.keeps hbx HI.out.keeps).keeps hbx (hk2'.mono fun _ h => .inl h))
        clear ho2 hk2 hk2' cP HZ HB
        obtain ⟨ba, hba⟩ : ∃ b, ans bs k = b := ⟨_, rfl⟩
        have hba' : ans bs (zs.take k).length = ba := by rw [List.length_take, Nat.min_eq_left hk]; exact hba
        have HBA := hide hba'
        have HBB := hide hba
        clear hba hba'
        have HBX : liesIn (fun x => (X x ∨ u7.ownBlock = some x) ∨ x = g) av := fun a n c e h0 => Or.inl (Or.inl (hbx a n c e h0))
        go_wp2_with fail
        go_region_held3 (fun w' => w'.cell? ⟨P, 0, none⟩ = some (.int .i64 id) ∧ w'.cell? ⟨g, 0, none⟩ = some (.int .i64 z))
          (first
            | go_keep
            | exact ⟨hk3.cell (a := ⟨P, 0, none⟩) (.inl (.inl XP)) cP1, hk3.cell (a := ⟨g, 0, none⟩) (.inr rfl) cg⟩)
          ((go_at_call 77; refine (ovLink_b O id z _ nv av bs _ _ _ _ _ _ (by exact HO2.out) (by exact HB1.out) HBX (by omega) (by simp; omega) (by simp; omega) ba HBA).mono ?_; rintro e w2 ⟨rfl, ho3, hk3⟩))
        have HO3 := hide ho3
        have HK3 := hide hk3
        have cg2 : w2.cell? ⟨g, 0, none⟩ = some (.int .i64 z) := hk3.cell (a := ⟨g, 0, none⟩) (.inr rfl) cg
        have hrow2 : w2.ownsRow 0 2 1 u7 (mdl zs bs k).length (ints (mdl zs bs k)) := by
          refine owns_keeps (X := fun x => X x ∨ u7.ownBlock = some x) (owns_keeps HI.out.row HK2.out (fun x hx => .inr hx)) ?_ (fun x hx => .inr hx)
          exact ⟨hk3.os, hk3.tape, hk3.output, hk3.size, fun x hx hl => hk3.block x (.inl hx) hl⟩
        have hkx : Keeps X w w2 := (HI.out.keeps.trans (HK2.out.mono fun _ h => .inl h)).trans ⟨hk3.os, hk3.tape, hk3.output, hk3.size, fun x hx hl => hk3.block x (.inl (.inl hx)) hl⟩
        have hml := mdl_len zs bs k
        clear ho3 hk3 cg cP1 HK3 HB1 HO2
        cases ba with
        | false =>
          have HR := hide hrow2
          have HX := hide hkx
          clear hrow2 hkx cg2
          go_wp2_with fail
          go_roundw
          case rel =>
            refine ⟨k + 1, by omega, by go_num, .inr (by omega), ⟨?_, ?_, HI.out.off, HX.out⟩⟩
            · rw [List.replicate_succ', List.replicate_succ', List.take_succ_eq_append_getElem hlen, show zs[k] = z from by have := HZK.out; rw [List.getElem?_eq_getElem hlen] at this; simpa using this]
              exact HO3.out.mono (fun _ h => .inl h)
            · rw [mdl, HBB.out]; simpa using HR.out
          case measure => simp [intOf]; omega
        | true =>
          go_wp2_with (at_builtin; refine wpList_append_lies _ rfl _ _ 24 rfl 0 2 i2 _ 1 8 Try.underlying24 hi2 hz20 hz21 hz22 rfl (by omega) u7 (mdl zs bs k).length (ints (mdl zs bs k)) rfl (hrow2.alloc _) ⟨w2.heap.size, 0, none⟩ 1 1 [.int .i64 z] rfl rfl (World.news_of_block (cs := #[.int .i64 z]) (t := 2) (fr := (0, 0)) (heap_alloc_new w2 _)) (by simp [Value.oneCell']) (by omega) (by simp only [maxLen]; omega) (by omega) (by omega) (w2.heap.size + 1) (by simp) ?_)
          intro g2 cap2 w3 own3 hgrow3 hat3 hlt3
          have HFIN : Hid (LInv w O nv av id zs bs X (k + 1) (k + 1) (.slice (some ⟨g2, 0, none⟩) ((mdl zs bs k).length + 1) cap2) w3) := by
            refine ⟨?_, ?_, ?_, ?_⟩
            · rw [List.replicate_succ', List.replicate_succ', List.take_succ_eq_append_getElem hlen, show zs[k] = z from by have := HZK.out; rw [List.getElem?_eq_getElem hlen] at this; simpa using this]
              exact OvAt.grown (HO3.out.mono (fun _ h => .inl h)) (keeps_alloc_all w2 _) (Nat.le_succ _) hgrow3 hat3 hlt3
            · rw [mdl, HBB.out]
              have e : zs.getD k 0 = z := by simp [HZK.out]
              rw [if_pos rfl, e, ints_snoc]
              simpa using own3
            · intro x hx hX
              have hXl : x < w2.heap.size := by obtain ⟨_, _, _, _, _, _, _, _, _, _, _, _, _, _, _, _, _, _, _, _, _, _, _, _, hXl⟩ := HO3.out; exact hXl x (.inl (.inl hX))
              exact off_new hat3 (n := (mdl zs bs k).length + 1) (cap := cap2) (k := x) (by omega) (fun hv => HI.out.off x hv hX) hx
            · exact (hkx.alloc _).grown hgrow3 (fun x hx => HI.out.off x hx)
          clear own3 hgrow3 hat3 hlt3 hrow2 hkx cg2 HI HO3 HK2
          go_wp2_with fail
          go_roundw
          case rel => exact ⟨k + 1, by omega, by go_num, .inr (by omega), HFIN.out⟩
          case measure => simp [intOf]; omega
      · have hkl : k = zs.length := by omega
        subst hkl
        have HZX : liesIn (fun x => X x ∨ u7.ownBlock = some x) nv := fun a n c e h0 => Or.inl (hzx a n c e h0)
        go_wp2_with fail
        go_region_held3 (fun w' => w'.cell? ⟨P, 0, none⟩ = some (.int .i64 id))
          (first
            | go_keep
            | exact hk2.cell (a := ⟨P, 0, none⟩) (.inl XP) cP)
          ((go_at_call 76; refine (boot_no O id 1 nv av zs _ _ _ _ _ _ (by exact HI.out.ov) (by exact HZ.out) HZX (by omega) (by simp; omega) (by simp; omega)).mono ?_; rintro e w1 ⟨rfl, hk2, ho2⟩))
        have HFIN : Hid (LInv w O nv av id zs bs X (bootsN asks zs.length) (doneN asks zs.length) u7 w1) := by
          rw [show bootsN asks zs.length = zs.length + 1 by unfold bootsN; rw [if_pos hlt], show doneN asks zs.length = zs.length by unfold doneN; omega]
          have hk2' : Keeps (fun x => X x ∨ u7.ownBlock = some x) wr w1 := ⟨hk2.os, hk2.tape, hk2.output, hk2.size, hk2.block⟩
          refine ⟨?_, owns_keeps HI.out.row hk2' (fun x hx => .inr hx), HI.out.off, HI.out.keeps.trans (hk2'.mono fun _ h => .inl h)⟩
          rw [List.replicate_succ', List.replicate_succ']
          exact ho2
        clear hk2 ho2 cP HI
        go_wp2_with fail
        go_ret
        exact ⟨u7, rfl, HFIN.out⟩
    · have HFIN : Hid (LInv w O nv av id zs bs X (bootsN asks zs.length) (doneN asks zs.length) u7 wr) := by
        rw [show bootsN asks zs.length = k by unfold bootsN; rw [if_neg (by omega)]; omega, show doneN asks zs.length = k by unfold doneN; omega]
        exact hinv
      have dk : decide ((k : Int) < asks) = false := by simp; omega
      clear hinv
      go_wp2_with fail
      go_ret
      exact ⟨u7, rfl, HFIN.out⟩

end Go.Proofs.Qxb6613901a
