/-
  lexSymbol on a line comment: it ends behind the line and the blanks that follow, with one fodder element.
-/
import Derived.Test.YtgdlfcgboghadaaFmtSymF
import Derived.Test.YtgdlfcgboghadaaFmtSymP
namespace Go.Proofs.YtgdlfcgboghadaaFmt
open Go Go.RowKit Go.Shelf

def SymLine (w : World) (s : ByteArray) (a : Nat) (L : LexSt) (e : Ending) (w' : World) : Prop :=
  e = .returned .nilIface ∧ ∃ m k g cap, UTo s L.step m ∧ ((L.step.steps m).rune = -1 ∨ (L.step.steps m).rune = 10) ∧ WsRun s (L.step.steps m).bn k ∧ ((L.step.steps m).steps k).bn = (L.step.steps m).bn + k ∧
    LexAt w' a { (L.step.steps m).steps k with fod := .slice (some ⟨g, 0, none⟩) 1 cap } ∧ w.grownBy w' (some a)
theorem grown_fod {a : Nat} {L : LexSt} {w w2 w3 : World} {o : Obj} (h : w.grownBy w2 (some a)) (hf : L.fod = .slice none 0 0) (hk : Kept (fun i => i = a ∨ L.fod.ownBlock = some i) (w2.alloc o) w3) : w.grownBy w3 (some a) := by
  have hs : w2.heap.size ≤ (w2.alloc o).heap.size := ((Below.refl w2.heap.size w2).alloc (Nat.le_refl _) o).size
  refine ⟨hk.os.trans h.os, hk.tape.trans h.tape, hk.output.trans h.output, Nat.le_trans h.size (Nat.le_trans hs hk.size), fun i hi hne => ?_⟩
  refine (hk.block i (Nat.lt_of_lt_of_le hi (Nat.le_trans h.size hs)) ?_).trans ((Below.heap_alloc w2 o i (Nat.lt_of_lt_of_le hi h.size)).trans (h.block i hi hne))
  rintro (e | e)
  · exact hne (by rw [e])
  · rw [hf] at e
    simp [Value.ownBlock] at e

set_option maxHeartbeats 3200000 in
set_option maxRecDepth 100000 in
theorem symLine (s : ByteArray) (a : Nat) (L : LexSt) (w : World) (h : LexAt w a L) (hi : Inv s L) (hs : s.size ≤ 1000000000) (hfr : L.fresh = true) (hf : L.fod = .slice none 0 0) (hc : L.rune = 35 ∨ (L.rune = 47 ∧ L.step.rune = 47)) (hT : Lib.Utf8Tabs 3 4 w) (ha0 : 3 ≠ a) (ha1 : 4 ≠ a) :
    Calls Tryf.prog 23 #[.pointer (some ⟨a, 0, none⟩)] w (SymLine w s a L) := by
  obtain ⟨g0, g1⟩ := tabs_lt hT
  have HT := Lib.hid hT
  have HI := Lib.hid hi
  have HI1 := Lib.hid hi.step
  have HFD := Lib.hid hf
  have HA := Lib.hid h
  have hlt := h.lt
  have c9 : w.cell? ⟨a, 9, none⟩ = some (.bool true) := (h.cell 9).trans (by rw [← hfr]; rfl)
  clear hT h hi hf hfr
  rcases hc with hc | ⟨hc, hc2⟩
  all_goals have HC := Lib.hid hc
  · clear hc
    go_enter Tryf.func23, Tryf.ntmps23
    go_wp2_with fail
    refine (next_any a L _ HA.out (by rw [HI.out.inp]; omega) (HI.out.lnb (by omega)).1 (HI.out.lnb (by omega)).2 HT.out).mono ?_
    rw [HC.out]
    rintro e w1 ⟨rfl, hA1, hg1⟩
    have HA1 := Lib.hid hA1
    have HT1 := Lib.hid (tabs_kept HT.out hg1 g0 g1 ha0 ha1)
    clear hA1 c9
    go_wp2_with fail
    refine (lexUntilNewline s a L.step _ (by exact HA1.out) HI1.out hs (by exact HT1.out) ha0 ha1).mono ?_
    rintro e w2 ⟨m, k, rfl, hut, hend, hws, hbk, hA2, hg2⟩
    have ht0 : (⟨((ubuf L.step m).take (ulast L.step m)).toArray⟩ : ByteArray).size ≤ 4000000000 := by
      have e1 := ubuf_le L.step m
      have e2 := hut.le HI1.out
      have e3 : (⟨((ubuf L.step m).take (ulast L.step m)).toArray⟩ : ByteArray).size = ((ubuf L.step m).take (ulast L.step m)).length := by simp [ByteArray.size]
      rw [e3, List.length_take]
      omega
    generalize (⟨((ubuf L.step m).take (ulast L.step m)).toArray⟩ : ByteArray) = t at ht0
    have he35 : (Utf8.encode 35).size = 1 := by decide
    have he47 : (Utf8.encode 47).size = 1 := by decide
    have HUT := Lib.hid hut
    have HEND := Lib.hid hend
    have HWS := Lib.hid hws
    have HBK := Lib.hid hbk
    have HA2 := Lib.hid hA2
    have hg2' := hg1.trans hg2
    clear hut hend hws hbk hA2 hg2
    have hB2 : ∀ o, w2.heap.size ≤ (w2.alloc o).heap.size := fun o => ((Below.refl w2.heap.size w2).alloc (Nat.le_refl _) o).size
    have HX2 : Hid (∀ o, LexAt (w2.alloc o) a ((L.step.steps m).steps k)) := Lib.hid fun o => (((Below.refl w2.heap.size w2).alloc (Nat.le_refl _) o).block a HA2.out.lt).trans HA2.out
    have HFOD : Hid (((L.step.steps m).steps k).fod = .slice none 0 0) := Lib.hid ((steps_keeps _ k).2.2.2.2.2.1.trans ((steps_keeps _ m).2.2.2.2.2.1.trans ((step_keeps L).2.2.2.2.2.1.trans HFD.out)))
    have hsz2 := hg2'.size
    go_wp2_with fail
    refine (addFodder a ((L.step.steps m).steps k) 2 _ _ _ 1 _ (.inr (.inr ⟨rfl, Nat.le_refl _⟩)) (by omega) w.heap.size 0 [] _ (by exact HX2.out _) (by rw [HFOD.out]; exact World.ownsRow_nil _ _ _ _) (by exact Nat.le_trans hsz2 (hB2 _)) (by omega)).mono ?_
    rintro e w3 ⟨rfl, v, hA3, hown3, hv3, hk3⟩
    obtain ⟨g, cap, rfl⟩ : ∃ g cap, v = .slice (some ⟨g, 0, none⟩) 1 cap := by
      rcases hown3.2 with ⟨_, h0⟩ | ⟨g, cap, cur, h0, _⟩
      · exact absurd h0 (by omega)
      · exact ⟨g, cap, h0⟩
    have HE : Hid (SymLine w s a L (.returned .nilIface) w3) := Lib.hid ⟨rfl, m, k, g, cap, HUT.out, HEND.out, HWS.out, HBK.out, hA3, grown_fod hg2' HFOD.out hk3⟩
    clear hA3 hown3 hv3 hk3
    go_wp2
    go_ret
    exact HE.out
  · have HC2 := Lib.hid hc2
    clear hc hc2
    go_enter Tryf.func23, Tryf.ntmps23
    go_wp2_with fail
    refine (next_any a L _ HA.out (by rw [HI.out.inp]; omega) (HI.out.lnb (by omega)).1 (HI.out.lnb (by omega)).2 HT.out).mono ?_
    rw [HC.out]
    rintro e w1 ⟨rfl, hA1, hg1⟩
    have hsz1 := hg1.size
    have HA1 := Lib.hid hA1
    have HT1 := Lib.hid (tabs_kept HT.out hg1 g0 g1 ha0 ha1)
    clear hA1 c9
    go_wp2_with fail
    refine (peek_any a L.step _ (by exact HA1.out) (by exact HT1.out)).mono ?_
    rw [HC2.out]
    rintro e w1 ⟨rfl, hb1⟩
    have hg1 := Lib.grownBy_below hg1 hb1
    have HT1 := Lib.hid (tabs_below HT1.out hb1 (by omega) (by omega))
    have HA1 := Lib.hid (show LexAt w1 a L.step from (hb1.block a HA1.out.lt).trans HA1.out)
    clear hb1
    go_wp2_with fail
    refine (lexUntilNewline s a L.step _ (by exact HA1.out) HI1.out hs (by exact HT1.out) ha0 ha1).mono ?_
    rintro e w2 ⟨m, k, rfl, hut, hend, hws, hbk, hA2, hg2⟩
    have ht0 : (⟨((ubuf L.step m).take (ulast L.step m)).toArray⟩ : ByteArray).size ≤ 4000000000 := by
      have e1 := ubuf_le L.step m
      have e2 := hut.le HI1.out
      have e3 : (⟨((ubuf L.step m).take (ulast L.step m)).toArray⟩ : ByteArray).size = ((ubuf L.step m).take (ulast L.step m)).length := by simp [ByteArray.size]
      rw [e3, List.length_take]
      omega
    generalize (⟨((ubuf L.step m).take (ulast L.step m)).toArray⟩ : ByteArray) = t at ht0
    have he35 : (Utf8.encode 35).size = 1 := by decide
    have he47 : (Utf8.encode 47).size = 1 := by decide
    have HUT := Lib.hid hut
    have HEND := Lib.hid hend
    have HWS := Lib.hid hws
    have HBK := Lib.hid hbk
    have HA2 := Lib.hid hA2
    have hg2' := hg1.trans hg2
    clear hut hend hws hbk hA2 hg2
    have hB2 : ∀ o, w2.heap.size ≤ (w2.alloc o).heap.size := fun o => ((Below.refl w2.heap.size w2).alloc (Nat.le_refl _) o).size
    have HX2 : Hid (∀ o, LexAt (w2.alloc o) a ((L.step.steps m).steps k)) := Lib.hid fun o => (((Below.refl w2.heap.size w2).alloc (Nat.le_refl _) o).block a HA2.out.lt).trans HA2.out
    have HFOD : Hid (((L.step.steps m).steps k).fod = .slice none 0 0) := Lib.hid ((steps_keeps _ k).2.2.2.2.2.1.trans ((steps_keeps _ m).2.2.2.2.2.1.trans ((step_keeps L).2.2.2.2.2.1.trans HFD.out)))
    have hsz2 := hg2'.size
    go_wp2_with fail
    refine (addFodder a ((L.step.steps m).steps k) 2 _ _ _ 1 _ (.inr (.inr ⟨rfl, Nat.le_refl _⟩)) (by omega) w.heap.size 0 [] _ (by exact HX2.out _) (by rw [HFOD.out]; exact World.ownsRow_nil _ _ _ _) (by exact Nat.le_trans hsz2 (hB2 _)) (by omega)).mono ?_
    rintro e w3 ⟨rfl, v, hA3, hown3, hv3, hk3⟩
    obtain ⟨g, cap, rfl⟩ : ∃ g cap, v = .slice (some ⟨g, 0, none⟩) 1 cap := by
      rcases hown3.2 with ⟨_, h0⟩ | ⟨g, cap, cur, h0, _⟩
      · exact absurd h0 (by omega)
      · exact ⟨g, cap, h0⟩
    have HE : Hid (SymLine w s a L (.returned .nilIface) w3) := Lib.hid ⟨rfl, m, k, g, cap, HUT.out, HEND.out, HWS.out, HBK.out, hA3, grown_fod hg2' HFOD.out hk3⟩
    clear hA3 hown3 hv3 hk3
    go_wp2
    go_ret
    exact HE.out

end Go.Proofs.YtgdlfcgboghadaaFmt
