/-
  A parser over one operator token and the end of file (n008_138).
-/
import Derived.Test.YtgdccdhkknbahaaFmtPkB
import Derived.Test.YtgdccdhkknbahaaFmtFmtS
import Derived.Deep.AppendLies
import Derived.Deep.RegionHeld3
import Derived.OwnWalk
namespace Go.Proofs.YtgdccdhkknbahaaFmt.fnParseObjectAssignmentOpCaseTable
open Go Go.RowKit

set_option maxRecDepth 100000 in
theorem poBytes (op : ByteArray) (w : World) (h : op.size ≤ maxLen) :
    Calls Tryf.prog 14 #[.string op] w fun e w' => BPost (op.size ≤ 1048576) w e w' := by
  unfold maxLen at h
  by_cases q1 : 1048576 < op.size
  · go_enter Tryf.func14, Tryf.ntmps14
    go_wp2
    all_goals go_ret
    all_goals exact BPost.no w
  · go_enter Tryf.func14, Tryf.ntmps14
    go_wp2
    all_goals go_ret
    all_goals exact ⟨⟨true, rfl, fun _ => by omega⟩, rfl⟩

theorem tok_one (k : Int) (d : ByteArray) : ∀ u ∈ tokVals k d, u.oneCell' = true := by
  intro u hu
  simp only [tokVals, List.mem_cons, List.not_mem_nil, or_false] at hu
  rcases hu with rfl | rfl | rfl | rfl | rfl | rfl | rfl | rfl | rfl | rfl | rfl <;> rfl
set_option maxRecDepth 100000 in
theorem tokAppend (v : Value) (n : Nat) (xs : List Value) (k : Int) (d : ByteArray) (B : Nat) (w : World) (hown : w.ownsRow B 64 11 v n xs) (hB : B ≤ w.heap.size) (hn : n ≤ 1000) :
    Calls Tryf.prog 15 #[v, .int .i64 k, .string d] w fun e w' => (∃ g cap, e = .returned (.slice (some ⟨g, 0, none⟩) (n + 1) cap) ∧ w'.ownsRow B 64 11 (.slice (some ⟨g, 0, none⟩) (n + 1) cap) (n + 1) (xs ++ tokVals k d)) ∧ Below B w w' := by
  obtain ⟨i0, hi0, hz0, hz1, hz2⟩ := info_parts infoTok
  have HO := Lib.hid hown
  have hvb : ∀ k, v.ownBlock = some k → B ≤ k := fun k hk => by
    rcases hown.2 with ⟨rfl, _⟩ | ⟨g, cap, cur, rfl, hb, _⟩
    · cases hk
    · cases hk; exact hb
  have HV := Lib.hid hvb
  clear hown hvb
  go_enter Tryf.func15, Tryf.ntmps15
  go_wp2_with (at_builtin; refine wpList_append_lies _ rfl _ _ _ rfl B 64 i0 _ 11 136 Tryf.underlying32 hi0 hz0 hz1 hz2 rfl (by omega) v n xs rfl (HO.out.alloc _) ⟨w.heap.size, 0, none⟩ 1 1 (tokVals k d) rfl rfl (World.news_of_block (cs := (tokVals k d).toArray) (t := 64) (fr := (0, 0)) (heap_alloc_new w _)) (tok_one k d) (Nat.zero_lt_one) (by unfold maxLen; omega) (by omega) (by simp; omega) (w.heap.size + 1) (by simp) ?_; intro g cap w1 hown1 hgrow hat hlt)
  have HO1 := Lib.hid hown1
  have HB1 : Hid (Below B w w1) := Lib.hid (((Below.refl B w).alloc hB _).grown hgrow (by simp; omega) HV.out)
  clear hown1 hgrow hat hlt
  go_wp2
  go_ret
  exact ⟨⟨g, cap, rfl, HO1.out⟩, HB1.out⟩

/-- The token at the head of block g: an operator of text op. -/
def OpTok (w : World) (g : Nat) (op : ByteArray) : Prop := ∀ i v, (tokVals 12 op)[i]? = some v → w.cell? ⟨g, i, none⟩ = some v
theorem OpTok.below {w w' : World} {g B : Nat} {op : ByteArray} (h : OpTok w g op) (hb : Below B w w') (hg : g < B) : OpTok w' g op := fun i v hv => (hb.cell (p := ⟨g, i, none⟩) hg).trans (h i v hv)
theorem OpTok.drewN {w : World} {g : Nat} {op : ByteArray} (h : OpTok w g op) (m : Nat) : OpTok (w.drewN m) g op := h

set_option maxRecDepth 100000 in
theorem pop0 (pb g cap : Nat) (w : World) (h : w.heap[pb]? = some (.cells #[.slice (some ⟨g, 0, none⟩) 2 cap, .int .i64 0] 81 (0, 0))) :
    Calls Tryf.prog 42 #[.pointer (some ⟨pb, 0, none⟩)] w fun e w' => e = .returned (.pointer (some ⟨g, 0, none⟩)) ∧ ∃ m, w' = (w.drewN m).setCell ⟨pb, 1, none⟩ (.int .i64 1) := by
  have l0 : w.cell? ⟨pb, 0, none⟩ = some (.slice (some ⟨g, 0, none⟩) 2 cap) := (cell_of_row _ _ 0 _ _ _ h).trans rfl
  have l1 : w.cell? ⟨pb, 1, none⟩ = some (.int .i64 0) := (cell_of_row _ _ 1 _ _ _ h).trans rfl
  have z1 : w.frozen? ⟨pb, 1, none⟩ = false := by simp [World.frozen?, h]
  clear h
  go_enter Tryf.func42, Tryf.ntmps42
  go_wp2_with fail
  go_quiet (fail)
  go_wp2
  go_ret
  exact ⟨rfl, _, rfl⟩
def PopEnd (pb g : Nat) (op : ByteArray) (w : World) (e : Ending) (w' : World) : Prop :=
  e = .returned (.tuple #[.pointer (some ⟨g, 0, none⟩), .nilIface]) ∧ w'.cell? ⟨pb, 1, none⟩ = some (.int .i64 1) ∧ OpTok w' g op ∧ Below pb w w' ∧ pb < w'.heap.size
set_option maxRecDepth 100000 in
theorem popExpect0 (pb g cap : Nat) (op : ByteArray) (w : World) (h : w.heap[pb]? = some (.cells #[.slice (some ⟨g, 0, none⟩) 2 cap, .int .i64 0] 81 (0, 0))) (ht : OpTok w g op) (hg : g < pb) :
    Calls Tryf.prog 34 #[.pointer (some ⟨pb, 0, none⟩), .int .i64 12] w (PopEnd pb g op w) := by
  have H := Lib.hid h
  have HT := Lib.hid ht
  have hlt : pb < w.heap.size := (Array.getElem?_eq_some_iff.1 h).1
  have l1 : w.cell? ⟨pb, 1, none⟩ = some (.int .i64 0) := (cell_of_row _ _ 1 _ _ _ h).trans rfl
  clear h ht
  go_enter Tryf.func34, Tryf.ntmps34
  go_wp2_with fail
  refine (pop0 pb g cap w H.out).mono ?_
  rintro e w' ⟨rfl, m, hw⟩
  have hB : Below pb w ((w.drewN m).setCell ⟨pb, 1, none⟩ (.int .i64 1)) := Below.setCell (p := ⟨pb, 1, none⟩) (drewN_below (Below.refl pb w) m) (Nat.le_refl pb) _
  have hc : ((w.drewN m).setCell ⟨pb, 1, none⟩ (.int .i64 1)).cell? ⟨pb, 1, none⟩ = some (.int .i64 1) := World.cell?_setCell_same (w.drewN m) ⟨pb, 1, none⟩ _ l1
  rw [← hw] at hB hc
  have hT := HT.out.below hB hg
  have k1 : w'.cell? ⟨g, 10, none⟩ = some (.int .i64 12) := hT 10 _ rfl
  have HE : Hid (PopEnd pb g op w (.returned (.tuple #[.pointer (some ⟨g, 0, none⟩), .nilIface])) w') := Lib.hid ⟨rfl, hc, hT, hB, Nat.lt_of_lt_of_le hlt hB.size⟩
  clear hw hB hc hT l1
  go_wp2
  go_ret2
  exact HE.out

end Go.Proofs.YtgdccdhkknbahaaFmt.fnParseObjectAssignmentOpCaseTable
