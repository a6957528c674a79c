/-
  The walk of FnFreeVariablesCloneIndependent.
-/
import Derived.Test.YtgmmbimbbkbjfaaFmtFvA
import Derived.Laws.Concat
import Derived.BigRegion
namespace Go.Proofs.YtgmmbimbbkbjfaaFmt.fnFreeVariablesCloneIndependent
open Go Go.RowKit

theorem strs_up {w w' : World} {B B2 : Nat} {v : Value} {zs : List ByteArray} (h : StrsAt w B v zs) (hb : Below B w w') (hB : B ≤ B2) : StrsAt w' B2 v zs :=
  strs_keep (X := w) h hB (fun _p _z hlt hp => (hb.cell hlt).trans hp) (Below.refl _ _)
theorem strs_row {B : Nat} {w' : World} {g cap k : Nat} {zs : List ByteArray} (ho : w'.ownsRow B 41 1 (.slice (some ⟨g, 0, none⟩) k cap) k (zs.map Value.string)) (hl : zs.length = k) (hk : k ≤ 1048576) : StrsAt w' w'.heap.size (.slice (some ⟨g, 0, none⟩) k cap) zs := by
  subst hl
  obtain ⟨c, fz, hb⟩ := Lib.ownsRow_kind ho g rfl
  refine .isAt g 0 cap zs (Array.getElem?_eq_some_iff.1 hb).1 (by unfold maxLen; omega) (fun i hi => ?_)
  rw [Nat.zero_add, ho.cellAt i (by simpa using hi)]
  simp [List.getElem?_eq_getElem hi]
theorem locVar : ∀ b w, (method 330 40 (.pointer (some ⟨b, 0, none⟩)) "Loc").run Tryf.prog w = .ok (64, .pointer (some ⟨b, 1, none⟩)) w := fun _ _ => by kernel_rfl
def nA (a : Option Addr) (n c : Nat) (x : Option Addr) : NBase := ⟨none, 0, 0, x, a, n, c, none, ⟨#[]⟩, 0, 0, 0, 0⟩

set_option maxHeartbeats 3200000 in
set_option maxRecDepth 100000 in
theorem walk_zf (id ctx : ByteArray) (a : Option Addr) (n c : Nat) (zs : List ByteArray) (w : World) (hi : StrsAt w w.heap.size (.slice a n c) zs) (hl : zs.length = n) (hn : n ≤ maxLen) (h1 : id.size ≤ maxLen) (h2 : ctx.size ≤ maxLen) (hz : ∀ i, i < n → (zs.getD i ByteArray.empty).size ≤ maxLen) (hn0 : n = 0) :
    Calls Tryf.prog 5 #[.string id, .slice a n c, .string ctx, .bool false] w fun e w' => e = .returned (.bool true) ∧ Below w.heap.size w w' := by
  have HI := Lib.hid hi
  have HL := Lib.hid hl
  have HZ := Lib.hid hz
  have HN := Lib.hid (show id.size ≤ maxLen ∧ ctx.size ≤ maxLen ∧ n ≤ maxLen from ⟨h1, h2, hn⟩)
  have HN0 := Lib.hid hn0
  clear hi hl hz hn h1 h2 hn0
  go_enter Tryf.func5, Tryf.ntmps5
  go_wp2_with fail
  refine (bytesAt id ctx false a n c zs w HI.out HL.out HN.out.2.2 HN.out.1 HN.out.2.1 HZ.out).mono ?_
  rintro e w' ⟨⟨b, rfl, hb⟩, rfl⟩
  cases b with
  | false =>
    go_wp2
    go_ret
    exact ⟨rfl, Below.refl _ _⟩
  | true =>
  obtain ⟨hsum, hzz⟩ := hb rfl
  have HZZ := Lib.hid hzz
  clear hb hzz HZ HN
  have q1 : decide (1048576 < id.size) = false := decide_eq_false (by omega)
  have q2 : decide (1048576 < ctx.size) = false := decide_eq_false (by omega)
  go_wp2_with fail
  refine (idsBytes a n c zs w HI.out HL.out (by omega) HZZ.out).mono ?_
  rintro e w' ⟨⟨S, rfl, hS, _⟩, rfl⟩
  by_cases hS3 : 1048576 < id.size + ctx.size + S
  · go_wp2
    go_ret
    exact ⟨rfl, Below.refl _ _⟩
  go_wp2_with fail
  refine (toIds a n c zs w HI.out HL.out (by omega)).mono ?_
  rintro e w1 ⟨⟨a', c', rfl, hs1, hno⟩, hb1⟩
  have HS1 := Lib.hid hs1
  have HB1 := Lib.hid hb1
  have HNO := Lib.hid hno
  have hgt := hb1.size
  clear hs1 hno hb1
  go_wp2_with fail
  refine (newLoc w1).mono ?_
  rintro e w2 ⟨⟨fb, rfl⟩, hb2⟩
  have hgt2 := hb2.size
  have HB2 := Lib.hid (HB1.out.trans (hb2.mono hgt))
  have HS2 := Lib.hid (strs_up HS1.out hb2 hb2.size)
  clear hb2 HS1 HB1
  go_wp2_with fail
  generalize hW3 : w2.alloc (.cells #[.string id, .slice none 0 0, .pointer none, .slice (some ⟨fb, 0, none⟩) 0 0, .pointer none, .string ⟨#[]⟩, .int .i64 0, .int .i64 0, .int .i64 0, .int .i64 0] 43 (0, 0)) = W3
  have r3 : W3.heap[w2.heap.size]? = some (.cells (varCells id (nA (some ⟨fb, 0, none⟩) 0 0 none)) 43 (0, 0)) := by rw [← hW3]; exact get_new rfl
  have b3 : Below w2.heap.size w2 W3 := by rw [← hW3]; exact Below.alloc (Below.refl _ _) (Nat.le_refl _) _
  have s3 : W3.heap.size = w2.heap.size + 1 := by rw [← hW3]; simp
  clear hW3
  refine (nbSetFree w2.heap.size 1 a' n c' _ W3 ((cell_of_row _ _ 3 _ _ _ r3).trans rfl) (frozen_of r3 3)).mono ?_
  rintro e W4 ⟨rfl, hW4⟩
  have r4 : W4.heap[w2.heap.size]? = some (.cells (varCells id (nA a' n c' none)) 43 (0, 0)) := by rw [← hW4]; exact (Lib.heap_setCell_same r3 _).trans (by simp [varCells, nA])
  have b4 : Below w2.heap.size w2 W4 := by rw [← hW4]; exact b3.setCell (Nat.le_refl _) _
  have s4 : W4.heap.size = w2.heap.size + 1 := by rw [← hW4, ← s3]; simp [World.setCell]
  clear hW4 r3 b3 s3
  have ok6 : NBok W4 (nA a' n c' none) zs none := ⟨strs_up HS2.out b4 (by omega), HL.out, by show n ≤ 1048576; omega, rfl⟩
  have HR6 := Lib.hid r4
  have HB6 := Lib.hid b4
  have HS6 := Lib.hid s4
  have HOK6 := Lib.hid ok6
  clear r4 b4 s4 ok6
  go_wp2_with fail
  refine (Clone_var w2.heap.size id _ zs _ W4 HR6.out HOK6.out).mono ?_
  rintro e W7 ⟨nb, n', rfl, hnb, hr7, hn7, hb7⟩
  obtain ⟨he, ⟨g, cap, hv, hg, ho⟩, hx⟩ := hn7
  rw [he] at hr7
  rw [HL.out] at hv ho
  rw [hv] at ho
  have mf : ∀ w, _ = _ := fun w => nodeVar.free nb w
  have mc : ∀ w, _ = _ := fun w => nodeVar.ctx nb w
  have ml : ∀ w, _ = _ := fun w => locVar nb w
  have a3 : W7.cell? ⟨nb, 3, none⟩ = some (.slice (some ⟨g, 0, none⟩) n cap) := ((cell_of_row _ _ 3 _ _ _ hr7).trans rfl).trans (congrArg some hv)
  have HR7 := Lib.hid hr7
  have HO7 := Lib.hid ho
  have HB7 := Lib.hid hb7
  have HV7 := Lib.hid hv
  have l4 : W7.cell? ⟨nb, 4, none⟩ = some (.pointer none) := (cell_of_row _ _ 4 _ _ _ hr7).trans rfl
  have l5 : W7.cell? ⟨nb, 5, none⟩ = some (.string ⟨#[]⟩) := (cell_of_row _ _ 5 _ _ _ hr7).trans rfl
  have l6 : W7.cell? ⟨nb, 6, none⟩ = some (.int .i64 0) := (cell_of_row _ _ 6 _ _ _ hr7).trans rfl
  have l7 : W7.cell? ⟨nb, 7, none⟩ = some (.int .i64 0) := (cell_of_row _ _ 7 _ _ _ hr7).trans rfl
  have l8 : W7.cell? ⟨nb, 8, none⟩ = some (.int .i64 0) := (cell_of_row _ _ 8 _ _ _ hr7).trans rfl
  have l9 : W7.cell? ⟨nb, 9, none⟩ = some (.int .i64 0) := (cell_of_row _ _ 9 _ _ _ hr7).trans rfl
  have ngn : nb ≠ g := fun e => by
    obtain ⟨cg, fg, hcg⟩ := Lib.ownsRow_kind ho g rfl
    rw [← e, hr7] at hcg
    cases hcg
  have c2 : W7.cell? ⟨nb, 2, none⟩ = some (.pointer none) := ((cell_of_row _ _ 2 _ _ _ hr7).trans rfl).trans (congrArg (fun c => some (Value.pointer c)) hx)
  clear hx
  clear hr7 ho hb7 hv he
  have qs : ∀ (w : World) (a : Option Addr) (n c n' c' : Nat), (binOp .eql 35 (.slice a n c) (.slice none n' c')).run Tryf.prog w = .ok (.bool a.isNone) w := fun w a n c n' c' => Lib.run_eql_slice_nil w _ _ a n c n' c' Tryf.underlying35
  go_wp2_with fail
  refine (nbFree nb 1 _ W7 a3).mono ?_
  rintro e w8 ⟨rfl, rfl⟩
  go_wp2_with fail
  have bw7 : Below w.heap.size w W7 := (HB2.out.trans (HB6.out.mono (by omega))).trans (HB7.out.mono (by have := HB6.out.size; omega))
  have HI7 := Lib.hid (strs_up HI.out bw7 (Nat.le_refl _))
  have HG7 := Lib.hid (strs_row HO7.out HL.out (by omega))
  clear bw7
  refine (idsSame _ _ n cap c _ _ zs W7 HG7.out HI7.out HL.out (by omega)).mono ?_
  rintro e w8 ⟨rfl, m1, rfl⟩
  go_wp2_with fail
  have v7 : W7.heap[w2.heap.size]? = _ := (HB7.out.block _ (Array.getElem?_eq_some_iff.1 HR6.out).1).trans HR6.out
  have p0 : W7.cell? ⟨w2.heap.size, 0, none⟩ = some (.string id) := (cell_of_row _ _ 0 _ _ _ v7).trans rfl
  have p2 : W7.cell? ⟨w2.heap.size, 2, none⟩ = some (.pointer none) := (cell_of_row _ _ 2 _ _ _ v7).trans rfl
  have p3 : W7.cell? ⟨w2.heap.size, 3, none⟩ = some (.slice a' n c') := (cell_of_row _ _ 3 _ _ _ v7).trans rfl
  have HV7' := Lib.hid v7
  have HI8 := Lib.hid (strs_up HS2.out (HB6.out.trans (HB7.out.mono HB6.out.size)) (Nat.le_refl _))
  clear v7
  refine (nbFree w2.heap.size 1 _ (W7.drewN m1) p3).mono ?_
  rintro e w9 ⟨rfl, rfl⟩
  go_wp2_with fail
  have hn1 : ¬ 0 < n := by have := HN0.out; omega
  have hn2 : ¬ (0 : Int) < (n : Int) := by omega
  refine (idsMatch a' a n c' c _ _ zs _ (HI8.out.drewN m1) (HI7.out.drewN m1) HL.out (by omega) HNO.out).mono ?_
  rintro e w9 ⟨rfl, m2, rfl⟩
  go_wp2_with fail
  have HB8 := Lib.hid ((HB2.out.trans (HB6.out.mono (by omega))).trans (HB7.out.mono (by have := HB6.out.size; omega)))
  refine (nbContext nb 1 (.pointer none) (W7.drewN _) c2).mono ?_
  rintro e w9 ⟨rfl, rfl⟩
  go_wp2_with fail
  refine (nbLoc nb 1 _).mono ?_
  rintro e w10 ⟨rfl, rfl⟩
  go_wp2_with fail
  try go_quiet (fail)
  go_wp2
  go_ret
  exact ⟨rfl, drewN_below HB8.out _⟩

set_option maxHeartbeats 3200000 in
set_option maxRecDepth 100000 in
theorem walk_zt (id ctx : ByteArray) (a : Option Addr) (n c : Nat) (zs : List ByteArray) (w : World) (hi : StrsAt w w.heap.size (.slice a n c) zs) (hl : zs.length = n) (hn : n ≤ maxLen) (h1 : id.size ≤ maxLen) (h2 : ctx.size ≤ maxLen) (hz : ∀ i, i < n → (zs.getD i ByteArray.empty).size ≤ maxLen) (hn0 : n = 0) :
    Calls Tryf.prog 5 #[.string id, .slice a n c, .string ctx, .bool true] w fun e w' => e = .returned (.bool true) ∧ Below w.heap.size w w' := by
  have HI := Lib.hid hi
  have HL := Lib.hid hl
  have HZ := Lib.hid hz
  have HN := Lib.hid (show id.size ≤ maxLen ∧ ctx.size ≤ maxLen ∧ n ≤ maxLen from ⟨h1, h2, hn⟩)
  have HN0 := Lib.hid hn0
  clear hi hl hz hn h1 h2 hn0
  go_enter Tryf.func5, Tryf.ntmps5
  go_wp2_with fail
  refine (bytesAt id ctx true a n c zs w HI.out HL.out HN.out.2.2 HN.out.1 HN.out.2.1 HZ.out).mono ?_
  rintro e w' ⟨⟨b, rfl, hb⟩, rfl⟩
  cases b with
  | false =>
    go_wp2
    go_ret
    exact ⟨rfl, Below.refl _ _⟩
  | true =>
  obtain ⟨hsum, hzz⟩ := hb rfl
  have HZZ := Lib.hid hzz
  clear hb hzz HZ HN
  have q1 : decide (1048576 < id.size) = false := decide_eq_false (by omega)
  have q2 : decide (1048576 < ctx.size) = false := decide_eq_false (by omega)
  go_wp2_with fail
  refine (idsBytes a n c zs w HI.out HL.out (by omega) HZZ.out).mono ?_
  rintro e w' ⟨⟨S, rfl, hS, _⟩, rfl⟩
  by_cases hS3 : 1048576 < id.size + ctx.size + S
  · go_wp2
    go_ret
    exact ⟨rfl, Below.refl _ _⟩
  go_wp2_with fail
  refine (toIds a n c zs w HI.out HL.out (by omega)).mono ?_
  rintro e w1 ⟨⟨a', c', rfl, hs1, hno⟩, hb1⟩
  have HS1 := Lib.hid hs1
  have HB1 := Lib.hid hb1
  have HNO := Lib.hid hno
  have hgt := hb1.size
  clear hs1 hno hb1
  go_wp2_with fail
  refine (newLoc w1).mono ?_
  rintro e w2 ⟨⟨fb, rfl⟩, hb2⟩
  have hgt2 := hb2.size
  have HB2 := Lib.hid (HB1.out.trans (hb2.mono hgt))
  have HS2 := Lib.hid (strs_up HS1.out hb2 hb2.size)
  clear hb2 HS1 HB1
  go_wp2_with fail
  generalize hW3 : w2.alloc (.cells #[.string id, .slice none 0 0, .pointer none, .slice (some ⟨fb, 0, none⟩) 0 0, .pointer none, .string ⟨#[]⟩, .int .i64 0, .int .i64 0, .int .i64 0, .int .i64 0] 43 (0, 0)) = W3
  have r3 : W3.heap[w2.heap.size]? = some (.cells (varCells id (nA (some ⟨fb, 0, none⟩) 0 0 none)) 43 (0, 0)) := by rw [← hW3]; exact get_new rfl
  have b3 : Below w2.heap.size w2 W3 := by rw [← hW3]; exact Below.alloc (Below.refl _ _) (Nat.le_refl _) _
  have s3 : W3.heap.size = w2.heap.size + 1 := by rw [← hW3]; simp
  clear hW3
  refine (nbSetFree w2.heap.size 1 a' n c' _ W3 ((cell_of_row _ _ 3 _ _ _ r3).trans rfl) (frozen_of r3 3)).mono ?_
  rintro e W4 ⟨rfl, hW4⟩
  have r4 : W4.heap[w2.heap.size]? = some (.cells (varCells id (nA a' n c' none)) 43 (0, 0)) := by rw [← hW4]; exact (Lib.heap_setCell_same r3 _).trans (by simp [varCells, nA])
  have b4 : Below w2.heap.size w2 W4 := by rw [← hW4]; exact b3.setCell (Nat.le_refl _) _
  have s4 : W4.heap.size = w2.heap.size + 1 := by rw [← hW4, ← s3]; simp [World.setCell]
  clear hW4 r3 b3 s3
  have HR4 := Lib.hid r4
  have HB4 := Lib.hid b4
  have HSZ4 := Lib.hid s4
  clear r4 b4 s4
  go_wp2_with fail
  generalize hW5 : W4.alloc (.cells #[.string ctx] 9 (0, 0)) = W5
  have s4 := HSZ4.out
  have r5 : W5.heap[w2.heap.size]? = some (.cells (varCells id (nA a' n c' none)) 43 (0, 0)) := by rw [← hW5]; exact (get_old (by omega)).trans HR4.out
  have c5 : W5.heap[W4.heap.size]? = some (.cells #[.string ctx] 9 (0, 0)) := by rw [← hW5]; exact get_new rfl
  have b5 : Below w2.heap.size w2 W5 := by rw [← hW5]; exact HB4.out.alloc (by omega) _
  have s5 : W5.heap.size = W4.heap.size + 1 := by rw [← hW5]; simp
  clear hW5
  refine (nbSetContext w2.heap.size 1 (some ⟨W4.heap.size, 0, none⟩) _ W5 ((cell_of_row _ _ 2 _ _ _ r5).trans rfl) (frozen_of r5 2)).mono ?_
  rintro e W6 ⟨rfl, hW6⟩
  have r6 : W6.heap[w2.heap.size]? = some (.cells (varCells id (nA a' n c' (some ⟨W4.heap.size, 0, none⟩))) 43 (0, 0)) := by rw [← hW6]; exact (Lib.heap_setCell_same r5 _).trans (by simp [varCells, nA])
  have b6 : Below w2.heap.size w2 W6 := by rw [← hW6]; exact b5.setCell (Nat.le_refl _) _
  have c6 : W6.heap[W4.heap.size]? = some (.cells #[.string ctx] 9 (0, 0)) := by rw [← hW6]; exact (Below.heap_setCell _ _ _ _ (show W4.heap.size ≠ w2.heap.size by omega)).trans c5
  have s6 : W6.heap.size = W4.heap.size + 1 := by rw [← hW6, ← s5]; simp [World.setCell]
  have ok6 : NBok W6 (nA a' n c' (some ⟨W4.heap.size, 0, none⟩)) zs (some ctx) := ⟨strs_up HS2.out b6 (by omega), HL.out, by show n ≤ 1048576; omega, ⟨_, rfl, (cell_of_row _ _ 0 _ _ _ c6).trans rfl⟩⟩
  have HR6 := Lib.hid r6
  have HB6 := Lib.hid b6
  have HC6 := Lib.hid c6
  have HS6 := Lib.hid s6
  have HOK6 := Lib.hid ok6
  clear hW6 r6 b6 c6 s6 ok6 r5 c5 b5 s5 s4
  go_wp2_with fail
  refine (Clone_var w2.heap.size id _ zs _ W6 HR6.out HOK6.out).mono ?_
  rintro e W7 ⟨nb, n', rfl, hnb, hr7, hn7, hb7⟩
  obtain ⟨he, ⟨g, cap, hv, hg, ho⟩, hx⟩ := hn7
  rw [he] at hr7
  rw [HL.out] at hv ho
  rw [hv] at ho
  have mf : ∀ w, _ = _ := fun w => nodeVar.free nb w
  have mc : ∀ w, _ = _ := fun w => nodeVar.ctx nb w
  have ml : ∀ w, _ = _ := fun w => locVar nb w
  have a3 : W7.cell? ⟨nb, 3, none⟩ = some (.slice (some ⟨g, 0, none⟩) n cap) := ((cell_of_row _ _ 3 _ _ _ hr7).trans rfl).trans (congrArg some hv)
  have HR7 := Lib.hid hr7
  have HO7 := Lib.hid ho
  have HB7 := Lib.hid hb7
  have HV7 := Lib.hid hv
  have l4 : W7.cell? ⟨nb, 4, none⟩ = some (.pointer none) := (cell_of_row _ _ 4 _ _ _ hr7).trans rfl
  have l5 : W7.cell? ⟨nb, 5, none⟩ = some (.string ⟨#[]⟩) := (cell_of_row _ _ 5 _ _ _ hr7).trans rfl
  have l6 : W7.cell? ⟨nb, 6, none⟩ = some (.int .i64 0) := (cell_of_row _ _ 6 _ _ _ hr7).trans rfl
  have l7 : W7.cell? ⟨nb, 7, none⟩ = some (.int .i64 0) := (cell_of_row _ _ 7 _ _ _ hr7).trans rfl
  have l8 : W7.cell? ⟨nb, 8, none⟩ = some (.int .i64 0) := (cell_of_row _ _ 8 _ _ _ hr7).trans rfl
  have l9 : W7.cell? ⟨nb, 9, none⟩ = some (.int .i64 0) := (cell_of_row _ _ 9 _ _ _ hr7).trans rfl
  have ngn : nb ≠ g := fun e => by
    obtain ⟨cg, fg, hcg⟩ := Lib.ownsRow_kind ho g rfl
    rw [← e, hr7] at hcg
    cases hcg
  obtain ⟨gx, hgxB, hgx, hgr⟩ := hx
  have c2 : W7.cell? ⟨nb, 2, none⟩ = some (.pointer (some ⟨gx, 0, none⟩)) := ((cell_of_row _ _ 2 _ _ _ hr7).trans rfl).trans (congrArg (fun c => some (Value.pointer c)) hgx)
  have e0 : W7.cell? ⟨gx, 0, none⟩ = some (.string ctx) := (cell_of_row _ _ 0 _ _ _ hgr).trans rfl
  have hsr : W7.heap[W4.heap.size]? = some (.cells #[.string ctx] 9 (0, 0)) := (hb7.block _ (Array.getElem?_eq_some_iff.1 HC6.out).1).trans HC6.out
  have e1 : W7.cell? ⟨W4.heap.size, 0, none⟩ = some (.string ctx) := (cell_of_row _ _ 0 _ _ _ hsr).trans rfl
  have ngx : gx ≠ g := fun e => by
    obtain ⟨cg, fg, hcg⟩ := Lib.ownsRow_kind ho g rfl
    rw [← e, hgr] at hcg
    cases hcg
  have nx4 : gx ≠ W4.heap.size := by have := HS6.out; omega
  have n4g : W4.heap.size ≠ g := by have := HS6.out; omega
  have HGR := Lib.hid hgr
  have HSR := Lib.hid hsr
  clear hgx hgr hsr
  clear hr7 ho hb7 hv he
  have qs : ∀ (w : World) (a : Option Addr) (n c n' c' : Nat), (binOp .eql 35 (.slice a n c) (.slice none n' c')).run Tryf.prog w = .ok (.bool a.isNone) w := fun w a n c n' c' => Lib.run_eql_slice_nil w _ _ a n c n' c' Tryf.underlying35
  go_wp2_with fail
  refine (nbFree nb 1 _ W7 a3).mono ?_
  rintro e w8 ⟨rfl, rfl⟩
  go_wp2_with fail
  have bw7 : Below w.heap.size w W7 := (HB2.out.trans (HB6.out.mono (by omega))).trans (HB7.out.mono (by have := HB6.out.size; omega))
  have HI7 := Lib.hid (strs_up HI.out bw7 (Nat.le_refl _))
  have HG7 := Lib.hid (strs_row HO7.out HL.out (by omega))
  clear bw7
  refine (idsSame _ _ n cap c _ _ zs W7 HG7.out HI7.out HL.out (by omega)).mono ?_
  rintro e w8 ⟨rfl, m1, rfl⟩
  go_wp2_with fail
  have v7 : W7.heap[w2.heap.size]? = _ := (HB7.out.block _ (Array.getElem?_eq_some_iff.1 HR6.out).1).trans HR6.out
  have p0 : W7.cell? ⟨w2.heap.size, 0, none⟩ = some (.string id) := (cell_of_row _ _ 0 _ _ _ v7).trans rfl
  have p2 : W7.cell? ⟨w2.heap.size, 2, none⟩ = some (.pointer (some ⟨W4.heap.size, 0, none⟩)) := (cell_of_row _ _ 2 _ _ _ v7).trans rfl
  have p3 : W7.cell? ⟨w2.heap.size, 3, none⟩ = some (.slice a' n c') := (cell_of_row _ _ 3 _ _ _ v7).trans rfl
  have HV7' := Lib.hid v7
  have HI8 := Lib.hid (strs_up HS2.out (HB6.out.trans (HB7.out.mono HB6.out.size)) (Nat.le_refl _))
  clear v7
  refine (nbFree w2.heap.size 1 _ (W7.drewN m1) p3).mono ?_
  rintro e w9 ⟨rfl, rfl⟩
  go_wp2_with fail
  have hn1 : ¬ 0 < n := by have := HN0.out; omega
  have hn2 : ¬ (0 : Int) < (n : Int) := by omega
  refine (idsMatch a' a n c' c _ _ zs _ (HI8.out.drewN m1) (HI7.out.drewN m1) HL.out (by omega) HNO.out).mono ?_
  rintro e w9 ⟨rfl, m2, rfl⟩
  go_wp2_with fail
  have HB8 := Lib.hid ((HB2.out.trans (HB6.out.mono (by omega))).trans (HB7.out.mono (by have := HB6.out.size; omega)))
  have hgr := HGR.out
  have hsr := HSR.out
  refine (nbContext nb 1 (.pointer (some ⟨gx, 0, none⟩)) (W7.drewN _) c2).mono ?_
  rintro e w9 ⟨rfl, rfl⟩
  have pe : ∀ m, (binOp .eql 33 (.pointer (some ⟨gx, 0, none⟩)) (.pointer (some ⟨W4.heap.size, 0, none⟩))).run Tryf.prog (W7.drewN m) = .ok (.bool false) (W7.drewN m) := eq_heads (n := 1) Tryf.underlying33 (by kernel_rfl) (by decide) nx4 hgr hsr
  have pe0 : (binOp .eql 33 (.pointer (some ⟨gx, 0, none⟩)) (.pointer (some ⟨W4.heap.size, 0, none⟩))).run Tryf.prog W7 = .ok (.bool false) W7 := pe 0
  clear hgr hsr
  go_wp2_with fail
  refine (nbLoc nb 1 _).mono ?_
  rintro e w10 ⟨rfl, rfl⟩
  go_wp2_with fail
  try go_quiet (fail)
  go_wp2
  go_ret
  exact ⟨rfl, drewN_below HB8.out _⟩

set_option maxHeartbeats 3200000 in
set_option maxRecDepth 100000 in
theorem walk_pf (id ctx : ByteArray) (a : Option Addr) (n c : Nat) (zs : List ByteArray) (w : World) (hi : StrsAt w w.heap.size (.slice a n c) zs) (hl : zs.length = n) (hn : n ≤ maxLen) (h1 : id.size ≤ maxLen) (h2 : ctx.size ≤ maxLen) (hz : ∀ i, i < n → (zs.getD i ByteArray.empty).size ≤ maxLen) (hn0 : 0 < n) :
    Calls Tryf.prog 5 #[.string id, .slice a n c, .string ctx, .bool false] w fun e w' => e = .returned (.bool true) ∧ Below w.heap.size w w' := by
  have HI := Lib.hid hi
  have HL := Lib.hid hl
  have HZ := Lib.hid hz
  have HN := Lib.hid (show id.size ≤ maxLen ∧ ctx.size ≤ maxLen ∧ n ≤ maxLen from ⟨h1, h2, hn⟩)
  have HN0 := Lib.hid hn0
  clear hi hl hz hn h1 h2 hn0
  go_enter Tryf.func5, Tryf.ntmps5
  go_wp2_with fail
  refine (bytesAt id ctx false a n c zs w HI.out HL.out HN.out.2.2 HN.out.1 HN.out.2.1 HZ.out).mono ?_
  rintro e w' ⟨⟨b, rfl, hb⟩, rfl⟩
  cases b with
  | false =>
    go_wp2
    go_ret
    exact ⟨rfl, Below.refl _ _⟩
  | true =>
  obtain ⟨hsum, hzz⟩ := hb rfl
  have HZZ := Lib.hid hzz
  clear hb hzz HZ HN
  have q1 : decide (1048576 < id.size) = false := decide_eq_false (by omega)
  have q2 : decide (1048576 < ctx.size) = false := decide_eq_false (by omega)
  go_wp2_with fail
  refine (idsBytes a n c zs w HI.out HL.out (by omega) HZZ.out).mono ?_
  rintro e w' ⟨⟨S, rfl, hS, _⟩, rfl⟩
  by_cases hS3 : 1048576 < id.size + ctx.size + S
  · go_wp2
    go_ret
    exact ⟨rfl, Below.refl _ _⟩
  go_wp2_with fail
  refine (toIds a n c zs w HI.out HL.out (by omega)).mono ?_
  rintro e w1 ⟨⟨a', c', rfl, hs1, hno⟩, hb1⟩
  have HS1 := Lib.hid hs1
  have HB1 := Lib.hid hb1
  have HNO := Lib.hid hno
  have hgt := hb1.size
  clear hs1 hno hb1
  go_wp2_with fail
  refine (newLoc w1).mono ?_
  rintro e w2 ⟨⟨fb, rfl⟩, hb2⟩
  have hgt2 := hb2.size
  have HB2 := Lib.hid (HB1.out.trans (hb2.mono hgt))
  have HS2 := Lib.hid (strs_up HS1.out hb2 hb2.size)
  clear hb2 HS1 HB1
  go_wp2_with fail
  generalize hW3 : w2.alloc (.cells #[.string id, .slice none 0 0, .pointer none, .slice (some ⟨fb, 0, none⟩) 0 0, .pointer none, .string ⟨#[]⟩, .int .i64 0, .int .i64 0, .int .i64 0, .int .i64 0] 43 (0, 0)) = W3
  have r3 : W3.heap[w2.heap.size]? = some (.cells (varCells id (nA (some ⟨fb, 0, none⟩) 0 0 none)) 43 (0, 0)) := by rw [← hW3]; exact get_new rfl
  have b3 : Below w2.heap.size w2 W3 := by rw [← hW3]; exact Below.alloc (Below.refl _ _) (Nat.le_refl _) _
  have s3 : W3.heap.size = w2.heap.size + 1 := by rw [← hW3]; simp
  clear hW3
  refine (nbSetFree w2.heap.size 1 a' n c' _ W3 ((cell_of_row _ _ 3 _ _ _ r3).trans rfl) (frozen_of r3 3)).mono ?_
  rintro e W4 ⟨rfl, hW4⟩
  have r4 : W4.heap[w2.heap.size]? = some (.cells (varCells id (nA a' n c' none)) 43 (0, 0)) := by rw [← hW4]; exact (Lib.heap_setCell_same r3 _).trans (by simp [varCells, nA])
  have b4 : Below w2.heap.size w2 W4 := by rw [← hW4]; exact b3.setCell (Nat.le_refl _) _
  have s4 : W4.heap.size = w2.heap.size + 1 := by rw [← hW4, ← s3]; simp [World.setCell]
  clear hW4 r3 b3 s3
  have ok6 : NBok W4 (nA a' n c' none) zs none := ⟨strs_up HS2.out b4 (by omega), HL.out, by show n ≤ 1048576; omega, rfl⟩
  have HR6 := Lib.hid r4
  have HB6 := Lib.hid b4
  have HS6 := Lib.hid s4
  have HOK6 := Lib.hid ok6
  clear r4 b4 s4 ok6
  go_wp2_with fail
  refine (Clone_var w2.heap.size id _ zs _ W4 HR6.out HOK6.out).mono ?_
  rintro e W7 ⟨nb, n', rfl, hnb, hr7, hn7, hb7⟩
  obtain ⟨he, ⟨g, cap, hv, hg, ho⟩, hx⟩ := hn7
  rw [he] at hr7
  rw [HL.out] at hv ho
  rw [hv] at ho
  have mf : ∀ w, _ = _ := fun w => nodeVar.free nb w
  have mc : ∀ w, _ = _ := fun w => nodeVar.ctx nb w
  have ml : ∀ w, _ = _ := fun w => locVar nb w
  have a3 : W7.cell? ⟨nb, 3, none⟩ = some (.slice (some ⟨g, 0, none⟩) n cap) := ((cell_of_row _ _ 3 _ _ _ hr7).trans rfl).trans (congrArg some hv)
  have HR7 := Lib.hid hr7
  have HO7 := Lib.hid ho
  have HB7 := Lib.hid hb7
  have HV7 := Lib.hid hv
  have l4 : W7.cell? ⟨nb, 4, none⟩ = some (.pointer none) := (cell_of_row _ _ 4 _ _ _ hr7).trans rfl
  have l5 : W7.cell? ⟨nb, 5, none⟩ = some (.string ⟨#[]⟩) := (cell_of_row _ _ 5 _ _ _ hr7).trans rfl
  have l6 : W7.cell? ⟨nb, 6, none⟩ = some (.int .i64 0) := (cell_of_row _ _ 6 _ _ _ hr7).trans rfl
  have l7 : W7.cell? ⟨nb, 7, none⟩ = some (.int .i64 0) := (cell_of_row _ _ 7 _ _ _ hr7).trans rfl
  have l8 : W7.cell? ⟨nb, 8, none⟩ = some (.int .i64 0) := (cell_of_row _ _ 8 _ _ _ hr7).trans rfl
  have l9 : W7.cell? ⟨nb, 9, none⟩ = some (.int .i64 0) := (cell_of_row _ _ 9 _ _ _ hr7).trans rfl
  have ngn : nb ≠ g := fun e => by
    obtain ⟨cg, fg, hcg⟩ := Lib.ownsRow_kind ho g rfl
    rw [← e, hr7] at hcg
    cases hcg
  have c2 : W7.cell? ⟨nb, 2, none⟩ = some (.pointer none) := ((cell_of_row _ _ 2 _ _ _ hr7).trans rfl).trans (congrArg (fun c => some (Value.pointer c)) hx)
  clear hx
  clear hr7 ho hb7 hv he
  have qs : ∀ (w : World) (a : Option Addr) (n c n' c' : Nat), (binOp .eql 35 (.slice a n c) (.slice none n' c')).run Tryf.prog w = .ok (.bool a.isNone) w := fun w a n c n' c' => Lib.run_eql_slice_nil w _ _ a n c n' c' Tryf.underlying35
  go_wp2_with fail
  refine (nbFree nb 1 _ W7 a3).mono ?_
  rintro e w8 ⟨rfl, rfl⟩
  go_wp2_with fail
  have bw7 : Below w.heap.size w W7 := (HB2.out.trans (HB6.out.mono (by omega))).trans (HB7.out.mono (by have := HB6.out.size; omega))
  have HI7 := Lib.hid (strs_up HI.out bw7 (Nat.le_refl _))
  have HG7 := Lib.hid (strs_row HO7.out HL.out (by omega))
  clear bw7
  refine (idsSame _ _ n cap c _ _ zs W7 HG7.out HI7.out HL.out (by omega)).mono ?_
  rintro e w8 ⟨rfl, m1, rfl⟩
  go_wp2_with fail
  have v7 : W7.heap[w2.heap.size]? = _ := (HB7.out.block _ (Array.getElem?_eq_some_iff.1 HR6.out).1).trans HR6.out
  have p0 : W7.cell? ⟨w2.heap.size, 0, none⟩ = some (.string id) := (cell_of_row _ _ 0 _ _ _ v7).trans rfl
  have p2 : W7.cell? ⟨w2.heap.size, 2, none⟩ = some (.pointer none) := (cell_of_row _ _ 2 _ _ _ v7).trans rfl
  have p3 : W7.cell? ⟨w2.heap.size, 3, none⟩ = some (.slice a' n c') := (cell_of_row _ _ 3 _ _ _ v7).trans rfl
  have HV7' := Lib.hid v7
  have HI8 := Lib.hid (strs_up HS2.out (HB6.out.trans (HB7.out.mono HB6.out.size)) (Nat.le_refl _))
  clear v7
  refine (nbFree w2.heap.size 1 _ (W7.drewN m1) p3).mono ?_
  rintro e w9 ⟨rfl, rfl⟩
  go_wp2_with fail
  have hz0 := HZZ.out 0 HN0.out
  obtain ⟨z, hzd⟩ : ∃ z, zs.getD 0 ByteArray.empty = z := ⟨_, rfl⟩
  rw [hzd] at hz0
  have gz : W7.cell? ⟨g, 0, none⟩ = some (.string z) := by
    have h0 : 0 < zs.length := by have := HL.out; have := HN0.out; omega
    rw [HO7.out.cellAt 0 (by have := HN0.out; omega), ← hzd]
    simp [List.getElem?_eq_getElem h0]
  have gf : W7.frozen? ⟨g, 0, none⟩ = false := HO7.out.frozenAt 0
  have i6 : (0 : Int) < (n : Int) := by have := HN0.out; omega
  refine (idsMatch a' a n c' c _ _ zs _ (HI8.out.drewN m1) (HI7.out.drewN m1) HL.out (by omega) HNO.out).mono ?_
  rintro e w9 ⟨rfl, m2, rfl⟩
  go_wp2_with fail
  obtain ⟨b, off, rfl, hbl, hcc⟩ := HI7.out.cell (k := 0) (by have := HL.out; have := HN0.out; omega)
  have hc0 : W7.cell? ⟨b, off, none⟩ = some (.string z) := by rw [← hzd]; exact hcc 0 (by have := HL.out; have := HN0.out; omega)
  obtain ⟨b', off', rfl, hbl', hcc'⟩ := HI8.out.cell (k := 0) (by have := HL.out; have := HN0.out; omega)
  have hc0' : W7.cell? ⟨b', off', none⟩ = some (.string z) := by rw [← hzd]; exact hcc' 0 (by have := HL.out; have := HN0.out; omega)
  clear hcc hcc'
  have hg6 : w2.heap.size < g := by have := HB6.out.size; have := HS6.out; omega
  have KB : ∀ i, i ≠ g → ((W7.drewN (m1 + m2)).setCell ⟨g, 0, none⟩ (.string (z ++ ⟨#[39]⟩))).heap[i]? = W7.heap[i]? := fun i hi => Below.heap_setCell _ _ _ _ (show i ≠ g from hi)
  have K8 : ∀ q v, q.block ≠ g → W7.cell? q = some v → ((W7.drewN (m1 + m2)).setCell ⟨g, 0, none⟩ (.string (z ++ ⟨#[39]⟩))).cell? q = some v := fun q v hq hv => (World.cell?_of_block (KB _ hq)).trans hv
  have p0 := K8 _ _ (show w2.heap.size ≠ g by omega) p0
  have p2 := K8 _ _ (show w2.heap.size ≠ g by omega) p2
  have p3 := K8 _ _ (show w2.heap.size ≠ g by omega) p3
  have hd0 := K8 _ _ (show b ≠ g by omega) hc0
  have hd0' := K8 _ _ (show b' ≠ g by omega) hc0'
  have c2 := K8 _ _ ngn c2
  have l4 := K8 _ _ ngn l4
  have l5 := K8 _ _ ngn l5
  have l6 := K8 _ _ ngn l6
  have l7 := K8 _ _ ngn l7
  have l8 := K8 _ _ ngn l8
  have l9 := K8 _ _ ngn l9
  have bw8 : Below w.heap.size w ((W7.drewN (m1 + m2)).setCell ⟨g, 0, none⟩ (.string (z ++ ⟨#[39]⟩))) := Below.setCell (drewN_below ((HB2.out.trans (HB6.out.mono (by omega))).trans (HB7.out.mono (by have := HB6.out.size; omega))) _) (by show w.heap.size ≤ g; omega) _
  have HB8 := Lib.hid bw8
  clear K8 KB bw8
  generalize (W7.drewN (m1 + m2)).setCell ⟨g, 0, none⟩ (.string (z ++ ⟨#[39]⟩)) = W8 at p0 p2 p3 hd0 hd0' c2 l4 l5 l6 l7 l8 l9  HB8 ⊢
  go_quiet (fail)
  go_wp2_with fail
  refine (nbContext nb 1 (.pointer none) (W8.drewN _) c2).mono ?_
  rintro e w9 ⟨rfl, rfl⟩
  go_wp2_with fail
  refine (nbLoc nb 1 _).mono ?_
  rintro e w10 ⟨rfl, rfl⟩
  go_wp2_with fail
  try go_quiet (fail)
  go_wp2
  go_ret
  exact ⟨rfl, drewN_below HB8.out _⟩

set_option maxHeartbeats 3200000 in
set_option maxRecDepth 100000 in
theorem walk_pt (id ctx : ByteArray) (a : Option Addr) (n c : Nat) (zs : List ByteArray) (w : World) (hi : StrsAt w w.heap.size (.slice a n c) zs) (hl : zs.length = n) (hn : n ≤ maxLen) (h1 : id.size ≤ maxLen) (h2 : ctx.size ≤ maxLen) (hz : ∀ i, i < n → (zs.getD i ByteArray.empty).size ≤ maxLen) (hn0 : 0 < n) :
    Calls Tryf.prog 5 #[.string id, .slice a n c, .string ctx, .bool true] w fun e w' => e = .returned (.bool true) ∧ Below w.heap.size w w' := by
  have HI := Lib.hid hi
  have HL := Lib.hid hl
  have HZ := Lib.hid hz
  have HN := Lib.hid (show id.size ≤ maxLen ∧ ctx.size ≤ maxLen ∧ n ≤ maxLen from ⟨h1, h2, hn⟩)
  have HN0 := Lib.hid hn0
  clear hi hl hz hn h1 h2 hn0
  go_enter Tryf.func5, Tryf.ntmps5
  go_wp2_with fail
  refine (bytesAt id ctx true a n c zs w HI.out HL.out HN.out.2.2 HN.out.1 HN.out.2.1 HZ.out).mono ?_
  rintro e w' ⟨⟨b, rfl, hb⟩, rfl⟩
  cases b with
  | false =>
    go_wp2
    go_ret
    exact ⟨rfl, Below.refl _ _⟩
  | true =>
  obtain ⟨hsum, hzz⟩ := hb rfl
  have HZZ := Lib.hid hzz
  clear hb hzz HZ HN
  have q1 : decide (1048576 < id.size) = false := decide_eq_false (by omega)
  have q2 : decide (1048576 < ctx.size) = false := decide_eq_false (by omega)
  go_wp2_with fail
  refine (idsBytes a n c zs w HI.out HL.out (by omega) HZZ.out).mono ?_
  rintro e w' ⟨⟨S, rfl, hS, _⟩, rfl⟩
  by_cases hS3 : 1048576 < id.size + ctx.size + S
  · go_wp2
    go_ret
    exact ⟨rfl, Below.refl _ _⟩
  go_wp2_with fail
  refine (toIds a n c zs w HI.out HL.out (by omega)).mono ?_
  rintro e w1 ⟨⟨a', c', rfl, hs1, hno⟩, hb1⟩
  have HS1 := Lib.hid hs1
  have HB1 := Lib.hid hb1
  have HNO := Lib.hid hno
  have hgt := hb1.size
  clear hs1 hno hb1
  go_wp2_with fail
  refine (newLoc w1).mono ?_
  rintro e w2 ⟨⟨fb, rfl⟩, hb2⟩
  have hgt2 := hb2.size
  have HB2 := Lib.hid (HB1.out.trans (hb2.mono hgt))
  have HS2 := Lib.hid (strs_up HS1.out hb2 hb2.size)
  clear hb2 HS1 HB1
  go_wp2_with fail
  generalize hW3 : w2.alloc (.cells #[.string id, .slice none 0 0, .pointer none, .slice (some ⟨fb, 0, none⟩) 0 0, .pointer none, .string ⟨#[]⟩, .int .i64 0, .int .i64 0, .int .i64 0, .int .i64 0] 43 (0, 0)) = W3
  have r3 : W3.heap[w2.heap.size]? = some (.cells (varCells id (nA (some ⟨fb, 0, none⟩) 0 0 none)) 43 (0, 0)) := by rw [← hW3]; exact get_new rfl
  have b3 : Below w2.heap.size w2 W3 := by rw [← hW3]; exact Below.alloc (Below.refl _ _) (Nat.le_refl _) _
  have s3 : W3.heap.size = w2.heap.size + 1 := by rw [← hW3]; simp
  clear hW3
  refine (nbSetFree w2.heap.size 1 a' n c' _ W3 ((cell_of_row _ _ 3 _ _ _ r3).trans rfl) (frozen_of r3 3)).mono ?_
  rintro e W4 ⟨rfl, hW4⟩
  have r4 : W4.heap[w2.heap.size]? = some (.cells (varCells id (nA a' n c' none)) 43 (0, 0)) := by rw [← hW4]; exact (Lib.heap_setCell_same r3 _).trans (by simp [varCells, nA])
  have b4 : Below w2.heap.size w2 W4 := by rw [← hW4]; exact b3.setCell (Nat.le_refl _) _
  have s4 : W4.heap.size = w2.heap.size + 1 := by rw [← hW4, ← s3]; simp [World.setCell]
  clear hW4 r3 b3 s3
  have HR4 := Lib.hid r4
  have HB4 := Lib.hid b4
  have HSZ4 := Lib.hid s4
  clear r4 b4 s4
  go_wp2_with fail
  generalize hW5 : W4.alloc (.cells #[.string ctx] 9 (0, 0)) = W5
  have s4 := HSZ4.out
  have r5 : W5.heap[w2.heap.size]? = some (.cells (varCells id (nA a' n c' none)) 43 (0, 0)) := by rw [← hW5]; exact (get_old (by omega)).trans HR4.out
  have c5 : W5.heap[W4.heap.size]? = some (.cells #[.string ctx] 9 (0, 0)) := by rw [← hW5]; exact get_new rfl
  have b5 : Below w2.heap.size w2 W5 := by rw [← hW5]; exact HB4.out.alloc (by omega) _
  have s5 : W5.heap.size = W4.heap.size + 1 := by rw [← hW5]; simp
  clear hW5
  refine (nbSetContext w2.heap.size 1 (some ⟨W4.heap.size, 0, none⟩) _ W5 ((cell_of_row _ _ 2 _ _ _ r5).trans rfl) (frozen_of r5 2)).mono ?_
  rintro e W6 ⟨rfl, hW6⟩
  have r6 : W6.heap[w2.heap.size]? = some (.cells (varCells id (nA a' n c' (some ⟨W4.heap.size, 0, none⟩))) 43 (0, 0)) := by rw [← hW6]; exact (Lib.heap_setCell_same r5 _).trans (by simp [varCells, nA])
  have b6 : Below w2.heap.size w2 W6 := by rw [← hW6]; exact b5.setCell (Nat.le_refl _) _
  have c6 : W6.heap[W4.heap.size]? = some (.cells #[.string ctx] 9 (0, 0)) := by rw [← hW6]; exact (Below.heap_setCell _ _ _ _ (show W4.heap.size ≠ w2.heap.size by omega)).trans c5
  have s6 : W6.heap.size = W4.heap.size + 1 := by rw [← hW6, ← s5]; simp [World.setCell]
  have ok6 : NBok W6 (nA a' n c' (some ⟨W4.heap.size, 0, none⟩)) zs (some ctx) := ⟨strs_up HS2.out b6 (by omega), HL.out, by show n ≤ 1048576; omega, ⟨_, rfl, (cell_of_row _ _ 0 _ _ _ c6).trans rfl⟩⟩
  have HR6 := Lib.hid r6
  have HB6 := Lib.hid b6
  have HC6 := Lib.hid c6
  have HS6 := Lib.hid s6
  have HOK6 := Lib.hid ok6
  clear hW6 r6 b6 c6 s6 ok6 r5 c5 b5 s5 s4
  go_wp2_with fail
  refine (Clone_var w2.heap.size id _ zs _ W6 HR6.out HOK6.out).mono ?_
  rintro e W7 ⟨nb, n', rfl, hnb, hr7, hn7, hb7⟩
  obtain ⟨he, ⟨g, cap, hv, hg, ho⟩, hx⟩ := hn7
  rw [he] at hr7
  rw [HL.out] at hv ho
  rw [hv] at ho
  have mf : ∀ w, _ = _ := fun w => nodeVar.free nb w
  have mc : ∀ w, _ = _ := fun w => nodeVar.ctx nb w
  have ml : ∀ w, _ = _ := fun w => locVar nb w
  have a3 : W7.cell? ⟨nb, 3, none⟩ = some (.slice (some ⟨g, 0, none⟩) n cap) := ((cell_of_row _ _ 3 _ _ _ hr7).trans rfl).trans (congrArg some hv)
  have HR7 := Lib.hid hr7
  have HO7 := Lib.hid ho
  have HB7 := Lib.hid hb7
  have HV7 := Lib.hid hv
  have l4 : W7.cell? ⟨nb, 4, none⟩ = some (.pointer none) := (cell_of_row _ _ 4 _ _ _ hr7).trans rfl
  have l5 : W7.cell? ⟨nb, 5, none⟩ = some (.string ⟨#[]⟩) := (cell_of_row _ _ 5 _ _ _ hr7).trans rfl
  have l6 : W7.cell? ⟨nb, 6, none⟩ = some (.int .i64 0) := (cell_of_row _ _ 6 _ _ _ hr7).trans rfl
  have l7 : W7.cell? ⟨nb, 7, none⟩ = some (.int .i64 0) := (cell_of_row _ _ 7 _ _ _ hr7).trans rfl
  have l8 : W7.cell? ⟨nb, 8, none⟩ = some (.int .i64 0) := (cell_of_row _ _ 8 _ _ _ hr7).trans rfl
  have l9 : W7.cell? ⟨nb, 9, none⟩ = some (.int .i64 0) := (cell_of_row _ _ 9 _ _ _ hr7).trans rfl
  have ngn : nb ≠ g := fun e => by
    obtain ⟨cg, fg, hcg⟩ := Lib.ownsRow_kind ho g rfl
    rw [← e, hr7] at hcg
    cases hcg
  obtain ⟨gx, hgxB, hgx, hgr⟩ := hx
  have c2 : W7.cell? ⟨nb, 2, none⟩ = some (.pointer (some ⟨gx, 0, none⟩)) := ((cell_of_row _ _ 2 _ _ _ hr7).trans rfl).trans (congrArg (fun c => some (Value.pointer c)) hgx)
  have e0 : W7.cell? ⟨gx, 0, none⟩ = some (.string ctx) := (cell_of_row _ _ 0 _ _ _ hgr).trans rfl
  have hsr : W7.heap[W4.heap.size]? = some (.cells #[.string ctx] 9 (0, 0)) := (hb7.block _ (Array.getElem?_eq_some_iff.1 HC6.out).1).trans HC6.out
  have e1 : W7.cell? ⟨W4.heap.size, 0, none⟩ = some (.string ctx) := (cell_of_row _ _ 0 _ _ _ hsr).trans rfl
  have ngx : gx ≠ g := fun e => by
    obtain ⟨cg, fg, hcg⟩ := Lib.ownsRow_kind ho g rfl
    rw [← e, hgr] at hcg
    cases hcg
  have nx4 : gx ≠ W4.heap.size := by have := HS6.out; omega
  have n4g : W4.heap.size ≠ g := by have := HS6.out; omega
  have HGR := Lib.hid hgr
  have HSR := Lib.hid hsr
  clear hgx hgr hsr
  clear hr7 ho hb7 hv he
  have qs : ∀ (w : World) (a : Option Addr) (n c n' c' : Nat), (binOp .eql 35 (.slice a n c) (.slice none n' c')).run Tryf.prog w = .ok (.bool a.isNone) w := fun w a n c n' c' => Lib.run_eql_slice_nil w _ _ a n c n' c' Tryf.underlying35
  go_wp2_with fail
  refine (nbFree nb 1 _ W7 a3).mono ?_
  rintro e w8 ⟨rfl, rfl⟩
  go_wp2_with fail
  have bw7 : Below w.heap.size w W7 := (HB2.out.trans (HB6.out.mono (by omega))).trans (HB7.out.mono (by have := HB6.out.size; omega))
  have HI7 := Lib.hid (strs_up HI.out bw7 (Nat.le_refl _))
  have HG7 := Lib.hid (strs_row HO7.out HL.out (by omega))
  clear bw7
  refine (idsSame _ _ n cap c _ _ zs W7 HG7.out HI7.out HL.out (by omega)).mono ?_
  rintro e w8 ⟨rfl, m1, rfl⟩
  go_wp2_with fail
  have v7 : W7.heap[w2.heap.size]? = _ := (HB7.out.block _ (Array.getElem?_eq_some_iff.1 HR6.out).1).trans HR6.out
  have p0 : W7.cell? ⟨w2.heap.size, 0, none⟩ = some (.string id) := (cell_of_row _ _ 0 _ _ _ v7).trans rfl
  have p2 : W7.cell? ⟨w2.heap.size, 2, none⟩ = some (.pointer (some ⟨W4.heap.size, 0, none⟩)) := (cell_of_row _ _ 2 _ _ _ v7).trans rfl
  have p3 : W7.cell? ⟨w2.heap.size, 3, none⟩ = some (.slice a' n c') := (cell_of_row _ _ 3 _ _ _ v7).trans rfl
  have HV7' := Lib.hid v7
  have HI8 := Lib.hid (strs_up HS2.out (HB6.out.trans (HB7.out.mono HB6.out.size)) (Nat.le_refl _))
  clear v7
  refine (nbFree w2.heap.size 1 _ (W7.drewN m1) p3).mono ?_
  rintro e w9 ⟨rfl, rfl⟩
  go_wp2_with fail
  have hz0 := HZZ.out 0 HN0.out
  obtain ⟨z, hzd⟩ : ∃ z, zs.getD 0 ByteArray.empty = z := ⟨_, rfl⟩
  rw [hzd] at hz0
  have gz : W7.cell? ⟨g, 0, none⟩ = some (.string z) := by
    have h0 : 0 < zs.length := by have := HL.out; have := HN0.out; omega
    rw [HO7.out.cellAt 0 (by have := HN0.out; omega), ← hzd]
    simp [List.getElem?_eq_getElem h0]
  have gf : W7.frozen? ⟨g, 0, none⟩ = false := HO7.out.frozenAt 0
  have i6 : (0 : Int) < (n : Int) := by have := HN0.out; omega
  refine (idsMatch a' a n c' c _ _ zs _ (HI8.out.drewN m1) (HI7.out.drewN m1) HL.out (by omega) HNO.out).mono ?_
  rintro e w9 ⟨rfl, m2, rfl⟩
  go_wp2_with fail
  obtain ⟨b, off, rfl, hbl, hcc⟩ := HI7.out.cell (k := 0) (by have := HL.out; have := HN0.out; omega)
  have hc0 : W7.cell? ⟨b, off, none⟩ = some (.string z) := by rw [← hzd]; exact hcc 0 (by have := HL.out; have := HN0.out; omega)
  obtain ⟨b', off', rfl, hbl', hcc'⟩ := HI8.out.cell (k := 0) (by have := HL.out; have := HN0.out; omega)
  have hc0' : W7.cell? ⟨b', off', none⟩ = some (.string z) := by rw [← hzd]; exact hcc' 0 (by have := HL.out; have := HN0.out; omega)
  clear hcc hcc'
  have hg6 : w2.heap.size < g := by have := HB6.out.size; have := HS6.out; omega
  have KB : ∀ i, i ≠ g → ((W7.drewN (m1 + m2)).setCell ⟨g, 0, none⟩ (.string (z ++ ⟨#[39]⟩))).heap[i]? = W7.heap[i]? := fun i hi => Below.heap_setCell _ _ _ _ (show i ≠ g from hi)
  have K8 : ∀ q v, q.block ≠ g → W7.cell? q = some v → ((W7.drewN (m1 + m2)).setCell ⟨g, 0, none⟩ (.string (z ++ ⟨#[39]⟩))).cell? q = some v := fun q v hq hv => (World.cell?_of_block (KB _ hq)).trans hv
  have p0 := K8 _ _ (show w2.heap.size ≠ g by omega) p0
  have p2 := K8 _ _ (show w2.heap.size ≠ g by omega) p2
  have p3 := K8 _ _ (show w2.heap.size ≠ g by omega) p3
  have hd0 := K8 _ _ (show b ≠ g by omega) hc0
  have hd0' := K8 _ _ (show b' ≠ g by omega) hc0'
  have c2 := K8 _ _ ngn c2
  have l4 := K8 _ _ ngn l4
  have l5 := K8 _ _ ngn l5
  have l6 := K8 _ _ ngn l6
  have l7 := K8 _ _ ngn l7
  have l8 := K8 _ _ ngn l8
  have l9 := K8 _ _ ngn l9
  have e0 := K8 _ _ ngx e0
  have e1 := K8 _ _ n4g e1
  have hgr := (KB _ ngx).trans HGR.out
  have hsr := (KB _ n4g).trans HSR.out
  have bw8 : Below w.heap.size w ((W7.drewN (m1 + m2)).setCell ⟨g, 0, none⟩ (.string (z ++ ⟨#[39]⟩))) := Below.setCell (drewN_below ((HB2.out.trans (HB6.out.mono (by omega))).trans (HB7.out.mono (by have := HB6.out.size; omega))) _) (by show w.heap.size ≤ g; omega) _
  have HB8 := Lib.hid bw8
  clear K8 KB bw8
  generalize (W7.drewN (m1 + m2)).setCell ⟨g, 0, none⟩ (.string (z ++ ⟨#[39]⟩)) = W8 at p0 p2 p3 hd0 hd0' c2 l4 l5 l6 l7 l8 l9 e0 e1 hgr hsr HB8 ⊢
  go_quiet (fail)
  go_wp2_with fail
  refine (nbContext nb 1 (.pointer (some ⟨gx, 0, none⟩)) (W8.drewN _) c2).mono ?_
  rintro e w9 ⟨rfl, rfl⟩
  have pe : ∀ m, (binOp .eql 33 (.pointer (some ⟨gx, 0, none⟩)) (.pointer (some ⟨W4.heap.size, 0, none⟩))).run Tryf.prog (W8.drewN m) = .ok (.bool false) (W8.drewN m) := eq_heads (n := 1) Tryf.underlying33 (by kernel_rfl) (by decide) nx4 hgr hsr
  have pe0 : (binOp .eql 33 (.pointer (some ⟨gx, 0, none⟩)) (.pointer (some ⟨W4.heap.size, 0, none⟩))).run Tryf.prog W8 = .ok (.bool false) W8 := pe 0
  clear hgr hsr
  go_wp2_with fail
  refine (nbLoc nb 1 _).mono ?_
  rintro e w10 ⟨rfl, rfl⟩
  go_wp2_with fail
  try go_quiet (fail)
  go_wp2
  go_ret
  exact ⟨rfl, drewN_below HB8.out _⟩


end Go.Proofs.YtgmmbimbbkbjfaaFmt.fnFreeVariablesCloneIndependent
