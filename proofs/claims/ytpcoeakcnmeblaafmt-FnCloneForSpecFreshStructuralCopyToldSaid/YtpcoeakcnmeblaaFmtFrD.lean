/-
  cloneForSpec: the walk.
-/
import Derived.Test.YtpcoeakcnmeblaaFmtFrC
import Derived.Test.YtpcoeakcnmeblaaFmtFrB
import Derived.Deep.MidRow
import Derived.StillTailTactics
import Derived.IntWalk
import Derived.Deep.Cut
namespace Go.Proofs.YtpcoeakcnmeblaaFmt
open Go Go.RowKit
namespace Fr

def vals7 (cond outer ev : Value) (vn : ByteArray) : List Value := [.slice none 0 0, .slice none 0 0, cond, outer, ev, .string vn, .slice none 0 0]
theorem store7 {w : World} {b : Nat} {a0 a1 a2 a3 a4 a5 a6 : Value} {T : TypeId} (hb : w.heap[b]? = some (.cells #[a0, a1, a2, a3, a4, a5, a6] T (0, 0))) (cond outer ev : Value) (vn : ByteArray) :
    (w.setCells b 0 (vals7 cond outer ev vn)).heap[b]? = some (.cells (fsCells cond outer ev vn) T (0, 0)) ∧ Kept (fun k => k = b) w (w.setCells b 0 (vals7 cond outer ev vn)) ∧ (w.setCells b 0 (vals7 cond outer ev vn)).heap.size = w.heap.size := by
  simp only [vals7, World.setCells]
  refine ⟨(Lib.heap_setCell_same (Lib.heap_setCell_same (Lib.heap_setCell_same (Lib.heap_setCell_same (Lib.heap_setCell_same (Lib.heap_setCell_same (Lib.heap_setCell_same hb _) _) _) _) _) _) _).trans (by simp [fsCells]), ?_, by simp [World.setCell]⟩
  exact ((((((Kept.cell1 w b _ _).trans (Kept.cell1 _ b _ _)).trans (Kept.cell1 _ b _ _)).trans (Kept.cell1 _ b _ _)).trans (Kept.cell1 _ b _ _)).trans (Kept.cell1 _ b _ _)).trans (Kept.cell1 _ b _ _)
theorem there7 {w : World} {b : Nat} {a0 a1 a2 a3 a4 a5 a6 : Value} {T : TypeId} (hb : w.heap[b]? = some (.cells #[a0, a1, a2, a3, a4, a5, a6] T (0, 0))) : w.there b 0 7 := fun j hj => by
  have hlt : 0 + j < (#[a0, a1, a2, a3, a4, a5, a6] : Array Value).size := by simp; omega
  refine ⟨?_, frozen_of hb _⟩
  rw [cell_of_row w b (0 + j) _ _ _ hb, Array.getElem?_eq_getElem hlt]
  rfl
theorem after_rest {w w1 X w2 : World} {E sb i n : Nat} {f : Nat → Lev} {R : Nat → Rec} {Sb : Nat → Nat} {ev' : Nat → Value} {cu : Nat → Nat → Value} (h : ChainPre w E sb i n f R) (hi : i + 1 < n) (hws : w.heap.size ≤ w1.heap.size) (hl1 : LevOk w1 E i (f i) (R i) (outerOf n R i)) (hXs : w1.heap.size ≤ X.heap.size)
    (hl : ∀ k, i ≤ k → k < n → LevOk X E k (f k) (R k) (outerOf n R k)) (hp0 : ∃ c0, X.heap[w1.heap.size]? = some (.cells c0 39 (0, 0))) (hp : ChainPost X w2 w1.heap.size (i + 1) n f R Sb ev' cu) :
    CondSt w.heap.size i (f i) (R i) w2 w2 0 (fun _ => .nilIface) := by
  have hcs : ∀ k, i < k → k < n → (R k).cs ≠ (R i).cs := fun k h2 h3 e => h.inj i k (Nat.le_refl _) h2 h3 e.symm
  have l1 := (Array.getElem?_eq_some_iff.1 hl1.spec).1
  obtain ⟨D1, hD1, _⟩ := hl1.cs
  have l2 := (Array.getElem?_eq_some_iff.1 hD1).1
  refine condStart ((hl i (Nat.le_refl _) (by omega)).kept hp.kept (fun e => ?_) (fun e => ?_) (fun b e _ => ?_)) (by have := hp.kept.size; omega)
  · rcases e with e | ⟨k, h2, h3, e⟩
    · omega
    · obtain ⟨D, hD, _⟩ := (hl k (by omega) h3).cs
      have hs := (hl i (Nat.le_refl _) (by omega)).spec
      rw [e, hD] at hs
      cases hs
  · rcases e with e | ⟨k, h2, h3, e⟩
    · omega
    · exact hcs k (by omega) h3 e.symm
  · rcases e with e | ⟨k, h2, h3, e⟩
    · obtain ⟨c0, hc0⟩ := hp0
      exact ⟨_, _, by rw [e]; exact hc0, by decide, by decide, by decide⟩
    · obtain ⟨D, hD, _⟩ := (hl k (by omega) h3).cs
      exact ⟨_, _, by rw [e]; exact hD, by decide, by decide, by decide⟩

set_option maxHeartbeats 3200000 in
set_option maxRecDepth 100000 in
theorem cloneFS (E n : Nat) (f : Nat → Lev) (R : Nat → Rec) : ∀ (d i sb : Nat) (w : World), n = i + d + 1 → ChainPre w E sb i n f R →
    Calls Tryf.prog 13 #[.pointer (some ⟨sb, 0, none⟩)] w fun e w' => e = .returned (.tuple #[]) ∧ ∃ Sb ev cu, ChainPost w w' sb i n f R Sb ev cu := by
  intro d
  induction d with
  | zero =>
    intro i sb w hd h
    have hi : i < n := by omega
    have hin := Lib.hid (show i + 1 = n by omega)
    clear hd
    have HP := Lib.hid h
    have hce : w.cell? ⟨sb, 4, none⟩ = some (evOf (f i) (R i)) := (cell_of_row _ _ 4 _ _ _ h.spec).trans rfl
    have HC := Lib.hid (clone_leaf sb 4 _ (leafE (f i) (R i) i) w hce (frozen_of h.spec 4) (h.lev i (Nat.le_refl _) hi).leaf h.spec (by decide))
    have hsb : sb < w.heap.size := (Array.getElem?_eq_some_iff.1 h.spec).1
    clear hce h
    go_enter Tryf.func13, Tryf.ntmps13
    go_wp2_with fail
    refine HC.out.mono ?_
    rintro e w1 hca
    obtain ⟨ev, g1, g2, g3, g4, g5⟩ := HP.out.first hi hca
    obtain ⟨rfl, _⟩ := hca
    have c2 : w1.cell? ⟨sb, 2, none⟩ = some (.slice (some ⟨(R i).cs, 0, none⟩) (f i).ct.length (f i).ct.length) := (cell_of_row _ _ 2 _ _ _ g1).trans rfl
    have c3 : w1.cell? ⟨sb, 3, none⟩ = some (.pointer none) := by
      have eo : outerOf n R i = .pointer none := by rw [outerOf, if_neg (by have := hin.out; omega)]
      exact (cell_of_row _ _ 3 _ _ _ g1).trans (by rw [eo]; rfl)
    have HST := Lib.hid (condStart (g5 i (Nat.le_refl _) hi) g4.size)
    have HG := Lib.hid (show _ ∧ _ ∧ _ ∧ _ from ⟨g1, g2, g3, g4⟩)
    have HL := Lib.hid (g5 i (Nat.le_refl _) hi)
    have hm := HP.out.len i (Nat.le_refl _) hi
    clear g1 g2 g3 g4 g5 HC
    go_wp2
    go_loopw [36] (fun j wr => ∃ q : Nat, q ≤ (f i).ct.length ∧ j = .int .i64 q ∧ Hid (∃ u, CondSt w.heap.size i (f i) (R i) w1 wr q u)) (fun j _ => (f i).ct.length - (intOf j).toNat)
    case atStart => exact ⟨0, Nat.zero_le _, rfl, Lib.hid ⟨_, HST.out⟩⟩
    case round =>
      obtain ⟨q, hq, rfl, HS⟩ := hrel
      have hbs : wr.heap[sb]? = w1.heap[sb]? := by
        obtain ⟨u, hst⟩ := HS.out
        obtain ⟨D, hD, _⟩ := HL.out.cs
        refine hst.kept.block sb (Array.getElem?_eq_some_iff.1 HG.out.1).1 (fun e => ?_)
        have e : sb = (R i).cs := e
        rw [← e, HG.out.1] at hD
        cases hD
      by_cases hlt : q < (f i).ct.length
      · obtain ⟨u, hst⟩ := HS.out
        have y2 : wr.cell? ⟨sb, 2, none⟩ = some (.slice (some ⟨(R i).cs, 0, none⟩) (f i).ct.length (f i).ct.length) := by rw [World.cell?_of_block (a := ⟨sb, 2, none⟩) hbs]; exact c2
        have cq := hst.row.cell hlt
        rw [if_neg (Nat.lt_irrefl q)] at cq
        obtain ⟨C, hC, _⟩ := hst.row
        have HCL := Lib.hid (clone_leaf (R i).cs (q * 2) _ (leafOf ((R i).g q) ((f i).tag q) ((i : Int) + 1) ((q : Int) + 1)) wr cq.1 cq.2.2 (hst.node q hlt).leaf hC (by decide))
        have HST2 := Lib.hid hst
        clear cq hC hst HS hbs
        go_wp2_with fail
        refine HCL.out.mono ?_
        rintro e w2 hca
        have hca2 := hca
        obtain ⟨rfl, _⟩ := hca2
        have HN := Lib.hid (HST2.out.step hlt hca)
        clear hca HCL
        go_wp2
        go_roundw
        case rel => exact ⟨q + 1, by omega, by go_num, HN⟩
        case measure => simp [intOf]; omega
      · have hq2 : q = (f i).ct.length := by omega
        have hlt2 : ¬ (q : Int) < ((f i).ct.length : Int) := by omega
        have HQ := Lib.hid hq2
        clear hq2 hbs
        go_wp2
        go_end0
        obtain ⟨u, hst⟩ := HS.out
        rw [HQ.out] at hst
        exact ⟨rfl, chain_last HP.out hin.out HG.out.1 HG.out.2.1 HG.out.2.2.1 HG.out.2.2.2 HL.out hst⟩
  | succ d ih =>
    intro i sb w hd h
    have hi : i < n := by omega
    have hi1 : i + 1 < n := by omega
    have HP := Lib.hid h
    have hce : w.cell? ⟨sb, 4, none⟩ = some (evOf (f i) (R i)) := (cell_of_row _ _ 4 _ _ _ h.spec).trans rfl
    have HC := Lib.hid (clone_leaf sb 4 _ (leafE (f i) (R i) i) w hce (frozen_of h.spec 4) (h.lev i (Nat.le_refl _) hi).leaf h.spec (by decide))
    have hsb : sb < w.heap.size := (Array.getElem?_eq_some_iff.1 h.spec).1
    have IH := Lib.hid (fun sb' w' => ih (i + 1) sb' w' (by omega))
    clear hd
    clear hce h ih
    go_enter Tryf.func13, Tryf.ntmps13
    go_wp2_with fail
    refine HC.out.mono ?_
    rintro e w1 hca
    obtain ⟨ev, g1, g2, g3, g4, g5⟩ := HP.out.first hi hca
    obtain ⟨rfl, _⟩ := hca
    have eo : outerOf n R i = ptr (R (i + 1)).fs := by rw [outerOf, if_pos hi1]
    obtain ⟨fsN, hfs⟩ : ∃ fsN, fsN = (R (i + 1)).fs := ⟨_, rfl⟩
    have c3 : w1.cell? ⟨sb, 3, none⟩ = some (.pointer (some ⟨fsN, 0, none⟩)) := (cell_of_row _ _ 3 _ _ _ g1).trans (by rw [eo, hfs]; rfl)
    have z3 := frozen_of g1 3
    have spN := (g5 (i + 1) (by omega) hi1).spec
    rw [← hfs] at spN
    have hneN : fsN ≠ sb := by rw [hfs]; exact HP.out.ne (i + 1) (by omega) hi1
    have HFS := Lib.hid hfs
    have HG := Lib.hid (show _ ∧ _ ∧ _ ∧ _ from ⟨g1, g2, g3, g4⟩)
    have HL := Lib.hid g5
    have SP := Lib.hid spN
    have hm := HP.out.len i (Nat.le_refl _) hi
    clear g1 g2 g3 g4 g5 HC hfs spN
    have hsb1 : sb < w1.heap.size := Nat.lt_of_lt_of_le hsb HG.out.2.2.2.size
    have hsb2 : sb ≠ w1.heap.size := by omega
    have hN1 : fsN < w1.heap.size := (Array.getElem?_eq_some_iff.1 SP.out).1
    have hN2 : fsN ≠ w1.heap.size := by omega
    go_upto_region 4 with (fail)
    have esz : (w1.setCell ⟨sb, 3, none⟩ (.pointer (some ⟨w1.heap.size, 0, none⟩))).heap.size = w1.heap.size := by simp [World.setCell]
    obtain ⟨X1, hX1⟩ : ∃ X1, X1 = (w1.setCell ⟨sb, 3, none⟩ (.pointer (some ⟨w1.heap.size, 0, none⟩))).alloc (.cells #[.slice none 0 0, .slice none 0 0, .slice none 0 0, .pointer none, .nilIface, .string ⟨#[]⟩, .slice none 0 0] 39 (0, 0)) := ⟨_, rfl⟩
    rw [← hX1]
    have xz : X1.heap[w1.heap.size]? = some (.cells #[.slice none 0 0, .slice none 0 0, .slice none 0 0, .pointer none, .nilIface, .string ⟨#[]⟩, .slice none 0 0] 39 (0, 0)) := by
      rw [hX1]
      have := heap_alloc_new (w1.setCell ⟨sb, 3, none⟩ (.pointer (some ⟨w1.heap.size, 0, none⟩))) (.cells #[.slice none 0 0, .slice none 0 0, .slice none 0 0, .pointer none, .nilIface, .string ⟨#[]⟩, .slice none 0 0] 39 (0, 0))
      rwa [esz] at this
    have xo : ∀ b, b < w1.heap.size → b ≠ sb → X1.heap[b]? = w1.heap[b]? := fun b hb hne => by
      rw [hX1, Below.heap_alloc _ _ b (by rw [esz]; exact hb)]
      exact heap_setCell_other _ _ _ _ hne
    have xs : X1.heap[sb]? = some (.cells (fsCells (.slice (some ⟨(R i).cs, 0, none⟩) (f i).ct.length (f i).ct.length) (ptr w1.heap.size) ev (f i).vn) 39 (0, 0)) := by
      rw [hX1, Below.heap_alloc _ _ sb (by rw [esz]; exact hsb1)]
      exact (Lib.heap_setCell_same HG.out.1 _).trans (by simp [fsCells, ptr])
    have xk : Kept (fun b => b = sb) w1 X1 := by
      rw [hX1]
      exact (Kept.cell1 w1 sb 3 _).trans (Kept.ofBelow ((Below.refl _ _).alloc (Nat.le_refl _) _))
    have xsz : X1.heap.size = w1.heap.size + 1 := by rw [hX1]; simp [World.setCell]
    have xN := (xo fsN hN1 hneN).trans SP.out
    have k3 : X1.cell? ⟨sb, 3, none⟩ = some (.pointer (some ⟨w1.heap.size, 0, none⟩)) := (cell_of_row _ _ 3 _ _ _ xs).trans rfl
    have m0 : X1.cell? ⟨fsN, 0, none⟩ = some (.slice none 0 0) := (cell_of_row _ _ 0 _ _ _ xN).trans rfl
    have m1 : X1.cell? ⟨fsN, 1, none⟩ = some (.slice none 0 0) := (cell_of_row _ _ 1 _ _ _ xN).trans rfl
    have m2 : X1.cell? ⟨fsN, 2, none⟩ = some (.slice (some ⟨(R (i + 1)).cs, 0, none⟩) (f (i + 1)).ct.length (f (i + 1)).ct.length) := (cell_of_row _ _ 2 _ _ _ xN).trans rfl
    have m3 : X1.cell? ⟨fsN, 3, none⟩ = some (outerOf n R (i + 1)) := (cell_of_row _ _ 3 _ _ _ xN).trans rfl
    have m4 : X1.cell? ⟨fsN, 4, none⟩ = some (evOf (f (i + 1)) (R (i + 1))) := (cell_of_row _ _ 4 _ _ _ xN).trans rfl
    have m5 : X1.cell? ⟨fsN, 5, none⟩ = some (.string (f (i + 1)).vn) := (cell_of_row _ _ 5 _ _ _ xN).trans rfl
    have m6 : X1.cell? ⟨fsN, 6, none⟩ = some (.slice none 0 0) := (cell_of_row _ _ 6 _ _ _ xN).trans rfl
    have ho1 : (outerOf n R (i + 1)).oneCell' = true := by
      unfold outerOf ptr
      split <;> rfl
    have ho2 : (evOf (f (i + 1)) (R (i + 1))).oneCell' = true := by
      unfold evOf vi
      split <;> rfl
    have ht := there7 xz
    have hi7 : (Tryf.prog.info? 39).map (·.size) = some 7 := by kernel_rfl
    have hu := Tryf.underlying39
    have HXS := Lib.hid (show _ ∧ _ ∧ _ ∧ _ from ⟨xz, xs, xk, xsz⟩)
    clear hX1 esz xz xo xs xk xsz xN c3 z3
    obtain ⟨vo, hvo'⟩ : ∃ vo, vo = outerOf n R (i + 1) := ⟨_, rfl⟩
    obtain ⟨ve, hve'⟩ : ∃ ve, ve = evOf (f (i + 1)) (R (i + 1)) := ⟨_, rfl⟩
    rw [← hvo'] at m3 ho1
    rw [← hve'] at m4 ho2
    have hvo := Lib.hid hvo'
    have hve := Lib.hid hve'
    clear hvo' hve'
    go_wp2_with fail
    go_still_tail 8, (by kernel_rfl)
    change wpList _ _ _ _ _ X1.drew
    refine wpList_store_mid (by rfl) _ _ _ (by rfl) w1.heap.size 0 _ (by rfl) (by rfl) (by exact ht) hi7 (by simp [ho1, ho2, show ∀ s, (Value.string s).oneCell' = true from fun _ => rfl, show ∀ a b c, (Value.slice a b c).oneCell' = true from fun _ _ _ => rfl]) ?_
    obtain ⟨X, hX⟩ : ∃ X, X = X1.drew.setCells w1.heap.size 0 (vals7 (.slice (some ⟨(R (i + 1)).cs, 0, none⟩) (f (i + 1)).ct.length (f (i + 1)).ct.length) vo ve (f (i + 1)).vn) := ⟨_, rfl⟩
    change wpList _ _ _ _ _ (X1.drew.setCells w1.heap.size 0 (vals7 (.slice (some ⟨(R (i + 1)).cs, 0, none⟩) (f (i + 1)).ct.length (f (i + 1)).ct.length) vo ve (f (i + 1)).vn))
    rw [← hX]
    obtain ⟨s1, s2, s3⟩ := store7 (w := X1.drew) HXS.out.1 (.slice (some ⟨(R (i + 1)).cs, 0, none⟩) (f (i + 1)).ct.length (f (i + 1)).ct.length) vo ve (f (i + 1)).vn
    rw [← hX] at s1 s2 s3
    have s2' : Kept (fun k => k = w1.heap.size) X1 X := ⟨s2.os, s2.tape, s2.output, s2.size, s2.block⟩
    have s3' : X.heap.size = w1.heap.size + 1 := s3.trans HXS.out.2.2.2
    have tk : Kept (fun b => b = sb) w1 X := ⟨s2'.os.trans HXS.out.2.2.1.os, s2'.tape.trans HXS.out.2.2.1.tape, s2'.output.trans HXS.out.2.2.1.output, Nat.le_trans HXS.out.2.2.1.size s2'.size, fun b hb hne => (s2'.block b (by have := HXS.out.2.2.1.size; omega) (by show b ≠ _; omega)).trans (HXS.out.2.2.1.block b hb hne)⟩
    have tsb : X.heap[sb]? = some (.cells (fsCells (.slice (some ⟨(R i).cs, 0, none⟩) (f i).ct.length (f i).ct.length) (ptr w1.heap.size) ev (f i).vn) 39 (0, 0)) := (s2'.block sb (by have := HXS.out.2.2.1.size; omega) hsb2).trans HXS.out.2.1
    rw [hvo.out, hve.out] at s1
    obtain ⟨pre, hlX⟩ := HP.out.next hi1 HG.out.1 HL.out s1 tk
    have HPRE := Lib.hid pre
    have HT := Lib.hid (show _ ∧ _ ∧ _ ∧ _ ∧ _ from ⟨tsb, tk, s3', hlX, (⟨_, s1⟩ : ∃ c0, X.heap[w1.heap.size]? = some (.cells c0 39 (0, 0)))⟩)
    have k3' : X.cell? ⟨sb, 3, none⟩ = some (.pointer (some ⟨w1.heap.size, 0, none⟩)) := (cell_of_row _ _ 3 _ _ _ tsb).trans rfl
    clear hX s1 s2 s3 s2' s3' tk tsb pre hlX m0 m1 m2 m3 m4 m5 m6 ht hi7 hu k3 HXS
    go_wp2_with fail
    refine (IH.out w1.heap.size X HPRE.out).mono ?_
    rintro e w2 ⟨rfl, Sb, ev', cu, hpost⟩
    have HPO := Lib.hid hpost
    have hST := Lib.hid (after_rest HP.out hi1 HG.out.2.2.2.size (HL.out i (Nat.le_refl _) hi) (by rw [HT.out.2.2.1]; omega) HT.out.2.2.2.1 HT.out.2.2.2.2 hpost)
    have hsbX : sb < X.heap.size := (Array.getElem?_eq_some_iff.1 HT.out.1).1
    have q2 : w2.heap[sb]? = X.heap[sb]? := hpost.kept.block sb hsbX (fun e => by
      rcases e with e | ⟨k, h2, h3, e⟩
      · exact hsb2 e
      · obtain ⟨D, hD, _⟩ := (HT.out.2.2.2.1 k (by omega) h3).cs
        rw [← e, HT.out.1] at hD
        cases hD)
    have q3 := q2.trans HT.out.1
    have c2 : w2.cell? ⟨sb, 2, none⟩ = some (.slice (some ⟨(R i).cs, 0, none⟩) (f i).ct.length (f i).ct.length) := (cell_of_row _ _ 2 _ _ _ q3).trans rfl
    have Q3 := Lib.hid q3
    clear hpost k3' q2 q3 IH HPRE
    go_wp2
    go_loopw [36] (fun j wr => ∃ q : Nat, q ≤ (f i).ct.length ∧ j = .int .i64 q ∧ Hid (∃ u, CondSt w.heap.size i (f i) (R i) w2 wr q u)) (fun j _ => (f i).ct.length - (intOf j).toNat)
    case atStart => exact ⟨0, Nat.zero_le _, rfl, Lib.hid ⟨_, hST.out⟩⟩
    case round =>
      obtain ⟨q, hq, rfl, HS⟩ := hrel
      have hbs : wr.heap[sb]? = w2.heap[sb]? := by
        obtain ⟨u, hst⟩ := HS.out
        obtain ⟨D, hD, _⟩ := (HT.out.2.2.2.1 i (Nat.le_refl _) hi).cs
        refine hst.kept.block sb (Array.getElem?_eq_some_iff.1 Q3.out).1 (fun e => ?_)
        have e : sb = (R i).cs := e
        rw [← e, HT.out.1] at hD
        cases hD
      by_cases hlt : q < (f i).ct.length
      · obtain ⟨u, hst⟩ := HS.out
        have y2 : wr.cell? ⟨sb, 2, none⟩ = some (.slice (some ⟨(R i).cs, 0, none⟩) (f i).ct.length (f i).ct.length) := by rw [World.cell?_of_block (a := ⟨sb, 2, none⟩) hbs]; exact c2
        have cq := hst.row.cell hlt
        rw [if_neg (Nat.lt_irrefl q)] at cq
        obtain ⟨C, hC, _⟩ := hst.row
        have HCL := Lib.hid (clone_leaf (R i).cs (q * 2) _ (leafOf ((R i).g q) ((f i).tag q) ((i : Int) + 1) ((q : Int) + 1)) wr cq.1 cq.2.2 (hst.node q hlt).leaf hC (by decide))
        have HST2 := Lib.hid hst
        clear cq hC hst HS hbs
        go_wp2_with fail
        refine HCL.out.mono ?_
        rintro e w3 hca
        have hca2 := hca
        obtain ⟨rfl, _⟩ := hca2
        have HN := Lib.hid (HST2.out.step hlt hca)
        clear hca HCL
        go_wp2
        go_roundw
        case rel => exact ⟨q + 1, by omega, by go_num, HN⟩
        case measure => simp [intOf]; omega
      · have hq2 : q = (f i).ct.length := by omega
        have hlt2 : ¬ (q : Int) < ((f i).ct.length : Int) := by omega
        have HQ := Lib.hid hq2
        clear hq2 hbs
        go_wp2
        go_end0
        obtain ⟨u, hst⟩ := HS.out
        rw [HQ.out] at hst
        refine ⟨rfl, chain_more HP.out hi1 HG.out.2.2.2.size HT.out.2.2.1 HT.out.1 HG.out.2.1 (fun he => ?_) (HG.out.2.2.2.trans HT.out.2.1) HT.out.2.2.2.1 hsb1 HT.out.2.2.2.2 HPO.out hst⟩
        refine (HG.out.2.2.1 he).keep fun k c t hb ht => HT.out.2.1.block k (Array.getElem?_eq_some_iff.1 hb).1 (fun e => ?_)
        have e : k = sb := e
        rw [e, HG.out.1] at hb
        cases hb
        rcases ht with ht | ht <;> exact absurd ht (by decide)

end Fr
end Go.Proofs.YtpcoeakcnmeblaaFmt
