/-
  zzCloneLevels: the walk (n008_165).
-/
import Derived.Test.YtpcoeakcnmeblaaFmtFrN
import Derived.Laws.Cover3
import Derived.Deep.Cut
namespace Go.Proofs.YtpcoeakcnmeblaaFmt
open Go Go.RowKit
namespace Fr

theorem strs_none {W : World} {B n c : Nat} {zs : List ByteArray} (h : StrsAt W B (.slice none n c) zs) : zs = [] := by
  generalize hv : Value.slice none n c = v at h
  cases h with
  | isNil => rfl
  | isAt b off cap zs hb hn hc => cases hv
  | isBare a cap => rfl
theorem row_set3 {W : World} {b n k : Nat} {T : TypeId} {u v : Nat → Value} {x : Value} (h : Row W b T n (fun j => if j < k then u j else v j)) (hx : x = u k) : Row (W.setCell ⟨b, k, none⟩ x) b T n (fun j => if j < k + 1 then u j else v j) := by
  refine (h.set k x).congr fun j hj => ?_
  by_cases e : j = k
  · subst e
    rw [if_pos rfl, if_pos (by omega), hx]
  · rw [if_neg e]
    by_cases e2 : j < k
    · rw [if_pos e2, if_pos (by omega)]
    · rw [if_neg e2, if_neg (by omega)]

set_option maxHeartbeats 3200000 in
set_option maxRecDepth 100000 in
theorem cloneLevels (b0 off n c : Nat) (f : Nat → Lev) (w : World) (hn0 : 0 < n) (hL : LevsAt w w.heap.size (some ⟨b0, off, none⟩) n f) (hn : n ≤ 1048576) (hl : ∀ i, i < n → (f i).ct.length ≤ 1048576) :
    Calls Tryf.prog 7 #[.slice (some ⟨b0, off, none⟩) n c] w fun e w' => ∃ g, e = .returned (.slice (some ⟨g, 0, none⟩) n n) ∧ LevsAt w' w'.heap.size (some ⟨g, 0, none⟩) n f ∧ Below w.heap.size w w' := by
  obtain ⟨i0, hi0, hz0, hz1, hz2⟩ := info_parts infoLev
  obtain ⟨j0, hj0, hy0, hy1, hy2⟩ := info_parts infoStrE
  obtain ⟨bb, oo, e1, hb0, hcc⟩ := hL.2 hn0
  cases e1
  have q1 : ∀ (w : World) (a : Option Addr) (n c n' c' : Nat), (binOp .eql 22 (.slice a n c) (.slice none n' c')).run Tryf.prog w = .ok (.bool a.isNone) w := fun w a n c n' c' => Lib.run_eql_slice_nil w _ _ a n c n' c' Tryf.underlying22
  have q2 : ∀ (w : World) (a : Option Addr) (n c : Nat), (binOp .neq 41 (.slice a n c) (.slice none 0 0)).run Tryf.prog w = .ok (.bool (!a.isNone)) w := fun w a n c => run_neq_slice_nil w _ _ a n c Tryf.underlying41
  have HL := Lib.hid hL
  have HN := Lib.hid hl
  have HC := Lib.hid hcc
  clear hL hl hcc
  go_enter Tryf.func7, Tryf.ntmps7
  go_wp2_with (refine wpList_make_full _ rfl _ _ 22 rfl w.heap.size 43 i0 (.agg #[.string ⟨#[]⟩, .bool false, .string ⟨#[]⟩, .slice none 0 0]) 4 Tryf.underlying22 hi0 hz0 hz1 .i64 .i64 _ _ n rfl rfl rfl rfl (by rw [hz2]; omega) (by unfold maxLen; omega) (Nat.le_refl _) ?_; intro w1 hown1 hg1)
  have HS0 : Hid (CopySt w w1 w.heap.size n 0 f) := Lib.hid (by
    obtain ⟨C, hC, h1⟩ := levMade hown1
    exact ⟨⟨C, hC, fun i hi => absurd hi (Nat.not_lt_zero i), fun i _ hi => h1 i hi⟩, (Below.refl _ _).grown hg1 (Nat.le_refl _) (by simp), Nat.le_refl _⟩)
  clear hown1 hg1 q1 hi0 hz0 hz1 hz2
  go_wp2
  go_loopw [4] (fun i wr => ∃ q : Nat, q ≤ n ∧ i = .int .i64 q ∧ Hid (CopySt w wr w.heap.size n q f)) (fun i _ => n - (intOf i).toNat)
  case atStart => exact ⟨0, Nat.zero_le _, rfl, HS0⟩
  case round =>
    clear HS0
    obtain ⟨q, hq, rfl, HS⟩ := hrel
    obtain ⟨wo, rfl⟩ : ∃ wo : World, wo = wr := ⟨_, rfl⟩
    by_cases hlt : q < n
    · have hs := HS.out
      obtain ⟨C, hC, _, hc2⟩ := hs.row
      obtain ⟨u0, u1, u2, u3⟩ := hc2 q (Nat.le_refl _) hlt
      obtain ⟨v0, v1, v2, ca, cc, v3, v4⟩ := (HC.out q hlt).below hs.below hb0
      have hm := HN.out q hlt
      have hne : b0 ≠ w.heap.size := by omega
      have x0 : wo.cell? ⟨w.heap.size, q * 4, none⟩ = some (.string ⟨#[]⟩) := (cell_of_row _ _ _ _ _ _ hC).trans u0
      have x1 : wo.cell? ⟨w.heap.size, q * 4 + 1, none⟩ = some (.bool false) := (cell_of_row _ _ _ _ _ _ hC).trans u1
      have x2 : wo.cell? ⟨w.heap.size, q * 4 + 2, none⟩ = some (.string ⟨#[]⟩) := (cell_of_row _ _ _ _ _ _ hC).trans u2
      have x3 : wo.cell? ⟨w.heap.size, q * 4 + 3, none⟩ = some (.slice none 0 0) := (cell_of_row _ _ _ _ _ _ hC).trans u3
      have hx3 := Lib.hid x3
      have y0 := frozen_of hC (q * 4)
      have y1 := frozen_of hC (q * 4 + 1)
      have y2 := frozen_of hC (q * 4 + 2)
      have y3 := frozen_of hC (q * 4 + 3)
      have hst : ∀ w3 w', _ → _ → CopySt w w' w.heap.size n (q + 1) f := fun w3 w' => hs.step (w3 := w3) (w' := w') hlt
      have HST := Lib.hid hst
      have HV := Lib.hid v4
      have HC2 := Lib.hid hC
      have HB := Lib.hid hs.below
      clear hs hst v4 hC hc2 u0 u1 u2 u3 HS
      obtain ⟨vn, hvn⟩ : ∃ vn, vn = (f q).vn := ⟨_, rfl⟩
      obtain ⟨en, hen⟩ : ∃ en, en = (f q).en := ⟨_, rfl⟩
      obtain ⟨et, het⟩ : ∃ et, et = (f q).et := ⟨_, rfl⟩
      obtain ⟨m, hmm⟩ : ∃ m, m = (f q).ct.length := ⟨_, rfl⟩
      rw [← hvn] at v0
      rw [← hen] at v1
      rw [← het] at v2
      rw [← hmm] at v3 hm
      have HE := Lib.hid (show _ ∧ _ ∧ _ ∧ _ from ⟨hvn, hen, het, hmm⟩)
      clear hvn hen het hmm
      cases ca with
      | none =>
        go_wp2
        go_roundw
        case rel =>
          have h5 : (f q).ct = [] := strs_none HV.out
          obtain ⟨e1, e2, e3, _⟩ := HE.out
          refine ⟨q + 1, by omega, by go_num, Lib.hid (HST.out _ _ ?_ (.inl ⟨h5, rfl⟩))⟩
          rw [← e1, ← e2, ← e3]
          exact ⟨rfl, rfl, rfl, rfl⟩
        case measure => simp [intOf]; omega
      | some ad =>
        go_upto_region 12 with (fail)
        obtain ⟨W3, hW3⟩ : ∃ W3, W3 = ((wo.setCell ⟨w.heap.size, q * 4, none⟩ (.string vn)).setCell ⟨w.heap.size, q * 4 + 1, none⟩ (.bool en)).setCell ⟨w.heap.size, q * 4 + 2, none⟩ (.string et) := ⟨_, rfl⟩
        rw [← hW3]
        have hS3 : Same (((wo.setCell ⟨w.heap.size, q * 4, none⟩ (.string (f q).vn)).setCell ⟨w.heap.size, q * 4 + 1, none⟩ (.bool (f q).en)).setCell ⟨w.heap.size, q * 4 + 2, none⟩ (.string (f q).et)) W3 := by
          obtain ⟨e1, e2, e3, _⟩ := HE.out
          rw [← e1, ← e2, ← e3, hW3]
          exact ⟨rfl, rfl, rfl, rfl⟩
        obtain ⟨g3, k3⟩ := three (l := f q) HC2.out hS3
        have G3 := Lib.hid g3
        have K3 := Lib.hid k3
        have S3 := Lib.hid hS3
        have b3 : Below w.heap.size w W3 := HB.out.trans (k3.below (fun k e => by subst e; exact Nat.le_refl _) HB.out.size)
        have B3 := Lib.hid b3
        have v3' : W3.cell? ⟨b0, off + q * 4 + 3, none⟩ = some (.slice (some ad) m cc) := by
          obtain ⟨_, _, _, ca', cc', r3, _⟩ := (HC.out q hlt).below b3 hb0
          obtain ⟨_, _, _, ca2, cc2, r4, _⟩ := (HC.out q hlt).below HB.out hb0
          have e5 : W3.cell? ⟨b0, off + q * 4 + 3, none⟩ = wo.cell? ⟨b0, off + q * 4 + 3, none⟩ := World.cell?_of_block (k3.block b0 (Nat.lt_of_lt_of_le hb0 HB.out.size) hne)
          rw [e5]
          exact v3
        clear hW3 hS3 g3 k3 b3 v0 v1 v2 v3 x0 x1 x2 x3 y0 y1 y2 y3
        go_wp2_with (refine wpList_make_full _ rfl _ _ 41 rfl W3.heap.size 9 j0 (.string ⟨#[]⟩) 1 Tryf.underlying41 hj0 hy0 hy1 .i64 .i64 _ _ m rfl rfl rfl rfl (by rw [hy2]; omega) (by unfold maxLen; omega) (Nat.le_refl _) ?_; intro w4 hown4 hg4)
        have hb4 : Below W3.heap.size W3 w4 := (Below.refl _ _).grown hg4 (Nat.le_refl _) (by simp)
        have hr4 := rowMade (z := .string ⟨#[]⟩) rfl hown4
        have B4 := Lib.hid hb4
        have R4 : Hid ((Row w4 W3.heap.size 9 m (fun j => if j < 0 then .string ((f q).tag j) else .string ⟨#[]⟩)) ∧ Kept (fun b => b = W3.heap.size) w4 w4) := Lib.hid ⟨hr4.congr fun j _ => by rw [if_neg (Nat.not_lt_zero j)], Kept.refl _ _⟩
        clear hb4 hr4 hown4 hg4
        go_wp2
        go_loopw [7] (fun j wr => ∃ r : Nat, r ≤ m ∧ j = .int .i64 r ∧ Hid ((Row wr W3.heap.size 9 m (fun j => if j < r then .string ((f q).tag j) else .string ⟨#[]⟩)) ∧ Kept (fun b => b = W3.heap.size) w4 wr)) (fun j _ => m - (intOf j).toNat)
        case atStart => exact ⟨0, Nat.zero_le _, rfl, R4⟩
        case round =>
          obtain ⟨r, hr, rfl, HR⟩ := hrel
          have lb : b0 < w4.heap.size ∧ b0 ≠ W3.heap.size := by
            have := B3.out.size
            have := B4.out.size
            omega
          have k4 : ∀ b, b < W3.heap.size → wr.heap[b]? = W3.heap[b]? := fun b hb => by
            have := B4.out.size
            rw [HR.out.2.block b (by omega) (by show b ≠ W3.heap.size; omega)]
            exact B4.out.block b hb
          have v4 : wr.cell? ⟨b0, off + q * 4 + 3, none⟩ = some (.slice (some ad) m cc) := (World.cell?_of_block (k4 b0 (by have := B3.out.size; omega))).trans v3'
          by_cases hlt2 : r < m
          · obtain ⟨b2, off2, e6, hb2, hcc2⟩ := StrsAt.cell (k := r) (n := (f q).ct.length) HV.out (by rw [← HE.out.2.2.2]; exact hlt2)
            obtain rfl := Option.some.inj e6
            have hm2 := HE.out.2.2.2
            have c1 := hcc2 r (by omega)
            have c2 : wr.cell? ⟨b2, off2 + r, none⟩ = some (.string ((f q).tag r)) := by
              rw [World.cell?_of_block (a := ⟨b2, off2 + r, none⟩) (k4 b2 (by have := B3.out.size; omega)), World.cell?_of_block (a := ⟨b2, off2 + r, none⟩) (K3.out.block b2 (by have := HB.out.size; omega) (by show b2 ≠ w.heap.size; omega))]
              exact c1
            obtain ⟨d1, d2⟩ := HR.out.1.cell hlt2
            rw [if_neg (Nat.lt_irrefl r)] at d1
            have hne2 : b2 ≠ W3.heap.size := by
              have := B3.out.size
              omega
            have HRN : Hid ((Row (wr.setCell ⟨W3.heap.size, r, none⟩ (.string ((f q).tag r))) W3.heap.size 9 m (fun j => if j < r + 1 then .string ((f q).tag j) else .string ⟨#[]⟩)) ∧ Kept (fun b => b = W3.heap.size) w4 (wr.setCell ⟨W3.heap.size, r, none⟩ (.string ((f q).tag r)))) :=
              Lib.hid ⟨row_set3 HR.out.1 rfl, HR.out.2.trans (Kept.cell1 wr W3.heap.size r _)⟩
            generalize (f q).tag r = tg at c2 HRN
            clear hcc2 c1
            go_wp2
            go_roundw
            case rel => exact ⟨r + 1, by omega, by go_num, HRN⟩
            case measure => simp [intOf]; omega
          · obtain rfl : r = m := by omega
            have z1 : wr.heap[w.heap.size]? = some (.cells (set3 C q (f q)) 43 (0, 0)) := (k4 w.heap.size (Array.getElem?_eq_some_iff.1 G3.out).1).trans G3.out
            have z2 : wr.cell? ⟨w.heap.size, q * 4 + 3, none⟩ = some (.slice none 0 0) := by
              rw [cell_of_row _ _ _ _ _ _ z1, set3_other _ _ _ _ (by omega)]
              exact (cell_of_row _ _ _ _ _ _ HC2.out).symm.trans hx3.out
            have z3 := frozen_of z1 (q * 4 + 3)
            clear z1
            go_wp2
            go_roundw
            case rel =>
              refine ⟨q + 1, by omega, by go_num, Lib.hid (HST.out _ _ S3.out (.inr ⟨wr, W3.heap.size, ?_, Nat.le_refl _, ?_, ?_⟩))⟩
              · exact ⟨HR.out.2.os.trans B4.out.os, HR.out.2.tape.trans B4.out.tape, HR.out.2.output.trans B4.out.output, Nat.le_trans B4.out.size HR.out.2.size, fun b hb _ => k4 b hb⟩
              · rw [← HE.out.2.2.2]
                exact HR.out.1.congr fun j hj => by rw [if_pos hj]
              · rw [← HE.out.2.2.2]
                exact ⟨rfl, rfl, rfl, rfl⟩
            case measure => simp [intOf]; omega
    · obtain rfl : q = n := by omega
      go_wp2
      go_ret
      obtain ⟨h1, h2⟩ := HS.out.done (by unfold maxLen; omega) (fun i hi => by have := HN.out i hi; unfold maxLen; omega)
      exact ⟨_, rfl, h1, h2⟩

end Fr
end Go.Proofs.YtpcoeakcnmeblaaFmt
