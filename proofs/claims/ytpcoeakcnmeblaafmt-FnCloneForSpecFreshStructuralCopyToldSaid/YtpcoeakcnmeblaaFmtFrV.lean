/-
  The walk of FnCloneForSpecFreshStructuralCopy.
-/
import Derived.Test.YtpcoeakcnmeblaaFmtFrG
import Derived.Test.YtpcoeakcnmeblaaFmtFrO
import Derived.Test.YtpcoeakcnmeblaaFmtFrE
import Derived.Test.YtpcoeakcnmeblaaFmtFrD
import Derived.Test.YtpcoeakcnmeblaaFmtFrF
import Derived.Deep.RegionHeld3
import Derived.Deep.DrawnRows
import Derived.Laws.Cover3
import Derived.Deep.Cut
import Derived.Deep.CutBlock
import Derived.Deep.QuietTactic
import Derived.BigQuiet
import Derived.StillTailTactics
import Derived.Deep.MidRow
namespace Go.Proofs.YtpcoeakcnmeblaaFmt.fnCloneForSpecFreshStructuralCopy
open Go Go.RowKit Go.ChangeShapes Go.WideShapes Fr
attribute [local go_sem ↓] Go.wp_at_zero Go.wp_at_succ

theorem nlen (n : Nat) : ((n : Int) == 0) = decide (n = 0) := by
  by_cases h : n = 0
  · subst h; rfl
  · rw [decide_eq_false h]
    exact beq_false_of_ne (by omega)

theorem drew_of {W Z Z' : World} {k k' : Nat} (h : Z = W.drewN k) (h' : Z' = Z.drew.drewN k') : ∃ m, Z' = W.drewN m := ⟨k + 1 + k', by rw [h', h]; exact World.drewN_drewN W (k + 1) k'⟩
theorem zzClone (sb : Nat) (w : World) (Q : Ending → World → Prop) (h : Calls Tryf.prog 13 #[.pointer (some ⟨sb, 0, none⟩)] w fun e w' => e = .returned (.tuple #[]) ∧ Q e w') :
    Calls Tryf.prog 9 #[.pointer (some ⟨sb, 0, none⟩)] w fun e w' => e = .returned (.tuple #[]) ∧ Q e w' := by
  go_enter Tryf.func9, Tryf.ntmps9
  go_wp2_with fail
  refine h.mono ?_
  rintro e w1 ⟨rfl, hq⟩
  have HQ := Lib.hid hq
  clear hq
  go_wp2
  go_end0
  exact ⟨rfl, HQ.out⟩

set_option maxHeartbeats 40000000 in
set_option maxRecDepth 100000 in
theorem walk_main (a : Option Addr) (n c : Nat) (f : Nat → Lev) (w : World) (hL : LevsAt w w.heap.size a n f) (hW : Wide n f) :
    Calls Tryf.prog 4 #[.slice a n c] w fun e w' => e = .returned (.bool true) ∧ Below w.heap.size w w' := by
  have HB := Lib.hid (bytes1 a n c f w hL hW)
  by_cases h4 : 4096 < n
  · clear hL hW
    go_enter Tryf.func4, Tryf.ntmps4
    go_wp2_with fail
    refine HB.out.mono ?_
    rintro e w' ⟨⟨b, rfl, _⟩, rfl⟩
    cases b
    all_goals go_wp2
    all_goals go_ret
    all_goals exact ⟨rfl, Below.refl _ _⟩
  have HFIT := Lib.hid (fit a n c f w hL hW (by omega))
  by_cases h0 : n = 0
  · have h00 : (n : Int) = 0 := by omega
    have H0 := Lib.hid h0
    clear hL hW h0
    go_enter Tryf.func4, Tryf.ntmps4
    go_wp2_with fail
    refine HB.out.mono ?_
    rintro e w' ⟨⟨b, rfl, _⟩, rfl⟩
    cases b with
    | false =>
      go_wp2
      go_ret
      exact ⟨rfl, Below.refl _ _⟩
    | true =>
    go_wp2_with fail
    refine HFIT.out.mono ?_
    rintro e w' ⟨⟨b, rfl, _⟩, k, rfl⟩
    cases b
    all_goals go_wp2
    all_goals go_ret
    all_goals exact ⟨rfl, drewN_below (Below.refl _ _) _⟩
  have hn0 : 0 < n := by omega
  obtain ⟨b0, off, rfl, hb0, _⟩ := hL.2 hn0
  have HL := Lib.hid hL
  have h01 : ¬ (n : Int) = 0 := by omega
  have h02 : ((n : Int) == 0) = false := by rw [nlen, decide_eq_false h0]
  have h03 : (0 : Int) < (n : Int) := by omega
  clear hL hW
  go_enter Tryf.func4, Tryf.ntmps4
  go_wp2_with fail
  refine HB.out.mono ?_
  rintro e w' ⟨⟨b, rfl, _⟩, rfl⟩
  cases b with
  | false =>
    go_wp2
    go_ret
    exact ⟨rfl, Below.refl _ _⟩
  | true =>
  go_wp2_with fail
  refine HFIT.out.mono ?_
  rintro e wf ⟨⟨b, rfl, hfit⟩, k, hwf⟩
  have HWF := Lib.hid hwf
  clear hwf HFIT HB
  cases b with
  | false =>
    go_wp2
    go_ret
    exact ⟨rfl, by rw [HWF.out]; exact drewN_below (Below.refl _ _) _⟩
  | true =>
  have HLEN := Lib.hid (hfit rfl)
  have hbf : Below w.heap.size w wf := by rw [HWF.out]; exact drewN_below (Below.refl _ _) _
  have hsf : wf.heap.size = w.heap.size := by rw [HWF.out]; rfl
  have HLF := Lib.hid (show LevsAt wf wf.heap.size (some ⟨b0, off, none⟩) n f by rw [hsf]; exact HL.out.below hbf)
  have HBF := Lib.hid hbf
  clear hfit HL hbf
  go_wp2_with fail
  refine (cloneLevels b0 off n c f wf hn0 HLF.out (by omega) HLEN.out).mono ?_
  rintro e w1 ⟨lg, rfl, hL1, hb1⟩
  have HL1 := Lib.hid hL1
  have HB1 := Lib.hid hb1
  clear hL1 hb1 HLF
  go_wp2_with fail
  refine (buildChain lg n f w1 hn0 HL1.out (by omega) HLEN.out).mono ?_
  rintro e w2 ⟨H, E, K, S, R, he, hbu, hb2⟩
  unfold sl at he
  subst he
  have HBU := Lib.hid hbu
  have HB2 := Lib.hid hb2
  obtain ⟨CH, hCH, cH⟩ := hbu.heads
  have lH := hbu.heads.lt
  have a0 : w2.cell? ⟨H, 0, none⟩ = some (.pointer (some ⟨(R 0).fs, 0, none⟩)) := (cell_of_row _ _ 0 _ _ _ hCH).trans ((cH 0 hn0).trans (congrArg some (if_pos (Nat.zero_le _))))
  have sp := (hbu.lev 0 (Nat.zero_le _) hn0).spec
  obtain ⟨fs0, hfs0⟩ : ∃ fs0, fs0 = (R 0).fs := ⟨_, rfl⟩
  rw [← hfs0] at a0 sp
  have HFS := Lib.hid hfs0
  have lfs : fs0 < w2.heap.size := (Array.getElem?_eq_some_iff.1 sp).1
  have nfs : fs0 ≠ w2.heap.size := by omega
  have nH : H ≠ w2.heap.size := by omega
  obtain ⟨vc, hvc⟩ : ∃ vc, vc = Value.slice (some ⟨(R 0).cs, 0, none⟩) (f 0).ct.length (f 0).ct.length := ⟨_, rfl⟩
  obtain ⟨vo, hvo⟩ : ∃ vo, vo = outerOf n R 0 := ⟨_, rfl⟩
  obtain ⟨ve, hve⟩ : ∃ ve, ve = evOf (f 0) (R 0) := ⟨_, rfl⟩
  have ho0 : vc.oneCell' = true := by rw [hvc]; rfl
  have ho1 : vo.oneCell' = true := by
    rw [hvo]
    unfold outerOf ptr
    split <;> rfl
  have ho2 : ve.oneCell' = true := by
    rw [hve]
    unfold evOf vi
    split <;> rfl
  rw [← hvc, ← hvo, ← hve] at sp
  have HV := Lib.hid (show _ ∧ _ ∧ _ from ⟨hvc, hvo, hve⟩)
  have m0 : w2.cell? ⟨fs0, 0, none⟩ = some (.slice none 0 0) := (cell_of_row _ _ 0 _ _ _ sp).trans rfl
  have m1 : w2.cell? ⟨fs0, 1, none⟩ = some (.slice none 0 0) := (cell_of_row _ _ 1 _ _ _ sp).trans rfl
  have m2 : w2.cell? ⟨fs0, 2, none⟩ = some vc := (cell_of_row _ _ 2 _ _ _ sp).trans rfl
  have m3 : w2.cell? ⟨fs0, 3, none⟩ = some vo := (cell_of_row _ _ 3 _ _ _ sp).trans rfl
  have m4 : w2.cell? ⟨fs0, 4, none⟩ = some ve := (cell_of_row _ _ 4 _ _ _ sp).trans rfl
  have m5 : w2.cell? ⟨fs0, 5, none⟩ = some (.string (f 0).vn) := (cell_of_row _ _ 5 _ _ _ sp).trans rfl
  have m6 : w2.cell? ⟨fs0, 6, none⟩ = some (.slice none 0 0) := (cell_of_row _ _ 6 _ _ _ sp).trans rfl
  have HSP := Lib.hid sp
  clear hbu hb2 hCH cH sp hfs0 hvc hvo hve
  have hz := heap_alloc_new w2 (.cells #[.slice none 0 0, .slice none 0 0, .slice none 0 0, .pointer none, .nilIface, .string ⟨#[]⟩, .slice none 0 0] 39 (0, 0))
  have ht := there7 hz
  have hi7 : (Tryf.prog.info? 39).map (·.size) = some 7 := by kernel_rfl
  have HZ := Lib.hid hz
  clear hz
  go_wp2_with (refine wpList_store_mid (by rfl) _ _ _ (by rfl) w2.heap.size 0 _ (by rfl) (by rfl) (by exact ht) hi7 (by simp [ho0, ho1, ho2, show ∀ s, (Value.string s).oneCell' = true from fun _ => rfl, show ∀ a b c, (Value.slice a b c).oneCell' = true from fun _ _ _ => rfl]) ?_)
  obtain ⟨X, hX⟩ : ∃ X, X = (w2.alloc (.cells #[.slice none 0 0, .slice none 0 0, .slice none 0 0, .pointer none, .nilIface, .string ⟨#[]⟩, .slice none 0 0] 39 (0, 0))).setCells w2.heap.size 0 (vals7 vc vo ve (f 0).vn) := ⟨_, rfl⟩
  change Calls _ _ _ ((w2.alloc (.cells #[.slice none 0 0, .slice none 0 0, .slice none 0 0, .pointer none, .nilIface, .string ⟨#[]⟩, .slice none 0 0] 39 (0, 0))).setCells w2.heap.size 0 (vals7 vc vo ve (f 0).vn)) _
  rw [← hX]
  obtain ⟨s1, s2, s3⟩ := store7 HZ.out vc vo ve (f 0).vn
  rw [← hX] at s1 s2 s3
  have hXk : Kept (fun _ => False) w2 X := ⟨s2.os, s2.tape, s2.output, by rw [s3]; simp, fun b hb _ => (s2.block b (by simp; omega) (by show b ≠ _; omega)).trans (Below.heap_alloc w2 _ b hb)⟩
  rw [HV.out.1, HV.out.2.1, HV.out.2.2] at s1
  have pre := chainPre HBU.out hn0 hXk s1 (Nat.le_refl _) HLEN.out
  refine (zzClone w2.heap.size X (fun _ w' => ∃ Sb ev cu, ChainPost X w' w2.heap.size 0 n f R Sb ev cu) (cloneFS E n f R (n - 1) 0 w2.heap.size X (by omega) pre)).mono ?_
  rintro e W ⟨rfl, Sb, ev, cu, hpost⟩
  have FIN := Lib.hid (finish HBU.out hXk s1 (Nat.le_refl _) hpost)
  have bXW := chainBelow HBU.out hXk (Nat.le_refl _) HB2.out.size hpost
  have b1W : Below w1.heap.size w1 W := HB2.out.trans ((hXk.below (fun _ e => e.elim) HB2.out.size).trans bXW)
  have LEV := Lib.hid (HL1.out.below b1W)
  have HBW : Hid (Below w.heap.size w W) := Lib.hid (HBF.out.trans ((HB1.out.mono (by omega)).trans (b1W.mono (by have := HB1.out.size; omega))))
  have hhead := Lib.hid hpost.head
  obtain ⟨M, hM⟩ : ∃ M, M = X.heap.size := ⟨_, rfl⟩
  rw [← hM] at FIN
  obtain ⟨B1, hB1⟩ : ∃ B1, B1 = w1.heap.size := ⟨_, rfl⟩
  rw [← hB1] at LEV
  obtain ⟨sb, hsb⟩ : ∃ sb, sb = w2.heap.size := ⟨_, rfl⟩
  rw [← hsb] at hhead ⊢
  clear hX s1 s2 s3 hXk pre hpost bXW b1W hM hB1 hsb a0 lfs nfs nH lH ho0 ho1 ho2 HV m0 m1 m2 m3 m4 m5 m6 HSP HZ ht hi7 HBU HB2 HL1 HB1 HFS HBF HWF hsf
  have HLV : Hid (∀ i, i < n → LevAt W B1 lg (0 + i * 4) (f i)) := Lib.hid (by
    obtain ⟨b, off, e, _, h⟩ := LEV.out.2 hn0
    cases e
    exact h)
  go_wp2
  go_loopw [9, 10] (fun cur i wr => ∃ q k : Nat, q ≤ n ∧ i = .int .i64 q ∧ cur = (if q < n then .pointer (some ⟨Sb q, 0, none⟩) else .pointer none) ∧ Hid (wr = W.drewN k)) (fun _ i _ => n - (intOf i).toNat)
  case atStart => exact ⟨0, 0, Nat.zero_le _, rfl, by rw [if_pos hn0, hhead.out], Lib.hid rfl⟩
  case round =>
    obtain ⟨q, k, hq, rfl, hcur, HWR⟩ := hrel
    obtain ⟨wo, rfl⟩ : ∃ wo : World, wo = wr := ⟨_, rfl⟩
    by_cases hlt : q < n
    · rw [if_pos hlt] at hcur
      subst hcur
      have HQ := Lib.hid hlt
      have F1 : Fin M wo H E K S n f R Sb ev cu := by rw [HWR.out]; exact FIN.out.drewN _
      have C1 := F1.cells hlt
      have y1 := C1.hq
      have eF : 0 < q → (binOp .eql 34 (.pointer (some ⟨Sb q, 0, none⟩)) (.pointer (some ⟨(R q).fs, 0, none⟩))).run Tryf.prog wo = .ok (.bool false) wo := fun h => eqF (by have := F1.new q h hlt; have := F1.old q hlt; omega) (F1.spec q hlt) (F1.head q hlt)
      have HE := Lib.hid eF
      have i1 : (q : Int) < (n : Int) := by omega
      clear F1 C1 eF
      go_upto_region 20 with (fail)
      go_cut [57] from 48 to 57 (fun s57 wd => Hid (s57 = .bool false ∧ ∃ k, wd = W.drewN k))
      case first =>
        as_aux_lemma =>
          by_cases hq0 : 0 < q
          · have hq1 : (0 : Int) < (q : Int) := by omega
            have e1 := HE.out hq0
            clear hq0
            go_wp2_with fail
            go_meet
            exact Lib.hid ⟨rfl, k, HWR.out⟩
          · have hq1 : ¬ (0 : Int) < (q : Int) := by omega
            have hq2 : decide ((0 : Int) < (q : Int)) = false := decide_eq_false hq1
            clear hq0
            go_wp2_with fail
            go_meet
            exact Lib.hid ⟨by simp, k, HWR.out⟩
      case rest =>
      obtain ⟨rfl, k2, hk2⟩ := hcut.out
      obtain ⟨Z1, rfl⟩ : ∃ Z1, Z1 = wc := ⟨_, rfl⟩
      have HZ1 := Lib.hid hk2
      clear hk2 hcut y1 HE HWR
      have F : Fin M Z1 H E K S n f R Sb ev cu := by rw [HZ1.out]; exact FIN.out.drewN _
      have C := F.cells HQ.out
      have l0 : Z1.cell? ⟨lg, q * 4, none⟩ = some (.string (f q).vn) := (cell_drewN HZ1.out _).trans (by have h := (HLV.out q HQ.out).1; rwa [Nat.zero_add] at h)
      have y1 := C.hq
      have y2 := C.s5
      have y3 := C.g5
      clear F C
      go_wp2_with fail
      go_quiet (fail)
      go_upto_if 86 with (fail)
      clear y1 y2 y3 l0
      have HZ2 : Hid (Z1.drewN nq = W.drewN (k2 + nq)) := Lib.hid (by rw [HZ1.out, World.drewN_drewN])
      generalize Z1.drewN nq = Z2 at HZ2 ⊢
      obtain ⟨kz2, hkz2⟩ : ∃ kz, kz = k2 + nq := ⟨_, rfl⟩
      rw [← hkz2] at HZ2
      clear hkz2
      go_cut [] from 86 to 107 (fun wd => Hid (∃ k, wd = W.drewN k))
      case first =>
        as_aux_lemma =>
          have F : Fin M Z2 H E K S n f R Sb ev cu := by rw [HZ2.out]; exact FIN.out.drewN _
          have C := F.cells HQ.out
          have y1 := C.hq
          by_cases hb : q + 1 < n
          · have i2 : (q : Int) + 1 < (n : Int) := by omega
            have i3 : (0 : Int) ≤ (q : Int) + 1 := by omega
            have y2 : Z2.cell? ⟨H, q + 1, none⟩ = some (.pointer (some ⟨(R (q + 1)).fs, 0, none⟩)) := (F.cells hb).hq
            have y3 : Z2.cell? ⟨(R q).fs, 3, none⟩ = some (.pointer (some ⟨(R (q + 1)).fs, 0, none⟩)) := C.g3.trans (congrArg some (if_pos hb))
            have e1 := fun m => neF (Z2.drewN m) ⟨(R (q + 1)).fs, 0, none⟩
            have e2 := neF Z2 ⟨(R (q + 1)).fs, 0, none⟩
            clear F C hb
            go_wp2_with fail
            go_quiet (fail)
            go_wp2_with fail
            go_meet
            exact Lib.hid ⟨_, by rw [HZ2.out, World.drewN_drewN]⟩
          · have i2 : ¬ (q : Int) + 1 < (n : Int) := by omega
            have i4 : decide ((q : Int) + 1 < (n : Int)) = false := decide_eq_false i2
            have y3 : Z2.cell? ⟨(R q).fs, 3, none⟩ = some (.pointer none) := C.g3.trans (congrArg some (if_neg hb))
            clear F C hb
            go_wp2_with fail
            go_meet
            exact Lib.hid ⟨_, HZ2.out⟩
      case rest =>
      obtain ⟨kz3, hk3⟩ := hcut.out
      obtain ⟨Z3, rfl⟩ : ∃ Z3, Z3 = wc := ⟨_, rfl⟩
      have HZ3 := Lib.hid hk3
      clear hk3 hcut HZ2
      have F : Fin M Z3 H E K S n f R Sb ev cu := by rw [HZ3.out]; exact FIN.out.drewN _
      have C := F.cells HQ.out
      have l1 : Z3.cell? ⟨lg, q * 4 + 1, none⟩ = some (.bool (f q).en) := (cell_drewN HZ3.out _).trans (by have h := (HLV.out q HQ.out).2.1; rwa [Nat.zero_add] at h)
      clear F C
      go_upto_if 112 with (fail)
      clear l1
      go_cut [] from 112 to 188 (fun wd => Hid (∃ k, wd = W.drewN k))
      case first =>
        as_aux_lemma =>
          have F : Fin M Z3 H E K S n f R Sb ev cu := by rw [HZ3.out]; exact FIN.out.drewN _
          have C := F.cells HQ.out
          have l2 : Z3.cell? ⟨lg, q * 4 + 2, none⟩ = some (.string (f q).et) := (cell_drewN HZ3.out _).trans (by have h := (HLV.out q HQ.out).2.2.1; rwa [Nat.zero_add] at h)
          cases hen : (f q).en with
          | true =>
            have y1 := C.hq
            have y2 : Z3.cell? ⟨Sb q, 4, none⟩ = some .nilIface := by rw [← F.nil q HQ.out hen]; exact C.s4
            have y3 : Z3.cell? ⟨(R q).fs, 4, none⟩ = some .nilIface := C.g4.trans (congrArg some (if_pos hen))
            clear F C hen l2
            go_wp2_with fail
            go_meet
            exact Lib.hid ⟨_, HZ3.out⟩
          | false =>
            obtain ⟨⟨b', g', cap, hev, hM1, hM2, hb', c', hg', hc0⟩, hnode, he1, he2⟩ := F.expr q HQ.out hen
            have y1 := C.hq
            have y2 : Z3.cell? ⟨Sb q, 4, none⟩ = some (.iface 47 (.pointer (some ⟨b', 0, none⟩))) := by
              have h := C.s4
              rw [hev] at h
              exact h
            have y3 : Z3.cell? ⟨(R q).fs, 4, none⟩ = some (.iface 47 (.pointer (some ⟨(R q).e, 0, none⟩))) := C.g4.trans (congrArg some (if_neg (by rw [hen]; exact Bool.false_ne_true)))
            have y4 := C.eq hen
            have hne : b' ≠ (R q).e := by omega
            have hng : g' ≠ (R q).eg := by omega
            have e1 := fun m => eqI (W := Z3.drewN m) hne hb' hnode.1
            have e2 := eqI hne hb' hnode.1
            have e3 := fun m => neI (Z3.drewN m) (R q).e
            have e4 := neI Z3 (R q).e
            have HN := Lib.hid (show _ ∧ _ ∧ _ ∧ _ ∧ _ ∧ _ from ⟨hb', hg', hc0, hnode, hne, hng⟩)
            have HY2 := Lib.hid y2
            have HY4 := Lib.hid y4
            clear F C hen hev hM1 hM2 hb' hg' hc0 hnode he1 he2 hne hng
            go_wp2_with fail
            go_quiet (fail)
            go_upto_region 34 with (fail)
            have HZ4 : Hid (Z3.drewN nq = W.drewN (kz3 + nq)) := Lib.hid (by rw [HZ3.out, World.drewN_drewN])
            have HN4 : Hid ((Z3.drewN nq).heap = Z3.heap) := Lib.hid rfl
            clear y1 y2 y3 y4 e1 e2 e3 e4 l2
            generalize Z3.drewN nq = Z4 at HZ4 HN4 ⊢
            have F : Fin M Z4 H E K S n f R Sb ev cu := by rw [HZ4.out]; exact FIN.out.drewN _
            have C := F.cells HQ.out
            have l2 : Z4.cell? ⟨lg, q * 4 + 2, none⟩ = some (.string (f q).et) := (cell_drewN HZ4.out _).trans (by have h := (HLV.out q HQ.out).2.2.1; rwa [Nat.zero_add] at h)
            have y2 : Z4.cell? ⟨Sb q, 4, none⟩ = some (.iface 47 (.pointer (some ⟨b', 0, none⟩))) := (World.cell?_of_block (by rw [HN4.out])).trans HY2.out
            have y4 : Z4.cell? ⟨E, q, none⟩ = some (.pointer (some ⟨(R q).e, 0, none⟩)) := (World.cell?_of_block (by rw [HN4.out])).trans HY4.out
            have hb' := HN.out.1
            rw [← HN4.out] at hb'
            have k3 : Z4.cell? ⟨b', 3, none⟩ = some (.slice (some ⟨g', 0, none⟩) 1 cap) := (cell_of_row _ _ 3 _ _ _ hb').trans rfl
            have k2 : Z4.cell? ⟨b', 2, none⟩ = some (.pointer none) := (cell_of_row _ _ 2 _ _ _ hb').trans rfl
            have HK3 := Lib.hid k3
            have HK2 := Lib.hid k2
            have mf := nodeVar.free b'
            have mc := nodeVar.ctx b'
            have ml := locVar b'
            have ec : ∀ w, (binOp .eql 55 (.pointer none) (.pointer none)).run Tryf.prog w = .ok (.bool true) w := fun w => run_eql_pointer_nil w _ none (by simp [Program.pointee, Tryf.underlying55])
            have HFR := Lib.hid (freshCopy (R q).e (R q).eg b' g' cap (f q).et ((q : Int) + 1) 0 c' Z4.drew (HN.out.2.2.2.1.keep fun k c t h _ => congrArg (fun h => h[k]?) HN4.out) hb' ((congrArg (fun h => h[g']?) HN4.out).trans HN.out.2.1) HN.out.2.2.1 HN.out.2.2.2.2.1 HN.out.2.2.2.2.2)
            clear F C hb' k3 k2
            go_still_tail 27, (by kernel_rfl)
            still_call ((nbFree b' 1 (.slice (some ⟨g', 0, none⟩) 1 cap) Z4.drew HK3.out).mono fun _ _ h => ⟨h.1, h.2.symm⟩)
            repeat still_step
            still_call ((nbLoc b' 1 Z4.drew).mono fun _ _ h => ⟨h.1, h.2.symm⟩)
            repeat still_step
            still_call ((nbContext b' 1 (.pointer none) Z4.drew HK2.out).mono fun _ _ h => ⟨h.1, h.2.symm⟩)
            repeat still_step
            refine wpStill_nil ?_
            change wpList _ _ _ _ _ Z4.drew
            go_wp2_with fail
            refine HFR.out.mono ?_
            rintro e Z5 ⟨rfl, k5, hk5⟩
            have HK5 := Lib.hid (drew_of HZ4.out hk5)
            clear hk5
            go_wp2_with fail
            go_meet
            exact HK5
      case rest =>
      as_aux_lemma =>
        obtain ⟨kz6, hk6⟩ := hcut.out
        obtain ⟨Z6, rfl⟩ : ∃ Z6, Z6 = wc := ⟨_, rfl⟩
        have HZ6 := Lib.hid hk6
        clear hk6 hcut HZ3
        have F : Fin M Z6 H E K S n f R Sb ev cu := by rw [HZ6.out]; exact FIN.out.drewN _
        have C := F.cells HQ.out
        obtain ⟨ca, cc, h3, h4⟩ := (HLV.out q HQ.out).2.2.2
        rw [Nat.zero_add] at h3
        have l3 : Z6.cell? ⟨lg, q * 4 + 3, none⟩ = some (.slice ca (f q).ct.length cc) := (cell_drewN HZ6.out _).trans h3
        have y2 := C.s2
        have H3 := Lib.hid h3
        have H4 := Lib.hid h4
        clear F C h3 h4
        go_wp2_with fail
        go_quiet (fail)
        have HZ7 : Hid (Z6.drewN nq = W.drewN (kz6 + nq)) := Lib.hid (by rw [HZ6.out, World.drewN_drewN])
        clear l3 y2 HZ6
        generalize Z6.drewN nq = Z7 at HZ7 ⊢
        go_wp2
        go_loopw [11] (fun j wr => ∃ r k : Nat, r ≤ (f q).ct.length ∧ j = .int .i64 r ∧ Hid (wr = W.drewN k)) (fun j _ => (f q).ct.length - (intOf j).toNat)
        case atStart => exact ⟨0, _, Nat.zero_le _, rfl, HZ7⟩
        case round =>
          clear HZ7
          obtain ⟨r, kr, hr, rfl, HZ8⟩ := hrel
          obtain ⟨Z8, rfl⟩ : ∃ Z8, Z8 = wr := ⟨_, rfl⟩
          have l3 : Z8.cell? ⟨lg, q * 4 + 3, none⟩ = some (.slice ca (f q).ct.length cc) := (cell_drewN HZ8.out _).trans H3.out
          have F : Fin M Z8 H E K S n f R Sb ev cu := by rw [HZ8.out]; exact FIN.out.drewN _
          have C := F.cells HQ.out
          by_cases hlt2 : r < (f q).ct.length
          · as_aux_lemma =>
              obtain ⟨b2, off2, rfl, hb2, hcc2⟩ := StrsAt.cell (k := r) H4.out hlt2
              have c2 : Z8.cell? ⟨b2, off2 + r, none⟩ = some (.string ((f q).tag r)) := (cell_drewN HZ8.out _).trans (hcc2 r hlt2)
              obtain ⟨⟨b', g', cap, hev, hM1, hM2, hb', c', hg', hc0⟩, hnode, he1, he2⟩ := F.cond q HQ.out r hlt2
              have y2 := C.s2
              have y5 : Z8.cell? ⟨(R q).cs, r * 2, none⟩ = some (.iface 47 (.pointer (some ⟨b', 0, none⟩))) := by
                have h := ((F.cs q HQ.out).cell hlt2).1
                rw [hev] at h
                exact h
              have y6 := C.kq
              have y7 : Z8.cell? ⟨(R q).cv, r, none⟩ = some (.pointer (some ⟨(R q).v r, 0, none⟩)) := ((F.cv q HQ.out).cell hlt2).1
              have hne : b' ≠ (R q).v r := by omega
              have hng : g' ≠ (R q).g r := by omega
              have e1 := fun m => eqI (W := Z8.drewN m) hne hb' hnode.1
              have e2 := eqI hne hb' hnode.1
              have HN := Lib.hid (show _ ∧ _ ∧ _ ∧ _ ∧ _ ∧ _ from ⟨hb', hg', hc0, hnode, hne, hng⟩)
              have i5 : (r : Int) < ((f q).ct.length : Int) := by omega
              have hrb : r < 1048576 := by have := HLEN.out q HQ.out; omega
              clear F C hev hM1 hM2 hb' hg' hc0 hnode he1 he2 hne hng hcc2
              go_wp2_with fail
              go_quiet (fail)
              go_upto_region 43 with (fail)
              have HZ9 : Hid (Z8.drewN nq = W.drewN (kr + nq)) := Lib.hid (by rw [HZ8.out, World.drewN_drewN])
              have HN9 : Hid ((Z8.drewN nq).heap = Z8.heap) := Lib.hid rfl
              have x2 : (Z8.drewN nq).cell? ⟨Sb q, 2, none⟩ = _ := y2
              have x3 : (Z8.drewN nq).cell? ⟨lg, q * 4 + 3, none⟩ = _ := l3
              have x4 : (Z8.drewN nq).cell? ⟨b2, off2 + r, none⟩ = _ := c2
              have x5 : (Z8.drewN nq).cell? ⟨(R q).cs, r * 2, none⟩ = _ := y5
              have x6 : (Z8.drewN nq).cell? ⟨K, q, none⟩ = _ := y6
              have x7 : (Z8.drewN nq).cell? ⟨(R q).cv, r, none⟩ = _ := y7
              clear y2 l3 c2 y5 y6 y7 e1 e2
              generalize Z8.drewN nq = Z9 at HZ9 HN9 x2 x3 x4 x5 x6 x7 ⊢
              have hb' := HN.out.1
              rw [← HN9.out] at hb'
              have k3 : Z9.cell? ⟨b', 3, none⟩ = some (.slice (some ⟨g', 0, none⟩) 1 cap) := (cell_of_row _ _ 3 _ _ _ hb').trans rfl
              have k2 : Z9.cell? ⟨b', 2, none⟩ = some (.pointer none) := (cell_of_row _ _ 2 _ _ _ hb').trans rfl
              have HK3 := Lib.hid k3
              have HK2 := Lib.hid k2
              have mf := nodeVar.free b'
              have mc := nodeVar.ctx b'
              have ml := locVar b'
              have ec : ∀ w, (binOp .eql 55 (.pointer none) (.pointer none)).run Tryf.prog w = .ok (.bool true) w := fun w => run_eql_pointer_nil w _ none (by simp [Program.pointee, Tryf.underlying55])
              have HFR := Lib.hid (freshCopy ((R q).v r) ((R q).g r) b' g' cap ((f q).tag r) ((q : Int) + 1) ((r : Int) + 1) c' Z9.drew (HN.out.2.2.2.1.keep fun k c t h _ => congrArg (fun h => h[k]?) HN9.out) hb' ((congrArg (fun h => h[g']?) HN9.out).trans HN.out.2.1) HN.out.2.2.1 HN.out.2.2.2.2.1 HN.out.2.2.2.2.2)
              clear hb' k3 k2
              go_still_tail 47, (by kernel_rfl)
              still_call ((nbFree b' 1 (.slice (some ⟨g', 0, none⟩) 1 cap) Z9.drew HK3.out).mono fun _ _ h => ⟨h.1, h.2.symm⟩)
              repeat still_step
              still_call ((nbLoc b' 1 Z9.drew).mono fun _ _ h => ⟨h.1, h.2.symm⟩)
              repeat still_step
              still_call ((nbContext b' 1 (.pointer none) Z9.drew HK2.out).mono fun _ _ h => ⟨h.1, h.2.symm⟩)
              repeat still_step
              refine wpStill_nil ?_
              change wpList _ _ _ _ _ Z9.drew
              clear x2 x3 x4 x5 x6 x7 mf mc ml ec
              go_wp2_with fail
              refine HFR.out.mono ?_
              rintro e Z5 ⟨rfl, k5, hk5⟩
              have HK5 := Lib.hid (drew_of HZ9.out hk5)
              clear hk5
              go_wp2
              go_roundw
              case rel => 
                obtain ⟨k6, hk6⟩ := HK5.out
                exact ⟨r + 1, k6, by omega, by go_num, Lib.hid hk6⟩
              case measure => simp [intOf]; omega
          · have i5 : ¬ (r : Int) < ((f q).ct.length : Int) := by omega
            have y3 := C.s3
            clear F C
            go_wp2
            go_roundw
            case rel => exact ⟨q + 1, kr, by omega, by go_num, rfl, HZ8⟩
            case measure => simp [intOf]; omega
    · rw [if_neg hlt] at hcur
      subst hcur
      have i1 : ¬ (q : Int) < (n : Int) := by omega
      go_wp2
      go_ret
      exact ⟨rfl, by rw [HWR.out]; exact drewN_below HBW.out _⟩

end Go.Proofs.YtpcoeakcnmeblaaFmt.fnCloneForSpecFreshStructuralCopy
