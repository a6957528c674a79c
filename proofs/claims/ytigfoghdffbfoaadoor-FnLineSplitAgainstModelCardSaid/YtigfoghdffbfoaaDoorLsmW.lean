/-
  The walk of FnLineSplitAgainstModel.
-/
import Derived.Test.YtigfoghdffbfoaaDoorLsmA
import Derived.Test.YtigfoghdffbfoaaDoorLscW
import Derived.Test.YtigfoghdffbfoaaDoorVUtfC
import Derived.Deep.QuietTactic
import Derived.BigQuiet
namespace Go.Proofs.YtigfoghdffbfoaaDoor.fnLineSplitAgainstModel
open Go Go.RowKit Go.Shelf

theorem bytes_ok (s : ByteArray) (mg : Int) (w : World) (h1 : s.size ≤ 1048576) :
    Calls Tryd.prog 7 #[.string s, .int .i64 mg] w fun e w' => e = .returned (.bool true) ∧ w = w' := by
  have q2 : decide (1048576 < s.size) = false := decide_eq_false (by omega)
  go_enter Tryd.func7, Tryd.ntmps7
  go_wp2
  all_goals go_ret
  all_goals exact ⟨rfl, rfl⟩
theorem bytes_no (s : ByteArray) (mg : Int) (w : World) (hs : s.size ≤ maxLen) (h1 : 1048576 < s.size) :
    Calls Tryd.prog 7 #[.string s, .int .i64 mg] w fun e w' => e = .returned (.bool false) ∧ w = w' := by
  unfold maxLen at hs
  go_enter Tryd.func7, Tryd.ntmps7
  go_wp2
  all_goals go_ret
  all_goals exact ⟨rfl, rfl⟩

theorem stripElem (s : ByteArray) (st q : Nat) (mg : Int) (o : ByteArray) (w : World) (hs : s.size ≤ 1048576) (hm : ∀ r : ByteArray, SModel (seg s st q) mg r.data.toList → r = o) :
    Calls Tryd.prog 9 #[.string (s.extract st q), .int .i64 mg] w fun e w' => e = .returned (.string o) ∧ w' = w := by
  refine (stripModel (s.extract st q) mg (by rw [ByteArray.size_extract]; omega) w).mono ?_
  rintro e w' ⟨r, rfl, hS, rfl⟩
  refine ⟨?_, rfl⟩
  rw [hm r]
  unfold SMP at hS
  have e1 : (s.extract st q).data.toList = seg s st q := by
    unfold seg
    rw [ByteArray.data_extract, Array.toList_extract, List.extract_eq_take_drop]
    exact (List.drop_take ..).symm
  rwa [e1] at hS

set_option maxHeartbeats 6400000 in
set_option maxRecDepth 100000 in
theorem walk (s : ByteArray) (mg : Int) (w : World) (hs : s.size ≤ maxLen) (_ : (Lit.int .i64 mg).wf = true) :
    Calls Tryd.prog 4 #[.string s, .int .i64 mg] w fun e w' => e = .returned (.bool true) ∧ Below w.heap.size w w' := by
  by_cases hz : 1048576 < s.size
  · go_enter Tryd.func4, Tryd.ntmps4
    go_wp2_with (go_at_call 7; refine (bytes_no s mg _ hs hz).mono ?_; rintro e w' ⟨rfl, rfl⟩)
    go_ret
    exact ⟨rfl, Below.refl _ _⟩
  have hz' : s.size ≤ 1048576 := by omega
  have hlen := srcLines_len s
  have hnl := nlc_le s s.size
  have HSL := Lib.hid hlen
  clear hz hs hlen
  go_enter Tryd.func4, Tryd.ntmps4
  go_wp2_with fail
  refine (bytes_ok s mg _ hz').mono ?_
  rintro e w' ⟨rfl, rfl⟩
  go_wp2_with fail
  refine (validB3 s (by omega) _).mono ?_
  rintro e w' ⟨b, rfl, hv, rfl⟩
  have HV0 := Lib.hid hv
  clear hv
  cases b
  · go_wp2
    all_goals go_ret
    all_goals exact ⟨rfl, Below.refl _ _⟩
  have HV := Lib.hid (HV0.out rfl)
  clear HV0
  go_wp2_with fail
  refine (zzSplit s mg hz' _).mono ?_
  rintro e w1 ⟨v, os, rfl, hp, hown, hb⟩
  have hln : os.length = nlc s s.size + 1 := by rw [← hp.len, HSL.out]
  have hown2 : w1.ownsRow w.heap.size 9 1 v (nlc s s.size + 1) (os.map Value.string) := hln ▸ hown
  obtain ⟨g, cap, rfl, hg1, hg2⟩ := World.ownsRow.form hown2 (by omega)
  have HP := Lib.hid hp
  have HO : Hid (w1.ownsRow w.heap.size 9 1 (.slice (some ⟨g, 0, none⟩) (nlc s s.size + 1) cap) (nlc s s.size + 1) (os.map Value.string)) := Lib.hid hown2
  clear hown2
  have HB := Lib.hid hb
  have HL := Lib.hid hln
  clear hp hown hb hln
  go_wp2
  go_loop [6, 7] (fun c i => ∃ k : Nat, k ≤ s.size ∧ i = .int .i64 k ∧ c = .int .i64 (nlc s k + 1 : Int)) (fun _ i => s.size - (intOf i).toNat)
  case atStart => exact ⟨0, Nat.zero_le _, rfl, rfl⟩
  case round =>
    obtain ⟨k, hk, rfl, rfl⟩ := hrel
    have h1 := nlc_le s k
    by_cases hks : k < s.size
    · have hbyte := byte_of_get s k hks
      by_cases h10 : byteAt s k = 10
      · have e1 := Lib.hid (nlc_nl h10)
        have hB : (((s[k]'hks).toNat : Int) == 10) = true := beq_iff_eq.2 (by omega)
        clear h10 hbyte
        go_wp2
        go_round
        case rel => exact ⟨k + 1, by omega, by go_num, by rw [e1.out]; go_num⟩
        case measure => simp [intOf]; omega
      · have e1 := Lib.hid (nlc_no h10)
        have hB : (((s[k]'hks).toNat : Int) == 10) = false := beq_eq_false_iff_ne.2 (by omega)
        clear h10 hbyte
        go_wp2
        go_round
        case rel => exact ⟨k + 1, by omega, by go_num, by rw [e1.out]⟩
        case measure => simp [intOf]; omega
    · obtain rfl : k = s.size := by omega
      go_wp2
      go_loopw [8, 9, 10] (fun st kk i wr => ∃ q kv sv : Nat, i = .int .i64 q ∧ kk = .int .i64 kv ∧ st = .int .i64 sv ∧ q ≤ s.size + 1 ∧ Hid (q ≤ s.size → kv = nlc s q ∧ sv = nle s q) ∧ Hid (wr.heap = w1.heap) ∧ Below w.heap.size w wr) (fun _ _ i _ => s.size + 1 - (intOf i).toNat)
      case atStart => exact ⟨0, 0, 0, rfl, rfl, rfl, Nat.zero_le _, Lib.hid (fun _ => ⟨rfl, rfl⟩), Lib.hid rfl, HB.out⟩
      case round =>
        obtain ⟨q, kv, sv, rfl, rfl, rfl, hq, HR, HH, hbw⟩ := hrel
        by_cases hqe : q ≤ s.size
        · obtain ⟨rfl, rfl⟩ := HR.out hqe
          clear HR
          by_cases hlt : q < s.size
          · have hbyte := byte_of_get s q hlt
            have hqn : ((q : Int) == (s.size : Int)) = false := beq_eq_false_iff_ne.2 (by omega)
            have h1 := nlc_le s q
            by_cases h10 : byteAt s q = 10
            · have e1 := nlc_nl h10
              have e2 := nle_nl h10
              have hB : (((s[q]'hlt).toNat : Int) == 10) = true := beq_iff_eq.2 (by omega)
              have H3 : q = s.size ∨ byteAt s q = 10 := .inr h10
              have HX : Hid (q + 1 ≤ s.size → nlc s q + 1 = nlc s (q + 1) ∧ q + 1 = nle s (q + 1)) := Lib.hid (fun _ => ⟨e1.symm, e2.symm⟩)
              have H3' := Lib.hid H3
              clear h10 hbyte e1 e2 H3
              obtain ⟨o, ho, hm⟩ := elem_model HV.out HP.out q (by omega) H3'.out
              have hkl : nlc s q < nlc s s.size + 1 := by rw [← HL.out]; exact (List.getElem?_eq_some_iff.1 ho).1
              have hnl := nle_le s q
              have hcell : wr.cell? ⟨g, nlc s q, none⟩ = some (.string o) := by
                have h1 := (World.ownsRow.cellAt HO.out (nlc s q) (by omega)).trans (by rw [List.getElem?_map, ho])
                have h2 : wr.cell? ⟨g, nlc s q, none⟩ = w1.cell? ⟨g, nlc s q, none⟩ := by unfold World.cell?; rw [HH.out]
                exact h2.trans h1
              have HSM := Lib.hid (fun w => stripElem s (nle s q) q mg o w hz' hm)
              clear ho hm
              have i1 : (0 : Int) ≤ (nlc s q : Int) := Int.natCast_nonneg _
              have i2 : (nlc s q : Int) < ((nlc s s.size + 1 : Nat) : Int) := by omega
              have i3 : (nle s q : Int) ≤ (q : Int) := by omega
              have i4 : (q : Int) ≤ (s.size : Int) := by omega
              have i5 : (0 : Int) ≤ (nle s q : Int) := Int.natCast_nonneg _
              go_wp2_with fail
              go_quiet ((go_at_call 9; exact Calls.quiet_of_same (HSM.out _)))
              go_wp2
              go_roundw
              case rel => exact ⟨q + 1, nlc s q + 1, q + 1, by go_num, by go_num, by go_num, by omega, HX, Lib.hid ((drewN_heap _ _).trans HH.out), drewN_below hbw _⟩
              case measure => (simp [intOf]; try omega)
            · have e1 := nlc_no h10
              have e2 := nle_no h10
              have hB : (((s[q]'hlt).toNat : Int) == 10) = false := beq_eq_false_iff_ne.2 (by omega)
              have HX : Hid (q + 1 ≤ s.size → nlc s q = nlc s (q + 1) ∧ nle s q = nle s (q + 1)) := Lib.hid (fun _ => ⟨e1.symm, e2.symm⟩)
              clear h10 hbyte e1 e2
              go_wp2
              go_roundw
              case rel => exact ⟨q + 1, _, _, by go_num, rfl, rfl, by omega, HX, HH, hbw⟩
              case measure => simp [intOf]; omega
          · obtain rfl : q = s.size := by omega
            have HX : Hid (s.size + 1 ≤ s.size → nlc s s.size + 1 = nlc s (s.size + 1) ∧ s.size + 1 = nle s (s.size + 1)) := Lib.hid (fun h => absurd h (by omega))
            have H3' : Hid (s.size = s.size ∨ byteAt s s.size = 10) := Lib.hid (.inl rfl)
            have h1 := nlc_le s s.size
            obtain ⟨o, ho, hm⟩ := elem_model HV.out HP.out s.size (by omega) H3'.out
            have hkl : nlc s s.size < nlc s s.size + 1 := by rw [← HL.out]; exact (List.getElem?_eq_some_iff.1 ho).1
            have hnl := nle_le s s.size
            have hcell : wr.cell? ⟨g, nlc s s.size, none⟩ = some (.string o) := by
              have h1 := (World.ownsRow.cellAt HO.out (nlc s s.size) (by omega)).trans (by rw [List.getElem?_map, ho])
              have h2 : wr.cell? ⟨g, nlc s s.size, none⟩ = w1.cell? ⟨g, nlc s s.size, none⟩ := by unfold World.cell?; rw [HH.out]
              exact h2.trans h1
            have HSM := Lib.hid (fun w => stripElem s (nle s s.size) s.size mg o w hz' hm)
            clear ho hm
            have i1 : (0 : Int) ≤ (nlc s s.size : Int) := Int.natCast_nonneg _
            have i2 : (nlc s s.size : Int) < ((nlc s s.size + 1 : Nat) : Int) := by omega
            have i3 : (nle s s.size : Int) ≤ (s.size : Int) := by omega
            have i4 : (s.size : Int) ≤ (s.size : Int) := by omega
            have i5 : (0 : Int) ≤ (nle s s.size : Int) := Int.natCast_nonneg _
            go_wp2_with fail
            go_quiet ((go_at_call 9; exact Calls.quiet_of_same (HSM.out _)))
            go_wp2
            go_roundw
            case rel => exact ⟨s.size + 1, nlc s s.size + 1, s.size + 1, by go_num, by go_num, by go_num, by omega, HX, Lib.hid ((drewN_heap _ _).trans HH.out), drewN_below hbw _⟩
            case measure => (simp [intOf]; try omega)
        · have hq2 : q = s.size + 1 := by omega
          subst hq2
          go_wp2
          go_ret
          exact ⟨rfl, hbw⟩

end Go.Proofs.YtigfoghdffbfoaaDoor.fnLineSplitAgainstModel
