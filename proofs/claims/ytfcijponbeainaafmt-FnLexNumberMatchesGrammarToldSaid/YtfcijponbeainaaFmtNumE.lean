/-
  zzNumberModel: the grammar's end and the text without '_'.
-/
import Derived.Test.YtfcijponbeainaaFmtNumF
import Derived.Test.YtfcijponbeainaaFmtNumT
import Derived.Lib.BufSteps
import Derived.Lib.UnsafeStr
import Derived.Deep.CutRange
import Derived.OwnWalk
namespace Go.Proofs.YtfcijponbeainaaFmt
open Go Go.RowKit Go.Shelf

def ModPost (s : ByteArray) (w : World) (e : Ending) (w' : World) : Prop :=
  ((∃ k : Nat, numModel s.data.toList = some k ∧ 1 ≤ k ∧ k ≤ s.size ∧ e = .returned (.tuple #[.string ⟨(numBuf s 0 k).toArray⟩, .int .i64 k, .bool true])) ∨
   (numModel s.data.toList = none ∧ e = .returned (.tuple #[.string ⟨#[]⟩, .int .i64 0, .bool false]))) ∧ Below w.heap.size w w'
def IsIn (b : Bool) (p : Prop) : Prop := b = true ↔ p
theorem IsIn.yes {p : Prop} (h : p) : IsIn true p := ⟨fun _ => h, fun _ => rfl⟩
theorem IsIn.no {p : Prop} (h : ¬ p) : IsIn false p := ⟨fun e => (by cases e), fun e => absurd e h⟩
theorem IsIn.out_yes {p : Prop} (h : IsIn true p) : p := h.1 rfl
theorem IsIn.out_no {p : Prop} (h : IsIn false p) (e : p) : False := by cases h.2 e
theorem bqf {b : UInt8} {n : Nat} (h : ¬ b.toNat = n) : ((b.toNat : Int) == (n : Int)) = false := beq_eq_false_iff_ne.2 (by omega)
theorem u8n {b : UInt8} {c : UInt8} (h : ¬ b = c) : ¬ b.toNat = c.toNat := fun e => h (UInt8.toNat_inj.1 e)
theorem infoU8' : (Tryf.prog.info? 5).map (fun i => (i.zero, i.size, i.bytes)) = some (some (.int .u8 0), 1, 1) := by kernel_rfl
theorem nm_at {s : ByteArray} (h : 0 < s.size) (e : s[0]'h ≠ 48) (hd : dig (s[0]'h)) : numModel s.data.toList = (numGrpAt s.data.toList 0).bind (numFrac s.data.toList) := by
  rw [nm_grp h e, ga_dig h hd]
  split <;> rfl
theorem zzGroupAt (s : ByteArray) (k : Nat) (z : Int) (hz : z = k) (hk : k < s.size) (hd : dig (s[k]'hk)) (hs : s.size ≤ 2000000) (w : World) :
    Calls Tryf.prog 15 #[.string s, .int .i64 z] w fun e w' => ((∃ j : Nat, numGrpAt s.data.toList k = some j ∧ k + 1 ≤ j ∧ j ≤ s.size ∧ e = .returned (.tuple #[.int .i64 j, .bool true])) ∨ (numGrpAt s.data.toList k = none ∧ ∃ j : Nat, e = .returned (.tuple #[.int .i64 j, .bool false]))) ∧ w = w' := by
  subst hz
  refine (zzGroup s k hk hs w).mono ?_
  rintro e w' ⟨rfl, rfl⟩
  refine ⟨?_, rfl⟩
  have hb := grp_bd s (k + 1) (by omega)
  rw [ga_dig hk hd]
  cases hg : (grp (s.data.toList.drop (k + 1)) (k + 1)).2
  · exact .inr ⟨by simp, _, rfl⟩
  · exact .inl ⟨_, by simp, hb.1, hb.2, rfl⟩
theorem nums_bytes (l : List UInt8) : strOfNums (l.map fun b => (b.toNat : Int)) = ⟨l.toArray⟩ := by
  unfold strOfNums
  rw [List.map_map]
  congr 1
  congr 1
  conv => rhs; rw [← List.map_id l]
  apply List.map_congr_left
  intro b _
  simp
theorem numBuf_pos {s : ByteArray} (h : 0 < s.size) (hd : dig (s[0]'h)) {i : Nat} (hi : 1 ≤ i) : 1 ≤ (numBuf s 0 i).length := by
  refine List.length_pos_of_mem (a := s[0]'h) ?_
  unfold numBuf
  rw [drop_get s 0 h, show i = (i - 1) + 1 by omega, List.take_succ_cons]
  refine List.mem_filter.2 ⟨List.mem_cons_self, ?_⟩
  have : s[0]'h ≠ 95 := fun e => by rw [e] at hd; revert hd; decide
  simpa using this

set_option maxHeartbeats 6400000 in
set_option maxRecDepth 100000 in
theorem zzModel (s : ByteArray) (h0 : 0 < s.size) (hd : dig (s[0]'h0)) (hs : s.size ≤ 2000000) (w : World) :
    Calls Tryf.prog 7 #[.string s] w (ModPost s w) := by
  obtain ⟨i0, hi, hz0, hz1, hz2⟩ := info_parts infoU8'
  have hD0 := Lib.hid hd
  clear hd
  go_enter Tryf.func7, Tryf.ntmps7
  go_upto_if 15 with fail
  go_cut [6, 7] from 11 to 31 (fun s6 s7 wc => ∃ i : Nat, s6 = .int .i64 (i : Int) ∧ s7 = .bool true ∧ 1 ≤ i ∧ i ≤ s.size ∧ Hid (numModel s.data.toList = numFrac s.data.toList i) ∧ wc = w)
  case first =>
    by_cases e48 : s[0]'h0 = 48
    · have c48 : (((s[0]'h0).toNat : Int) == 48) = true := by rw [e48]; rfl
      by_cases h1 : 1 < s.size
      · have q1 : (1 : Int) < (s.size : Int) := by omega
        by_cases e95 : s[1]'h1 = 95
        · have c95 : (((s[1]'h1).toNat : Int) == 95) = true := by rw [e95]; rfl
          have HE := Lib.hid (nm_zero_us h0 e48 h1 e95)
          clear e48 e95
          go_wp2
          go_ret3
          exact ⟨.inr ⟨HE.out, rfl⟩, Below.refl _ _⟩
        · have c95 : (((s[1]'h1).toNat : Int) == 95) = false := bqf (n := 95) (u8n e95)
          have HE : Hid (numModel s.data.toList = numFrac s.data.toList ((1 : Nat))) := Lib.hid (nm_zero h0 e48 (fun _ => e95))
          clear e48 e95
          go_wp2_with fail
          go_meet
          exact ⟨1, rfl, rfl, by omega, by omega, HE, rfl⟩
      · have q1 : ¬ (1 : Int) < (s.size : Int) := by omega
        have HE : Hid (numModel s.data.toList = numFrac s.data.toList ((1 : Nat))) := Lib.hid (nm_zero h0 e48 (fun h => absurd h h1))
        clear e48
        go_wp2_with fail
        go_meet
        exact ⟨1, rfl, rfl, by omega, by omega, HE, rfl⟩
    · have c48 : (((s[0]'h0).toNat : Int) == 48) = false := bqf (n := 48) (u8n e48)
      have HM := Lib.hid (nm_at h0 e48 hD0.out)
      clear e48
      go_wp2_with fail
      refine (zzGroupAt s (0) _ (by omega) h0 hD0.out hs _).mono ?_
      rintro e w' ⟨⟨j, hj, hj1, hj2, rfl⟩ | ⟨hj, j, rfl⟩, rfl⟩
      · have HE := Lib.hid (show numModel s.data.toList = numFrac s.data.toList j by rw [HM.out, hj]; rfl)
        clear hj
        go_wp2_with fail
        go_meet
        exact ⟨j, rfl, rfl, by omega, by omega, HE, rfl⟩
      · have HE : Hid (numModel s.data.toList = none) := Lib.hid (by rw [HM.out, hj]; rfl)
        clear hj
        go_wp2
        go_ret3
        exact ⟨.inr ⟨HE.out, rfl⟩, Below.refl _ _⟩
  case rest =>
  obtain ⟨i, rfl, rfl, hi1, hi2, HM, hwc⟩ := hcut
  obtain rfl : w = wc := hwc.symm
  clear hwc
  go_step
  go_step
  go_cut [6, 7] from 32 to 60 (fun s6 s7 wc => ∃ i : Nat, s6 = .int .i64 (i : Int) ∧ s7 = .bool true ∧ 1 ≤ i ∧ i ≤ s.size ∧ Hid (numModel s.data.toList = numExp s.data.toList i) ∧ wc = w)
  case first =>
    by_cases hin : i < s.size
    · have qi : (i : Int) < (s.size : Int) := by omega
      by_cases e46 : s[i]'hin = 46
      · have c46 : (((s[i]'hin).toNat : Int) == 46) = true := by rw [e46]; rfl
        have HM2 := Lib.hid (HM.out.trans (nf_dot hin e46))
        clear e46
        by_cases hin2 : i + 1 < s.size
        · have q2 : (i : Int) + 1 < (s.size : Int) := by omega
          by_cases hdg : dig (s[i + 1]'hin2)
          · have HD : Hid (dgz (((s[i + 1]'hin2).toNat : Nat) : Int) = true) := Lib.hid ((dig_dgz _).1 hdg)
            have HG := Lib.hid hdg
            clear hdg
            go_wp2_with (go_at_call 6; refine (zzDigit _ _).mono ?_; rw [HD.out]; rintro e w' ⟨rfl, rfl⟩)
            refine (zzGroupAt s (i + 1) _ (by omega) hin2 HG.out hs _).mono ?_
            rintro e w' ⟨⟨j, hj, hj1, hj2, rfl⟩ | ⟨hj, j, rfl⟩, rfl⟩
            · have HE := Lib.hid (show numModel s.data.toList = numExp s.data.toList j by rw [HM2.out, hj]; rfl)
              clear hj
              go_wp2_with fail
              go_meet
              exact ⟨j, rfl, rfl, by omega, by omega, HE, rfl⟩
            · have HE : Hid (numModel s.data.toList = none) := Lib.hid (by rw [HM2.out, hj]; rfl)
              clear hj
              go_wp2
              go_ret3
              exact ⟨.inr ⟨HE.out, rfl⟩, Below.refl _ _⟩
          · have HD : Hid (dgz (((s[i + 1]'hin2).toNat : Nat) : Int) = false) := Lib.hid (by cases hz : dgz (((s[i + 1]'hin2).toNat : Nat) : Int); rfl; exact absurd ((dig_dgz _).2 hz) hdg)
            have HE : Hid (numModel s.data.toList = none) := Lib.hid (by rw [HM2.out, ga_no (fun _ => hdg)]; rfl)
            clear hdg
            go_wp2_with (go_at_call 6; refine (zzDigit _ _).mono ?_; rw [HD.out]; rintro e w' ⟨rfl, rfl⟩)
            go_wp2
            go_ret3
            exact ⟨.inr ⟨HE.out, rfl⟩, Below.refl _ _⟩
        · have q2 : ¬ (i : Int) + 1 < (s.size : Int) := by omega
          have HE : Hid (numModel s.data.toList = none) := Lib.hid (by rw [HM2.out, ga_no (fun h => absurd h hin2)]; rfl)
          go_wp2
          go_ret3
          exact ⟨.inr ⟨HE.out, rfl⟩, Below.refl _ _⟩
      · have c46 : (((s[i]'hin).toNat : Int) == 46) = false := bqf (n := 46) (u8n e46)
        have HE := Lib.hid (HM.out.trans (nf_oth (fun _ => e46)))
        clear e46
        go_wp2_with fail
        go_meet
        exact ⟨i, rfl, rfl, by omega, by omega, HE, rfl⟩
    · have qi : ¬ (i : Int) < (s.size : Int) := by omega
      have HE := Lib.hid (HM.out.trans (nf_oth (fun h => absurd h hin)))
      go_wp2_with fail
      go_meet
      exact ⟨i, rfl, rfl, by omega, by omega, HE, rfl⟩
  case rest =>
  clear hi1 hi2 HM
  clear i
  obtain ⟨i, rfl, rfl, hi1, hi2, HM, hwc⟩ := hcut
  obtain rfl : w = wc := hwc.symm
  clear hwc
  go_step
  go_step
  go_cut [6, 7] from 61 to 111 (fun s6 s7 wc => ∃ i : Nat, s6 = .int .i64 (i : Int) ∧ s7 = .bool true ∧ 1 ≤ i ∧ i ≤ s.size ∧ Hid (numModel s.data.toList = some i) ∧ wc = w)
  case first =>
    go_step
    go_cut [75] from 61 to 75 (fun s75 wd => ∃ b : Bool, s75 = .bool b ∧ Hid (IsIn b (∃ h : i < s.size, s[i]'h = 101 ∨ s[i]'h = 69)) ∧ wd = w)
    case first =>
      by_cases hin : i < s.size
      · have qi : (i : Int) < (s.size : Int) := by omega
        by_cases ea : s[i]'hin = 101
        · have ca : (((s[i]'hin).toNat : Int) == 101) = true := by rw [ea]; rfl
          have HB : Hid (IsIn true (∃ h : i < s.size, s[i]'h = 101 ∨ s[i]'h = 69)) := Lib.hid (IsIn.yes ⟨hin, .inl ea⟩)
          clear ea
          go_wp2_with fail
          go_meet
          exact ⟨_, rfl, HB, rfl⟩
        · have ca : (((s[i]'hin).toNat : Int) == 101) = false := bqf (n := 101) (u8n ea)
          by_cases eb : s[i]'hin = 69
          · have cb : (((s[i]'hin).toNat : Int) == 69) = true := by rw [eb]; rfl
            have HB : Hid (IsIn true (∃ h : i < s.size, s[i]'h = 101 ∨ s[i]'h = 69)) := Lib.hid (IsIn.yes ⟨hin, .inr eb⟩)
            clear ea eb
            go_wp2_with fail
            go_meet
            exact ⟨_, rfl, HB, rfl⟩
          · have cb : (((s[i]'hin).toNat : Int) == 69) = false := bqf (n := 69) (u8n eb)
            have HB : Hid (IsIn false (∃ h : i < s.size, s[i]'h = 101 ∨ s[i]'h = 69)) := Lib.hid (IsIn.no (by rintro ⟨_, h | h⟩; exact ea h; exact eb h))
            clear ea eb
            go_wp2_with fail
            go_meet
            exact ⟨_, rfl, HB, rfl⟩
      · have qi : ¬ (i : Int) < (s.size : Int) := by omega
        have HB : Hid (IsIn false (∃ h : i < s.size, s[i]'h = 101 ∨ s[i]'h = 69)) := Lib.hid (IsIn.no (fun ⟨h, _⟩ => hin h))
        go_wp2_with fail
        go_meet
        exact ⟨_, rfl, HB, rfl⟩
    case rest =>
      obtain ⟨b, rfl, HB, hwc⟩ := hcut
      obtain rfl : w = wc := hwc.symm
      cases b
      · have HE := Lib.hid (HM.out.trans (ne_oth (fun h e => HB.out.out_no ⟨h, e⟩)))
        go_wp2_with fail
        go_meet
        exact ⟨i, rfl, rfl, by omega, by omega, HE, rfl⟩
      · obtain ⟨hin, he⟩ := HB.out.out_yes
        have HH := Lib.hid he
        clear he HB
        go_upto_region 19 with fail
        go_cut [92] from 78 to 92 (fun s92 wd => ∃ b : Bool, s92 = .bool b ∧ Hid (IsIn b (∃ h : i + 1 < s.size, s[i + 1]'h = 43 ∨ s[i + 1]'h = 45)) ∧ wd = w)
        case first =>
          by_cases hin2 : i + 1 < s.size
          · have qi : (i : Int) + 1 < (s.size : Int) := by omega
            by_cases ea : s[i + 1]'hin2 = 43
            · have ca : (((s[i + 1]'hin2).toNat : Int) == 43) = true := by rw [ea]; rfl
              have HB : Hid (IsIn true (∃ h : i + 1 < s.size, s[i + 1]'h = 43 ∨ s[i + 1]'h = 45)) := Lib.hid (IsIn.yes ⟨hin2, .inl ea⟩)
              clear ea
              go_wp2_with fail
              go_meet
              exact ⟨_, rfl, HB, rfl⟩
            · have ca : (((s[i + 1]'hin2).toNat : Int) == 43) = false := bqf (n := 43) (u8n ea)
              by_cases eb : s[i + 1]'hin2 = 45
              · have cb : (((s[i + 1]'hin2).toNat : Int) == 45) = true := by rw [eb]; rfl
                have HB : Hid (IsIn true (∃ h : i + 1 < s.size, s[i + 1]'h = 43 ∨ s[i + 1]'h = 45)) := Lib.hid (IsIn.yes ⟨hin2, .inr eb⟩)
                clear ea eb
                go_wp2_with fail
                go_meet
                exact ⟨_, rfl, HB, rfl⟩
              · have cb : (((s[i + 1]'hin2).toNat : Int) == 45) = false := bqf (n := 45) (u8n eb)
                have HB : Hid (IsIn false (∃ h : i + 1 < s.size, s[i + 1]'h = 43 ∨ s[i + 1]'h = 45)) := Lib.hid (IsIn.no (by rintro ⟨_, h | h⟩; exact ea h; exact eb h))
                clear ea eb
                go_wp2_with fail
                go_meet
                exact ⟨_, rfl, HB, rfl⟩
          · have qi : ¬ (i : Int) + 1 < (s.size : Int) := by omega
            have HB : Hid (IsIn false (∃ h : i + 1 < s.size, s[i + 1]'h = 43 ∨ s[i + 1]'h = 45)) := Lib.hid (IsIn.no (fun ⟨h, _⟩ => hin2 h))
            go_wp2_with fail
            go_meet
            exact ⟨_, rfl, HB, rfl⟩
        case rest =>
          obtain ⟨b, rfl, HB, hwc⟩ := hcut
          obtain rfl : w = wc := hwc.symm
          cases b
          · have HM3 := Lib.hid (HM.out.trans (ne_e hin HH.out (fun h e => HB.out.out_no ⟨h, e⟩)))
            clear HB
            by_cases hk : i + 1 < s.size
            · have q3 : ((i + 1 : Nat) : Int) < (s.size : Int) := by omega
              have q3 : (i : Int) + 1 < (s.size : Int) := by omega
              by_cases hdg : dig (s[i + 1]'hk)
              · have HD : Hid (dgz (((s[i + 1]'hk).toNat : Nat) : Int) = true) := Lib.hid ((dig_dgz _).1 hdg)
                have HG := Lib.hid hdg
                clear hdg
                go_wp2_with (go_at_call 6; refine (zzDigit _ _).mono ?_; rw [HD.out]; rintro e w' ⟨rfl, rfl⟩)
                refine (zzGroupAt s (i + 1) _ (by omega) hk HG.out hs _).mono ?_
                rintro e w' ⟨⟨j, hj, hj1, hj2, rfl⟩ | ⟨hj, j, rfl⟩, rfl⟩
                · have HE := Lib.hid (show numModel s.data.toList = some j by rw [HM3.out, hj])
                  clear hj
                  go_wp2_with fail
                  go_meet
                  exact ⟨j, rfl, rfl, by omega, by omega, HE, rfl⟩
                · have HE : Hid (numModel s.data.toList = none) := Lib.hid (by rw [HM3.out, hj])
                  clear hj
                  go_wp2
                  go_ret3
                  exact ⟨.inr ⟨HE.out, rfl⟩, Below.refl _ _⟩
              · have HD : Hid (dgz (((s[i + 1]'hk).toNat : Nat) : Int) = false) := Lib.hid (by cases hz : dgz (((s[i + 1]'hk).toNat : Nat) : Int); rfl; exact absurd ((dig_dgz _).2 hz) hdg)
                have HE : Hid (numModel s.data.toList = none) := Lib.hid (by rw [HM3.out, ga_no (fun _ => hdg)])
                clear hdg
                go_wp2_with (go_at_call 6; refine (zzDigit _ _).mono ?_; rw [HD.out]; rintro e w' ⟨rfl, rfl⟩)
                go_wp2
                go_ret3
                exact ⟨.inr ⟨HE.out, rfl⟩, Below.refl _ _⟩
            · have q3 : ¬ (i : Int) + 1 < (s.size : Int) := by omega
              have HE : Hid (numModel s.data.toList = none) := Lib.hid (by rw [HM3.out, ga_no (fun h => absurd h hk)])
              go_wp2
              go_ret3
              exact ⟨.inr ⟨HE.out, rfl⟩, Below.refl _ _⟩
          · obtain ⟨hin2, he2⟩ := HB.out.out_yes
            have HM3 := Lib.hid (HM.out.trans (ne_sign hin HH.out hin2 he2))
            clear HB he2
            by_cases hk : i + 2 < s.size
            · have q3 : ((i + 2 : Nat) : Int) < (s.size : Int) := by omega
              have q3 : (i : Int) + 2 < (s.size : Int) := by omega
              by_cases hdg : dig (s[i + 2]'hk)
              · have HD : Hid (dgz (((s[i + 2]'hk).toNat : Nat) : Int) = true) := Lib.hid ((dig_dgz _).1 hdg)
                have HG := Lib.hid hdg
                clear hdg
                go_wp2_with (go_at_call 6; refine (zzDigit _ _).mono ?_; rw [HD.out]; rintro e w' ⟨rfl, rfl⟩)
                refine (zzGroupAt s (i + 2) _ (by omega) hk HG.out hs _).mono ?_
                rintro e w' ⟨⟨j, hj, hj1, hj2, rfl⟩ | ⟨hj, j, rfl⟩, rfl⟩
                · have HE := Lib.hid (show numModel s.data.toList = some j by rw [HM3.out, hj])
                  clear hj
                  go_wp2_with fail
                  go_meet
                  exact ⟨j, rfl, rfl, by omega, by omega, HE, rfl⟩
                · have HE : Hid (numModel s.data.toList = none) := Lib.hid (by rw [HM3.out, hj])
                  clear hj
                  go_wp2
                  go_ret3
                  exact ⟨.inr ⟨HE.out, rfl⟩, Below.refl _ _⟩
              · have HD : Hid (dgz (((s[i + 2]'hk).toNat : Nat) : Int) = false) := Lib.hid (by cases hz : dgz (((s[i + 2]'hk).toNat : Nat) : Int); rfl; exact absurd ((dig_dgz _).2 hz) hdg)
                have HE : Hid (numModel s.data.toList = none) := Lib.hid (by rw [HM3.out, ga_no (fun _ => hdg)])
                clear hdg
                go_wp2_with (go_at_call 6; refine (zzDigit _ _).mono ?_; rw [HD.out]; rintro e w' ⟨rfl, rfl⟩)
                go_wp2
                go_ret3
                exact ⟨.inr ⟨HE.out, rfl⟩, Below.refl _ _⟩
            · have q3 : ¬ (i : Int) + 2 < (s.size : Int) := by omega
              have HE : Hid (numModel s.data.toList = none) := Lib.hid (by rw [HM3.out, ga_no (fun h => absurd h hk)])
              go_wp2
              go_ret3
              exact ⟨.inr ⟨HE.out, rfl⟩, Below.refl _ _⟩
  case rest =>
  clear hi1 hi2 HM
  clear i
  obtain ⟨i, rfl, rfl, hi1, hi2, HM, hwc⟩ := hcut
  obtain rfl : w = wc := hwc.symm
  clear hwc
  go_wp2_with (at_make; refine wpList_make_own _ rfl _ _ 35 rfl w.heap.size 5 i0 (.int .u8 0) 1 Tryf.underlying35 hi hz0 hz1 _ _ _ i rfl rfl rfl (by rw [hz2]; omega) (by unfold maxLen; omega) (Nat.le_refl _) ?_; intro w1 hown hg)
  have HO1 : Hid (Lib.OwnBuf w.heap.size 5 (.slice (some ⟨w.heap.size, 0, none⟩) 0 i) (numBuf s 0 0).length (Lib.byteCells (numBuf s 0 0)) w w1) := Lib.hid ⟨World.ownsRowF_of hown, (Below.refl _ _).grown hg (Nat.le_refl _) (by intro k hk; cases hk), hg.size⟩
  clear hown hg
  go_loopw [9, 10] (fun v k wr => ∃ m : Nat, k = .int .i64 (m : Int) ∧ m ≤ i ∧ Hid (Lib.OwnBuf w.heap.size 5 v (numBuf s 0 m).length (Lib.byteCells (numBuf s 0 m)) w wr)) (fun _ k _ => i - (intOf k).toNat)
  case atStart => exact ⟨0, rfl, by omega, HO1⟩
  case round =>
    obtain ⟨m, rfl, hm, HB⟩ := hrel
    have hle := numBuf_le s 0 m
    by_cases hmi : m < i
    · have qm : (m : Int) < (i : Int) := by omega
      have hms : m < s.size := by omega
      have hnx := numBuf_next s 0 m (by omega)
      have hby := byte_of_get s m hms
      by_cases e95 : s[m]'hms = 95
      · have c95 : (((s[m]'hms).toNat : Int) != 95) = false := by rw [e95]; rfl
        have HN : Hid (numBuf s 0 (m + 1) = numBuf s 0 m) := Lib.hid (by rw [hnx, if_pos (by rw [Nat.zero_add, ← hby, e95]; rfl), List.append_nil])
        clear hnx hby e95
        go_wp2
        go_roundw
        case rel => exact ⟨m + 1, by go_num, by omega, by rw [HN.out]; exact HB⟩
        case measure => simp [intOf]; omega
      · have c95 : (((s[m]'hms).toNat : Int) != 95) = true := by
          have := u8n e95
          simp only [bne_iff_ne, ne_eq]
          intro e
          exact this (by show _ = 95; omega)
        have HN : Hid (numBuf s 0 (m + 1) = numBuf s 0 m ++ [s[m]'hms]) := Lib.hid (by
          rw [hnx, if_neg (by rw [Nat.zero_add, ← hby]; exact u8n e95)]
          congr 2
          simp)
        clear hnx hby e95
        go_wp2_with (at_builtin; refine Lib.wpList_append_byte rfl _ _ 35 rfl w.heap.size 5 i0 Tryf.underlying35 hi hz0 hz1 hz2 _ _ _ rfl w _ _ (by exact HB.out) rfl (by omega) ?_; intro v2 w2 hb2)
        have HB2 : Hid (Lib.OwnBuf w.heap.size 5 v2 (numBuf s 0 (m + 1)).length (Lib.byteCells (numBuf s 0 (m + 1))) w w2) := Lib.hid (by
          rw [HN.out, Lib.byteCells_append, List.length_append]
          exact hb2)
        clear hb2
        go_wp2
        go_roundw
        case rel => exact ⟨m + 1, by go_num, by omega, HB2⟩
        case measure => simp [intOf]; omega
    · obtain rfl : m = i := by omega
      have qm : ¬ (m : Int) < (m : Int) := by omega
      have hpos := numBuf_pos h0 hD0.out hi1
      obtain ⟨g, cap, rfl⟩ : ∃ g cap, u9 = .slice (some ⟨g, 0, none⟩) (numBuf s 0 m).length cap := by
        rcases HB.out.1.2 with ⟨_, h⟩ | ⟨g, cap, cur, fz, h, _⟩
        · omega
        · exact ⟨g, cap, h⟩
      have hcv := run_convert_bytes_arg (P := Tryf.prog) wr 35 5 Tryf.underlying35 Tryf.underlying5 g 0 (numBuf s 0 m).length cap ((numBuf s 0 m).map fun b => (b.toNat : Int)) (by simp) (fun i hi => by
        have := HB.out.1.cells (g := g) rfl i (.int .u8 (((numBuf s 0 m).map fun b => (b.toNat : Int)).getD i 0)) (by simp [Lib.byteCells, List.getD, List.getElem?_eq_getElem hi])
        by_cases h0 : i = 0
        · subst h0
          simpa [Addr.add] using this
        · simpa [Addr.add, h0] using this) 9 Tryf.underlying9
      rw [nums_bytes] at hcv
      have HBL := Lib.hid HB.out.2.1
      clear HB
      go_wp2
      go_ret3
      exact ⟨.inl ⟨m, HM.out, hi1, hi2, rfl⟩, HBL.out⟩

end Go.Proofs.YtfcijponbeainaaFmt
