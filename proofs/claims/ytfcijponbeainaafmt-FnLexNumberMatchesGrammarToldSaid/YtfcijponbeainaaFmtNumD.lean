/-
  zzDigitGroup: a group of digits, as the grammar reads it.
-/
import Derived.Test.YtfcijponbeainaaFmtNumQ
import Derived.Test.YtfcijponbeainaaFmtNumG
import Derived.Test.YtfcijponbeainaaFmtByte
namespace Go.Proofs.YtfcijponbeainaaFmt
open Go Go.RowKit Go.Shelf

theorem dig_dgz (b : UInt8) : dig b ↔ dgz (b.toNat : Int) = true := by rw [dgz_t]; rfl
theorem grp_dig {c : UInt8} {rest : List UInt8} {k : Nat} (h : dig c) : grp (c :: rest) k = grp rest (k + 1) := by
  cases rest with
  | nil => simp only [grp, if_pos h]
  | cons d ds => simp only [grp, if_pos h]
theorem grp_us {d : UInt8} {cs : List UInt8} {k : Nat} (h : dig d) : grp (95 :: d :: cs) k = grp cs (k + 2) := by
  rw [grp, if_neg (by decide : ¬ dig 95), if_pos rfl, if_pos h]
theorem grp_us_no {d : UInt8} {cs : List UInt8} {k : Nat} (h : ¬ dig d) : grp (95 :: d :: cs) k = (k, false) := by
  rw [grp, if_neg (by decide : ¬ dig 95), if_pos rfl, if_neg h]
theorem grp_us_end {k : Nat} : grp [95] k = (k, false) := by
  simp [grp, (by decide : ¬ dig 95)]
theorem grp_oth {c : UInt8} {rest : List UInt8} {k : Nat} (h : ¬ dig c) (h2 : c ≠ 95) : grp (c :: rest) k = (k, true) := by
  cases rest with
  | nil => simp only [grp, if_neg h, if_neg h2]
  | cons d ds => simp only [grp, if_neg h, if_neg h2]
theorem drop_get (s : ByteArray) (q : Nat) (h : q < s.size) : s.data.toList.drop q = s[q]'h :: s.data.toList.drop (q + 1) := by
  rw [List.drop_eq_getElem_cons (by simpa using h)]
  rfl
theorem drop_end (s : ByteArray) (q : Nat) (h : s.size ≤ q) : s.data.toList.drop q = [] :=
  List.drop_eq_nil_of_le (by have e : s.data.toList.length = s.size := rfl
                             omega)

set_option maxHeartbeats 1600000 in
set_option maxRecDepth 100000 in
theorem zzGroup (s : ByteArray) (i : Nat) (hi : i < s.size) (hs : s.size ≤ 2000000) (w : World) :
    Calls Tryf.prog 15 #[.string s, .int .i64 i] w fun e w' => e = .returned (.tuple #[.int .i64 ((grp (s.data.toList.drop (i + 1)) (i + 1)).1 : Nat), .bool (grp (s.data.toList.drop (i + 1)) (i + 1)).2]) ∧ w = w' := by
  go_enter Tryf.func15, Tryf.ntmps15
  go_wp2
  go_loop [6] (fun v => ∃ j : Nat, v = .int .i64 j ∧ i + 1 ≤ j ∧ j ≤ s.size ∧ Hid (grp (s.data.toList.drop (i + 1)) (i + 1) = grp (s.data.toList.drop j) j)) (fun v => s.size - (intOf v).toNat)
  case atStart => exact ⟨i + 1, by go_num, by omega, by omega, Lib.hid rfl⟩
  case round =>
    obtain ⟨j, rfl, hj0, hj1, HG⟩ := hrel
    by_cases hlt : j < s.size
    · have hd := drop_get s j hlt
      cases hdg : dgz (((s[j]'hlt).toNat : Nat) : Int)
      · have HD : Hid (dgz (((s[j]'hlt).toNat : Nat) : Int) = false) := Lib.hid hdg
        have hnd : ¬ dig (s[j]'hlt) := fun e => by rw [dig_dgz, hdg] at e; cases e
        by_cases h95 : s[j]'hlt = 95
        · have hB : (((s[j]'hlt).toNat : Int) == 95) = true := by rw [h95]; rfl
          by_cases hl2 : j + 1 < s.size
          · have hd2 := drop_get s (j + 1) hl2
            have q2 : (j : Int) + 1 < (s.size : Int) := by omega
            cases hdg2 : dgz (((s[j + 1]'hl2).toNat : Nat) : Int)
            · have HD2 : Hid (dgz (((s[j + 1]'hl2).toNat : Nat) : Int) = false) := Lib.hid hdg2
              have HE : Hid (grp (s.data.toList.drop (i + 1)) (i + 1) = (j, false)) := Lib.hid (by rw [HG.out, hd, hd2, h95, grp_us_no (fun e => by rw [dig_dgz, hdg2] at e; cases e)])
              clear hdg hdg2 hd hd2 hnd h95 HG
              go_wp2_with (go_at_call 6; refine (zzDigit _ _).mono ?_; (first | rw [HD.out] | rw [HD2.out]); rintro e w' ⟨rfl, rfl⟩)
              go_ret2
              exact ⟨by rw [HE.out]; rfl, rfl⟩
            · have HD2 : Hid (dgz (((s[j + 1]'hl2).toNat : Nat) : Int) = true) := Lib.hid hdg2
              have HE : Hid (grp (s.data.toList.drop (i + 1)) (i + 1) = grp (s.data.toList.drop (j + 2)) (j + 2)) := Lib.hid (by rw [HG.out, hd, hd2, h95, grp_us ((dig_dgz _).2 hdg2)])
              clear hdg hdg2 hd hd2 hnd h95 HG
              go_wp2_with (go_at_call 6; refine (zzDigit _ _).mono ?_; (first | rw [HD.out] | rw [HD2.out]); rintro e w' ⟨rfl, rfl⟩)
              go_round
              case rel => exact ⟨j + 2, by go_num, by omega, by omega, HE⟩
              case measure => simp [intOf]; omega
          · have q2 : ¬ (j : Int) + 1 < (s.size : Int) := by omega
            have HE : Hid (grp (s.data.toList.drop (i + 1)) (i + 1) = (j, false)) := Lib.hid (by rw [HG.out, hd, drop_end s (j + 1) (by omega), h95, grp_us_end])
            clear hdg hd hnd h95 HG
            go_wp2_with (go_at_call 6; refine (zzDigit _ _).mono ?_; rw [HD.out]; rintro e w' ⟨rfl, rfl⟩)
            go_ret2
            exact ⟨by rw [HE.out]; rfl, rfl⟩
        · have hB : (((s[j]'hlt).toNat : Int) == 95) = false := beq_eq_false_iff_ne.2 (fun e => h95 (UInt8.toNat_inj.1 (show (s[j]'hlt).toNat = 95 by omega)))
          have HE : Hid (grp (s.data.toList.drop (i + 1)) (i + 1) = (j, true)) := Lib.hid (by rw [HG.out, hd, grp_oth hnd h95])
          clear hdg hd hnd h95 HG
          go_wp2_with (go_at_call 6; refine (zzDigit _ _).mono ?_; rw [HD.out]; rintro e w' ⟨rfl, rfl⟩)
          go_ret2
          exact ⟨by rw [HE.out]; rfl, rfl⟩
      · have HD : Hid (dgz (((s[j]'hlt).toNat : Nat) : Int) = true) := Lib.hid hdg
        have HE : Hid (grp (s.data.toList.drop (i + 1)) (i + 1) = grp (s.data.toList.drop (j + 1)) (j + 1)) := Lib.hid (by rw [HG.out, hd, grp_dig ((dig_dgz _).2 hdg)])
        clear hdg hd HG
        go_wp2_with (go_at_call 6; refine (zzDigit _ _).mono ?_; rw [HD.out]; rintro e w' ⟨rfl, rfl⟩)
        go_round
        case rel => exact ⟨j + 1, by go_num, by omega, by omega, HE⟩
        case measure => simp [intOf]; omega
    · obtain rfl : j = s.size := by omega
      have HE : Hid (grp (s.data.toList.drop (i + 1)) (i + 1) = (s.size, true)) := Lib.hid (by rw [HG.out, drop_end s s.size (by omega)]; rfl)
      clear HG
      go_wp2
      go_ret2
      exact ⟨by rw [HE.out]; rfl, rfl⟩

end Go.Proofs.YtfcijponbeainaaFmt
