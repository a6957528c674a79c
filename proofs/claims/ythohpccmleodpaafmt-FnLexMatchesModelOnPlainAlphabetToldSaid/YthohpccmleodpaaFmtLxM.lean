/-
  n008_32: digitRun.
-/
import Derived.Test.YthohpccmleodpaaFmtLxA
import Derived.Lib.BufSteps
import Derived.Deep.Cut
import Derived.IntWalk
namespace Go.Proofs.YthohpccmleodpaaFmt
open Go Go.RowKit Go.Shelf
namespace Lx

theorem infoU8x : (Tryf.prog.info? 5).map (fun i => (i.zero, i.size, i.bytes)) = some (some (.int .u8 0), 1, 1) := by kernel_rfl
/-- The automaton of numbers, k bytes on, in state st. -/
structure On (s : ByteArray) (p k st : Nat) : Prop where
  fit : p + k ≤ s.size
  run : numRun 0 (s.data.toList.drop p) 0 = numRun st (s.data.toList.drop (p + k)) k
theorem On.zero {s : ByteArray} {p : Nat} (h : p ≤ s.size) : On s p 0 0 := ⟨h, rfl⟩
theorem On.step {s : ByteArray} {p k st st' : Nat} (h : On s p k st) (hlt : p + k < s.size) (hs : numStep st (byteAt s (p + k)) = .on st') : On s p (k + 1) st' := by
  refine ⟨by omega, ?_⟩
  rw [h.run, drop_at s (p + k) hlt]
  conv => lhs; unfold numRun
  rw [byte_of_get s (p + k) hlt, hs]
  rfl
theorem On.stop {s : ByteArray} {p k st : Nat} (h : On s p k st) (hs : (p + k < s.size ∧ numStep st (byteAt s (p + k)) = .stop) ∨ (p + k = s.size ∧ numStep st (-1) = .stop)) : numRun 0 (s.data.toList.drop p) 0 = some k := by
  rw [h.run]
  rcases hs with ⟨hlt, hs⟩ | ⟨he, hs⟩
  · rw [drop_at s (p + k) hlt]
    unfold numRun
    rw [byte_of_get s (p + k) hlt, hs]
  · rw [List.drop_eq_nil_of_le (by simp; omega)]
    unfold numRun
    rw [hs]
theorem On.no {s : ByteArray} {p k st : Nat} (h : On s p k st) (hs : (p + k < s.size ∧ numStep st (byteAt s (p + k)) = .fail) ∨ (p + k = s.size ∧ numStep st (-1) = .fail)) : numRun 0 (s.data.toList.drop p) 0 = none := by
  rw [h.run]
  rcases hs with ⟨hlt, hs⟩ | ⟨he, hs⟩
  · rw [drop_at s (p + k) hlt]
    unfold numRun
    rw [byte_of_get s (p + k) hlt, hs]
  · rw [List.drop_eq_nil_of_le (by simp; omega)]
    unfold numRun
    rw [hs]
theorem n1 (r : Int) : numStep 1 r = if r = 46 then .on 4 else if r = 101 ∨ r = 69 then .on 7 else if r = 95 then .fail else .stop := rfl
theorem n2 (r : Int) : numStep 2 r = if r = 46 then .on 4 else if r = 101 ∨ r = 69 then .on 7 else if 48 ≤ r ∧ r ≤ 57 then .on 2 else if r = 95 then .on 3 else .stop := rfl
theorem n3 (r : Int) : numStep 3 r = if 48 ≤ r ∧ r ≤ 57 then .on 2 else .fail := rfl
theorem n7 (r : Int) : numStep 7 r = if r = 43 ∨ r = 45 then .on 8 else if 48 ≤ r ∧ r ≤ 57 then .on 9 else .fail := rfl
theorem n9 (r : Int) : numStep 9 r = if 48 ≤ r ∧ r ≤ 57 then .on 9 else if r = 95 then .on 10 else .stop := rfl
theorem n10 (r : Int) : numStep 10 r = if 48 ≤ r ∧ r ≤ 57 then .on 9 else .fail := rfl
theorem st_dig {d c : Nat} (hd : d = 2 ∨ d = 9) (hc : isD c = true) : numStep d (c : Int) = .on d := by
  have := isD_cases hc
  rcases hd with rfl | rfl
  · rw [n2, if_neg (by omega), if_neg (by omega), if_pos (by omega)]
  · rw [n9, if_pos (by omega)]
theorem st_und {d : Nat} (hd : d = 2 ∨ d = 9) : numStep d ((95 : Nat) : Int) = .on (d + 1) := by
  rcases hd with rfl | rfl <;> rfl
theorem st_und_dig {d c : Nat} (hd : d = 2 ∨ d = 9) (hc : isD c = true) : numStep (d + 1) (c : Int) = .on d := by
  have := isD_cases hc
  rcases hd with rfl | rfl
  · rw [n3, if_pos (by omega)]
  · rw [n10, if_pos (by omega)]
theorem st_und_no {d c : Nat} (hd : d = 2 ∨ d = 9) (hc : isD c = false) : numStep (d + 1) (c : Int) = .fail := by
  have h : ¬ ((48 : Int) ≤ (c : Int) ∧ (c : Int) ≤ 57) := fun h => by
    have : isD c = true := by simp [isD]; omega
    rw [hc] at this; cases this
  rcases hd with rfl | rfl
  · rw [n3, if_neg h]
  · rw [n10, if_neg h]
theorem st_und_end {d : Nat} (hd : d = 2 ∨ d = 9) : numStep (d + 1) (-1) = .fail := by
  rcases hd with rfl | rfl <;> rfl
theorem buf_dig {s : ByteArray} {p k : Nat} (h : p + k < s.size) (hc : isD (byteAt s (p + k)) = true) : numBuf s p (k + 1) = numBuf s p k ++ [s[p + k]'h] := by
  rw [numBuf_next s p k h, if_neg (by have := isD_cases hc; omega)]
theorem buf_und {s : ByteArray} {p k : Nat} (h : p + k < s.size) (hc : byteAt s (p + k) = 95) : numBuf s p (k + 1) = numBuf s p k := by
  rw [numBuf_next s p k h, if_pos hc, List.append_nil]
theorem buf_le (s : ByteArray) (p k : Nat) : (numBuf s p k).length ≤ s.size := by
  unfold numBuf
  refine Nat.le_trans (List.length_filter_le _ _) ?_
  simp
  omega
def Buf (B : Nat) (v : Value) (bs : List UInt8) (W0 w : World) : Prop := Lib.OwnBuf B 5 v bs.length (Lib.byteCells bs) W0 w
theorem Buf.app {B : Nat} {v : Value} {bs : List UInt8} {b : UInt8} {W0 w : World} (h : Lib.OwnBuf B 5 v (bs.length + 1) (Lib.byteCells bs ++ [.int .u8 (b.toNat : Int)]) W0 w) : Buf B v (bs ++ [b]) W0 w := by
  unfold Buf
  rw [Lib.byteCells_append, List.length_append]
  exact h
def DrPost (s : ByteArray) (p d B : Nat) (W0 : World) (e : Ending) (w' : World) : Prop :=
  (∃ k v, e = .returned (.tuple #[.int .i64 ((p + k : Nat) : Int), v, .bool true]) ∧ On s p k d ∧ 0 < k ∧ Buf B v (numBuf s p k) W0 w' ∧ (p + k = s.size ∨ (p + k < s.size ∧ isD (byteAt s (p + k)) = false ∧ byteAt s (p + k) ≠ 95))) ∨
    (∃ j v, e = .returned (.tuple #[.int .i64 j, v, .bool false]) ∧ numRun 0 (s.data.toList.drop p) 0 = none ∧ Below B W0 w')
theorem DrPost.no {s : ByteArray} {p d B : Nat} {W0 w' : World} {j : Int} {v : Value} (h : numRun 0 (s.data.toList.drop p) 0 = none) (hb : Below B W0 w') : DrPost s p d B W0 (.returned (.tuple #[.int .i64 j, v, .bool false])) w' := .inr ⟨j, v, rfl, h, hb⟩
theorem DrPost.yes {s : ByteArray} {p d B k : Nat} {W0 w' : World} {v : Value} (h : On s p k d) (hk : 0 < k) (hb : Buf B v (numBuf s p k) W0 w') (hs : p + k = s.size ∨ (p + k < s.size ∧ isD (byteAt s (p + k)) = false ∧ byteAt s (p + k) ≠ 95)) : DrPost s p d B W0 (.returned (.tuple #[.int .i64 ((p + k : Nat) : Int), v, .bool true])) w' := .inl ⟨k, v, rfl, h, hk, hb, hs⟩

set_option maxHeartbeats 6400000 in
set_option maxRecDepth 100000 in
theorem digitRun (s : ByteArray) (p k st d B : Nat) (v : Value) (W0 w : World) (hs : s.size ≤ 1000000) (hd : d = 2 ∨ d = 9) (h : On s p k st) (hlt : p + k < s.size) (hdig : isD (byteAt s (p + k)) = true) (hst : numStep st (byteAt s (p + k)) = .on d) (hb : Buf B v (numBuf s p k) W0 w) :
    Calls Tryf.prog 32 #[.string s, .int .i64 ((p + k : Nat) : Int), v] w (DrPost s p d B W0) := by
  obtain ⟨i0, hi, hz0, hz1, hz2⟩ := info_parts infoU8x
  obtain ⟨q, hq⟩ : ∃ q, q = p + k := ⟨_, rfl⟩
  have hlq : q < s.size := by omega
  have i1 : (q : Int) < (s.size : Int) := by omega
  have HD := Lib.hid hd
  have HB := Lib.hid hb
  have hle := buf_le s p k
  have hbe : (numBuf s p (k + 1)) = numBuf s p k ++ [s[q]'hlq] := by
    subst hq
    exact buf_dig hlt hdig
  have HBE := Lib.hid hbe
  have HON := Lib.hid (h.step hlt hst)
  rw [← hq]
  have HQ := Lib.hid hq
  clear hd hb hbe hdig hst hq h hlt
  go_enter Tryf.func32, Tryf.ntmps32
  go_wp2_with (at_builtin; refine Lib.wpList_append_byte rfl _ _ 73 rfl B 5 i0 Tryf.underlying73 hi hz0 hz1 hz2 _ _ _ rfl W0 _ _ (by exact HB.out) rfl (by omega) ?_; intro v2 w2 hb2)
  have HB2 : Hid (Buf B v2 (numBuf s p (k + 1)) W0 w2) := Lib.hid (by rw [HBE.out]; exact Buf.app hb2)
  clear hb2 HB HBE
  go_wp2
  go_loopw [1, 2] (fun j b wr => ∃ k' q' : Nat, j = .int .i64 q' ∧ q' ≤ s.size ∧ 0 < k' ∧ Hid (q' = p + k' ∧ On s p k' d ∧ Buf B b (numBuf s p k') W0 wr)) (fun j _ _ => s.size - (intOf j).toNat)
  case atStart => exact ⟨k + 1, q + 1, by go_num, by omega, by omega, Lib.hid ⟨by rw [HQ.out]; omega, HON.out, HB2.out⟩⟩
  case round =>
    clear HB2 HON
    obtain ⟨k', q, rfl, hq, hk0, HS⟩ := hrel
    have hle := buf_le s p k'
    by_cases hlt : q < s.size
    · have i1 : (q : Int) < (s.size : Int) := by omega
      have hby := byte_of_get s q hlt
      have HBY := Lib.hid hby
      clear hby
      have hlt' : p + k' < s.size := by rw [← HS.out.1]; exact hlt
      cases hdg : isD (s[q]'hlt).toNat with
      | true =>
        have hdc : isD (byteAt s (p + k')) = true := by rw [← HS.out.1, ← HBY.out]; exact hdg
        have hbe : numBuf s p (k' + 1) = numBuf s p k' ++ [s[q]'hlt] := by
          have := buf_dig hlt' hdc
          simp only [← HS.out.1] at this
          exact this
        have HBE := Lib.hid hbe
        have HON := Lib.hid (HS.out.2.1.step hlt' (st_dig HD.out hdc))
        clear hbe hdc hlt'
        go_wp2_with fail
        refine (digitB _ _).mono ?_
        rw [hdg]
        rintro e w1 ⟨rfl, rfl⟩
        go_wp2_with (at_builtin; refine Lib.wpList_append_byte rfl _ _ 73 rfl B 5 i0 Tryf.underlying73 hi hz0 hz1 hz2 _ _ _ rfl W0 _ _ (by exact HS.out.2.2) rfl (by omega) ?_; intro v2 w2 hb2)
        have HB2 : Hid (Buf B v2 (numBuf s p (k' + 1)) W0 w2) := Lib.hid (by rw [HBE.out]; exact Buf.app hb2)
        clear hb2 HBE
        go_wp2
        go_roundw
        case rel => exact ⟨k' + 1, q + 1, by go_num, by omega, by omega, Lib.hid ⟨by rw [HS.out.1]; omega, HON.out, HB2.out⟩⟩
        case measure => simp [intOf]; omega
      | false =>
        have hdc : isD (byteAt s (p + k')) = false := by rw [← HS.out.1, ← HBY.out]; exact hdg
        by_cases h95 : (s[q]'hlt).toNat = 95
        · have h95' : byteAt s (p + k') = 95 := by rw [← HS.out.1, ← HBY.out]; exact h95
          have e95 : ((((s[q]'hlt).toNat : Nat) : Int) == 95) = true := beq_iff_eq.2 (by omega)
          have HON := Lib.hid (HS.out.2.1.step hlt' (by rw [h95']; exact st_und HD.out))
          have HBU := Lib.hid (buf_und hlt' h95')
          clear h95' hdc hlt' h95
          by_cases hl2 : q + 1 < s.size
          · have i2 : (q : Int) + 1 < (s.size : Int) := by omega
            have i3 : (0 : Int) ≤ (q : Int) + 1 := by omega
            have hby2 := byte_of_get s (q + 1) hl2
            have HBY2 := Lib.hid hby2
            clear hby2
            have hlt2 : p + (k' + 1) < s.size := by have := HS.out.1; omega
            have hqq := Lib.hid (show q + 1 = p + (k' + 1) by have := HS.out.1; omega)
            cases hd2 : isD (s[q + 1]'hl2).toNat with
            | true =>
              have hdc : isD (byteAt s (p + (k' + 1))) = true := by rw [← hqq.out, ← HBY2.out]; exact hd2
              have hbe : numBuf s p (k' + 1 + 1) = numBuf s p (k' + 1) ++ [s[q + 1]'hl2] := by
                have := buf_dig hlt2 hdc
                simp only [← hqq.out] at this
                exact this
              rw [HBU.out] at hbe
              have HBE := Lib.hid hbe
              have HON2 := Lib.hid (HON.out.step hlt2 (st_und_dig HD.out hdc))
              clear hbe hdc hlt2
              go_wp2_with fail
              refine (digitB _ _).mono ?_
              rw [hdg]
              rintro e w1 ⟨rfl, rfl⟩
              go_wp2_with fail
              refine (digitB _ _).mono ?_
              rw [hd2]
              rintro e w1 ⟨rfl, rfl⟩
              go_wp2_with (at_builtin; refine Lib.wpList_append_byte rfl _ _ 73 rfl B 5 i0 Tryf.underlying73 hi hz0 hz1 hz2 _ _ _ rfl W0 _ _ (by exact HS.out.2.2) rfl (by omega) ?_; intro v2 w2 hb2)
              have HB2 : Hid (Buf B v2 (numBuf s p (k' + 1 + 1)) W0 w2) := Lib.hid (by rw [HBE.out]; exact Buf.app hb2)
              clear hb2 HBE
              go_wp2
              go_roundw
              case rel => exact ⟨k' + 1 + 1, q + 2, by go_num, by omega, by omega, Lib.hid ⟨by rw [HS.out.1]; omega, HON2.out, HB2.out⟩⟩
              case measure => simp [intOf]; omega
            | false =>
              have HN := Lib.hid (HON.out.no (.inl ⟨hlt2, st_und_no HD.out (by rw [← hqq.out, ← HBY2.out]; exact hd2)⟩))
              clear hlt2
              go_wp2_with fail
              refine (digitB _ _).mono ?_
              rw [hdg]
              rintro e w1 ⟨rfl, rfl⟩
              go_wp2_with fail
              refine (digitB _ _).mono ?_
              rw [hd2]
              rintro e w1 ⟨rfl, rfl⟩
              go_wp2
              go_ret3
              exact .no HN.out HS.out.2.2.2.1
          · have i2 : ¬ (q : Int) + 1 < (s.size : Int) := by omega
            have i4 : decide ((q : Int) + 1 < (s.size : Int)) = false := decide_eq_false i2
            have HN := Lib.hid (HON.out.no (.inr ⟨by have := HS.out.1; omega, st_und_end HD.out⟩))
            go_wp2_with fail
            refine (digitB _ _).mono ?_
            rw [hdg]
            rintro e w1 ⟨rfl, rfl⟩
            go_wp2
            go_ret3
            exact .no HN.out HS.out.2.2.2.1
        · have h95' : byteAt s (p + k') ≠ 95 := by rw [← HS.out.1, ← HBY.out]; exact h95
          have e95 : ((((s[q]'hlt).toNat : Nat) : Int) == 95) = false := beq_false_of_ne (by omega)
          have HE := Lib.hid (DrPost.yes HS.out.2.1 hk0 HS.out.2.2 (.inr ⟨hlt', hdc, h95'⟩))
          rw [← HS.out.1] at HE
          clear h95' hdc hlt' h95
          go_wp2_with fail
          refine (digitB _ _).mono ?_
          rw [hdg]
          rintro e w1 ⟨rfl, rfl⟩
          go_wp2
          go_ret3
          exact HE.out
    · have i1 : ¬ (q : Int) < (s.size : Int) := by omega
      have HE := Lib.hid (DrPost.yes HS.out.2.1 hk0 HS.out.2.2 (.inl (by have := HS.out.1; omega)))
      rw [← HS.out.1] at HE
      go_wp2
      go_ret3
      exact HE.out

end Lx
end Go.Proofs.YthohpccmleodpaaFmt
