/-
  n008_32: modelNumber.
-/
import Derived.Test.YthohpccmleodpaaFmtLxM
import Derived.Deep.CutRange
import Derived.Deep.QuietTactic
import Derived.BigQuiet
namespace Go.Proofs.YthohpccmleodpaaFmt
open Go Go.RowKit Go.Shelf
namespace Lx

def MnPost (s : ByteArray) (p : Nat) (w : World) (e : Ending) (w' : World) : Prop :=
  ((∃ k, e = .returned (.tuple #[.int .i64 ((p + k : Nat) : Int), .string ⟨(numBuf s p k).toArray⟩, .bool true]) ∧ numRun 0 (s.data.toList.drop p) 0 = some k ∧ 0 < k ∧ p + k ≤ s.size) ∨
    (∃ j, e = .returned (.tuple #[.int .i64 j, .string ⟨#[]⟩, .bool false]) ∧ numRun 0 (s.data.toList.drop p) 0 = none)) ∧ Below w.heap.size w w'
theorem MnPost.yes {s : ByteArray} {p k : Nat} {v : List UInt8} {w w' : World} (hv : v = numBuf s p k) (h : numRun 0 (s.data.toList.drop p) 0 = some k) (hk : 0 < k) (hf : p + k ≤ s.size) (hb : Below w.heap.size w w') : MnPost s p w (.returned (.tuple #[.int .i64 ((p + k : Nat) : Int), .string ⟨v.toArray⟩, .bool true])) w' := by
  subst hv
  exact ⟨.inl ⟨k, rfl, h, hk, hf⟩, hb⟩
theorem MnPost.no {s : ByteArray} {p : Nat} {j : Int} {w w' : World} (h : numRun 0 (s.data.toList.drop p) 0 = none) (hb : Below w.heap.size w w') : MnPost s p w (.returned (.tuple #[.int .i64 j, .string ⟨#[]⟩, .bool false])) w' := ⟨.inr ⟨j, rfl, h⟩, hb⟩
theorem MnPost.drewN {s : ByteArray} {p : Nat} {w w' : World} {e : Ending} (h : MnPost s p w e w') (m : Nat) : MnPost s p w e (w'.drewN m) := ⟨h.1, drewN_below h.2 m⟩
/-- What the integer part leaves. -/
structure Mn1 (s : ByteArray) (p k st : Nat) : Prop where
  on : On s p k st
  pos : 0 < k
  st12 : st = 1 ∨ st = 2
  no95 : p + k < s.size → byteAt s (p + k) ≠ 95
  noD : st = 2 → p + k < s.size → isD (byteAt s (p + k)) = false
theorem n0 (r : Int) : numStep 0 r = if r = 48 then .on 1 else if 49 ≤ r ∧ r ≤ 57 then .on 2 else .fail := rfl
theorem no_dot {s : ByteArray} {i : Nat} (hP : Plain s) (h : i < s.size) : byteAt s i ≠ 46 ∧ byteAt s i ≠ 43 ∧ byteAt s i ≠ 45 := by
  have h1 := hP i h
  simp only [okB, Bool.or_eq_true] at h1
  rcases h1 with ((h1 | h1) | h1) | h1
  · have := isD_cases h1; omega
  · have := idF_cases h1; omega
  · have := isWs_cases' h1; omega
  · have := punct_cases (of_decide_eq_true h1); omega
theorem isD_not {c : Nat} (h : isD c = false) : ¬ ((48 : Int) ≤ (c : Int) ∧ (c : Int) ≤ 57) := fun h1 => by
  have : isD c = true := by simp [isD]; omega
  rw [h] at this; cases this
theorem st_exp {st : Nat} {c : Int} (h : st = 1 ∨ st = 2) (hc : c = 101 ∨ c = 69) : numStep st c = .on 7 := by
  rcases h with rfl | rfl
  · rw [n1, if_neg (by omega), if_pos hc]
  · rw [n2, if_neg (by omega), if_pos hc]
theorem st_7 {c : Nat} (h : isD c = true) : numStep 7 (c : Int) = .on 9 := by
  have := isD_cases h
  rw [n7, if_neg (by omega), if_pos (by omega)]
theorem st7_no {s : ByteArray} {i : Nat} (hP : Plain s) (h : i < s.size) (hd : isD (byteAt s i) = false) : numStep 7 (byteAt s i : Int) = .fail := by
  have := no_dot hP h
  rw [n7, if_neg (by omega), if_neg (isD_not hd)]
theorem st12_stop {s : ByteArray} {p k st : Nat} (hP : Plain s) (h : Mn1 s p k st) (hlt : p + k < s.size) (h1 : byteAt s (p + k) ≠ 101) (h2 : byteAt s (p + k) ≠ 69) : numStep st (byteAt s (p + k) : Int) = .stop := by
  have h3 := no_dot hP hlt
  have h4 := h.no95 hlt
  rcases h.st12 with e | e
  · subst e
    rw [n1, if_neg (by omega), if_neg (by omega), if_neg (by omega)]
  · have h5 := h.noD e hlt
    subst e
    rw [n2, if_neg (by omega), if_neg (by omega), if_neg (isD_not h5), if_neg (by omega)]
theorem st12_end {st : Nat} (h : st = 1 ∨ st = 2) : numStep st (-1) = .stop := by
  rcases h with rfl | rfl <;> rfl
theorem st9_stop {s : ByteArray} {p k : Nat} (_ : Plain s) (_ : p + k ≤ s.size) (hst : p + k = s.size ∨ (p + k < s.size ∧ isD (byteAt s (p + k)) = false ∧ byteAt s (p + k) ≠ 95)) : (p + k < s.size ∧ numStep 9 (byteAt s (p + k)) = .stop) ∨ (p + k = s.size ∧ numStep 9 (-1) = .stop) := by
  rcases hst with e | ⟨h1, h2, h3⟩
  · exact .inr ⟨e, rfl⟩
  · exact .inl ⟨h1, by rw [n9, if_neg (isD_not h2), if_neg (by omega)]⟩
theorem buf0 (s : ByteArray) (p : Nat) : numBuf s p 0 = [] := by simp [numBuf]
theorem buf_ne {s : ByteArray} {p k : Nat} (hlt : p < s.size) (hk : 0 < k) (hd : isD (byteAt s p) = true) : numBuf s p k ≠ [] := by
  obtain ⟨j, rfl⟩ : ∃ j, k = j + 1 := ⟨k - 1, by omega⟩
  have hc := isD_cases hd
  have h1 : s.data.toList.drop p = s[p]'hlt :: s.data.toList.drop (p + 1) := drop_at s p hlt
  have h2 := byte_of_get s p hlt
  intro e
  unfold numBuf at e
  rw [h1, List.take_succ_cons, List.filter_cons_of_pos] at e
  · cases e
  · have : (s[p]'hlt) ≠ 95 := fun e => by
      rw [e] at h2
      have h3 : byteAt s p = 95 := h2.symm
      omega
    simpa using this
theorem buf_string {B : Nat} {v : Value} {bs : List UInt8} {W0 w : World} (h : Buf B v bs W0 w) (hne : bs ≠ []) : ∃ g cap, v = .slice (some ⟨g, 0, none⟩) bs.length cap ∧ ∀ m, (convert 73 9 (.slice (some ⟨g, 0, none⟩) bs.length cap)).run Tryf.prog (w.drewN m) = .ok (.string ⟨bs.toArray⟩) (w.drewN m) := by
  have ho : w.ownsRowF B 5 1 v bs.length (Lib.byteCells bs) := h.1
  rcases ho.2 with ⟨_, e2⟩ | ⟨g, cap, cur, fz, e, _⟩
  · exact absurd (List.length_eq_zero_iff.1 e2) hne
  · subst e
    refine ⟨g, cap, rfl, fun m => run_convert_bytes_back (P := Tryf.prog) (w.drewN m) 73 9 5 ⟨g, 0, none⟩ cap bs Tryf.underlying73 Tryf.underlying5 Tryf.underlying9 (fun j hj => ?_)⟩
    exact ho.cells (g := g) rfl j _ (by simp [Lib.byteCells, hj])

set_option maxHeartbeats 12800000 in
set_option maxRecDepth 100000 in
theorem modelNumber (s : ByteArray) (p : Nat) (w : World) (hP : Plain s) (hs : s.size ≤ 1000000) (hlt : p < s.size) (hd : isD (byteAt s p) = true) :
    Calls Tryf.prog 14 #[.string s, .int .i64 (p : Int)] w (MnPost s p w) := by
  obtain ⟨i0, hi, hz0, hz1, hz2⟩ := info_parts infoU8x
  have i1 : (p : Int) < (s.size : Int) := by omega
  have HP := Lib.hid hP
  have HLT := Lib.hid hlt
  have HDG := Lib.hid hd
  have HB0 : Hid (Buf w.heap.size (.slice none 0 0) [] w w) := Lib.hid ⟨World.ownsRowF_nil _ _ _ _, Below.refl _ _, Nat.le_refl _⟩
  have HBY := Lib.hid (byte_of_get s p hlt)
  have hle := fun k => buf_le s p k
  clear hP hd
  go_enter Tryf.func14, Tryf.ntmps14
  go_upto_if 17 with (fail)
  go_cut [8, 9] from 14 to 42 (fun b j wd => ∃ k st q : Nat, j = .int .i64 q ∧ q ≤ s.size ∧ Hid (q = p + k ∧ Mn1 s p k st ∧ Buf w.heap.size b (numBuf s p k) w wd))
  case first =>
    by_cases h48 : (s[p]'hlt).toNat = 48
    · have e48 : ((((s[p]'hlt).toNat : Nat) : Int) == 48) = true := beq_iff_eq.2 (by omega)
      have H48 : Hid (byteAt s p = 48) := Lib.hid (by rw [← HBY.out]; exact h48)
      have hbe : numBuf s p 1 = [] ++ [s[p]'hlt] := by
        have h := numBuf_next s p 0 (by omega)
        rw [buf0, if_neg (by rw [Nat.add_zero, H48.out]; decide)] at h
        exact h
      have HBE := Lib.hid hbe
      have hc48 : ((s[p]'hlt).toNat : Int) = 48 := by omega
      have HC48 := Lib.hid hc48
      have hon : On s p 1 1 := (On.zero (by omega)).step (by omega) (by rw [Nat.add_zero, H48.out]; rfl)
      have HON := Lib.hid hon
      clear hbe hc48 hon h48
      by_cases hl1 : p + 1 < s.size
      · have i2 : (p : Int) + 1 < (s.size : Int) := by omega
        have i3 : (0 : Int) ≤ (p : Int) + 1 := by omega
        have HBY1 := Lib.hid (byte_of_get s (p + 1) hl1)
        by_cases h95 : (s[p + 1]'hl1).toNat = 95
        · have e95 : ((((s[p + 1]'hl1).toNat : Nat) : Int) == 95) = true := beq_iff_eq.2 (by omega)
          have HN := Lib.hid (HON.out.no (.inl ⟨hl1, by rw [← HBY1.out, h95]; rfl⟩))
          clear h95
          go_wp2_with (at_builtin; refine Lib.wpList_append_byte rfl _ _ 73 rfl w.heap.size 5 i0 Tryf.underlying73 hi hz0 hz1 hz2 _ _ _ rfl w _ _ (by exact HB0.out) rfl (by simp) ?_; intro v2 w2 hb2)
          have HB2 := Lib.hid hb2.2.1
          clear hb2
          go_wp2
          go_ret3
          exact .no HN.out HB2.out
        · have e95 : ((((s[p + 1]'hl1).toNat : Nat) : Int) == 95) = false := beq_false_of_ne (by omega)
          have HM : Hid (Mn1 s p 1 1) := Lib.hid ⟨HON.out, by omega, .inl rfl, fun _ => by rw [← HBY1.out]; exact h95, fun e => by omega⟩
          clear h95
          go_wp2_with (at_builtin; refine Lib.wpList_append_byte rfl _ _ 73 rfl w.heap.size 5 i0 Tryf.underlying73 hi hz0 hz1 hz2 _ _ _ rfl w _ _ (by exact HB0.out) rfl (by simp) ?_; intro v2 w2 hb2)
          have HB2 : Hid (Buf w.heap.size v2 (numBuf s p 1) w w2) := Lib.hid (by rw [HBE.out]; exact Buf.app (by rw [HC48.out]; exact hb2))
          clear hb2 HBE
          go_wp2_with fail
          go_meet
          exact ⟨1, 1, p + 1, by go_num, by omega, Lib.hid ⟨rfl, HM.out, HB2.out⟩⟩
      · have i2 : ¬ (p : Int) + 1 < (s.size : Int) := by omega
        have i4 : decide ((p : Int) + 1 < (s.size : Int)) = false := decide_eq_false i2
        have HM : Hid (Mn1 s p 1 1) := Lib.hid ⟨HON.out, by omega, .inl rfl, fun h => absurd h hl1, fun e => by omega⟩
        go_wp2_with (at_builtin; refine Lib.wpList_append_byte rfl _ _ 73 rfl w.heap.size 5 i0 Tryf.underlying73 hi hz0 hz1 hz2 _ _ _ rfl w _ _ (by exact HB0.out) rfl (by simp) ?_; intro v2 w2 hb2)
        have HB2 : Hid (Buf w.heap.size v2 (numBuf s p 1) w w2) := Lib.hid (by rw [HBE.out]; exact Buf.app (by rw [HC48.out]; exact hb2))
        clear hb2 HBE
        go_wp2_with fail
        go_meet
        exact ⟨1, 1, p + 1, by go_num, by omega, Lib.hid ⟨rfl, HM.out, HB2.out⟩⟩
    · have e48 : ((((s[p]'hlt).toNat : Nat) : Int) == 48) = false := beq_false_of_ne (by omega)
      have hne : byteAt s p ≠ 48 := by rw [← HBY.out]; exact h48
      have HD := Lib.hid (digitRun s p 0 0 2 w.heap.size (.slice none 0 0) w w hs (.inl rfl) (On.zero (by omega)) (by omega) (by exact HDG.out) (by
        have := isD_cases HDG.out
        rw [Nat.add_zero, n0, if_neg (by omega), if_pos (by omega)]) (by rw [buf0]; exact HB0.out))
      rw [Nat.add_zero] at HD
      clear hne h48
      go_wp2_with fail
      refine HD.out.mono ?_
      rintro e w1 (⟨k, v, rfl, hon, hk, hb, hst⟩ | ⟨j, v, rfl, hno, hbe⟩)
      · have hfit := hon.fit
        have HM : Hid (Mn1 s p k 2) := Lib.hid ⟨hon, hk, .inr rfl, fun h => by
          rcases hst with e | ⟨_, _, e⟩
          · omega
          · exact e, fun _ h => by
          rcases hst with e | ⟨_, e, _⟩
          · omega
          · exact e⟩
        have HB := Lib.hid hb
        clear hon hk hb hst
        go_wp2_with fail
        go_meet
        exact ⟨k, 2, p + k, rfl, hfit, Lib.hid ⟨rfl, HM.out, HB.out⟩⟩
      · have HE := Lib.hid (MnPost.no (j := j) hno hbe)
        clear hno hbe
        go_wp2
        go_ret3
        exact HE.out
  case rest =>
  obtain ⟨k, st, q, rfl, hq, HS⟩ := hcut
  obtain ⟨W1, rfl⟩ : ∃ W1, W1 = wc := ⟨_, rfl⟩
  clear HB0 HBY i1
  have hk := hle k
  by_cases hltq : q < s.size
  · have i1 : (q : Int) < (s.size : Int) := by omega
    obtain ⟨hltp, HLP⟩ : ∃ _ : p < s.size, True := ⟨hlt, trivial⟩
    have hlt' : p + k < s.size := by rw [← HS.out.1]; exact hltq
    have HCC : Hid ((s[q]'hltq).toNat = byteAt s (p + k)) := Lib.hid ((byte_of_get s q hltq).trans (by rw [HS.out.1]))
    by_cases h101 : (s[q]'hltq).toNat = 101
    · have hcc : byteAt s (p + k) = 101 := by rw [← HCC.out]; exact h101
      have HCC := Lib.hid hcc
      have e101 : ((((s[q]'hltq).toNat : Nat) : Int) == 101) = true := beq_iff_eq.2 (by omega)
      have HCI : Hid (((s[q]'hltq).toNat : Int) = 101) := Lib.hid (by omega)
      have HON := Lib.hid (HS.out.2.1.on.step hlt' (st_exp HS.out.2.1.st12 (by rw [HCC.out]; exact .inl rfl)))
      have hbe : numBuf s p (k + 1) = numBuf s p k ++ [s[q]'hltq] := by
        rw [numBuf_next s p k hlt', if_neg (by rw [HCC.out]; decide)]
        simp only [← HS.out.1]
      have HBE := Lib.hid hbe
      have HB := Lib.hid HS.out.2.2
      clear hbe
      by_cases hl2 : q + 1 < s.size
      · have i2 : (q : Int) + 1 < (s.size : Int) := by omega
        have i3 : (0 : Int) ≤ (q : Int) + 1 := by omega
        have HBY2 := Lib.hid (byte_of_get s (q + 1) hl2)
        have hlt2 : p + (k + 1) < s.size := by have := HS.out.1; omega
        have hqq := Lib.hid (show q + 1 = p + (k + 1) by have := HS.out.1; omega)
        cases hd2 : isD (s[q + 1]'hl2).toNat with
        | true =>
          have hdc : isD (byteAt s (p + (k + 1))) = true := by rw [← hqq.out, ← HBY2.out]; exact hd2
          have HDC := Lib.hid hdc
          have HL2 := Lib.hid hlt2
          clear hdc hlt2
          go_wp2_with (at_builtin; refine Lib.wpList_append_byte rfl _ _ 73 rfl w.heap.size 5 i0 Tryf.underlying73 hi hz0 hz1 hz2 _ _ _ rfl w _ _ (by exact HB.out) rfl (by omega) ?_; intro v2 w2 hb2)
          have HB2 : Hid (Buf w.heap.size v2 (numBuf s p (k + 1)) w w2) := Lib.hid (by rw [HBE.out]; exact Buf.app (by rw [HCI.out]; exact hb2))
          clear hb2 HBE HB
          go_wp2_with fail
          refine (digitB _ _).mono ?_
          rw [hd2]
          rintro e w3 ⟨rfl, rfl⟩
          have HD := Lib.hid (digitRun s p (k + 1) 7 9 w.heap.size v2 w w2 hs (.inr rfl) HON.out HL2.out HDC.out (st_7 HDC.out) HB2.out)
          rw [← hqq.out] at HD
          go_wp2_with fail
          refine HD.out.mono ?_
          rintro e w4 (⟨k2, v3, rfl, hon, hk, hb, hst⟩ | ⟨j, v3, rfl, hno, hbe⟩)
          · have hne : numBuf s p k2 ≠ [] := buf_ne HLT.out hk HDG.out
            obtain ⟨g, cap, rfl, kc⟩ := buf_string hb hne
            have HE := Lib.hid (MnPost.yes (v := numBuf s p k2) rfl (hon.stop (st9_stop HP.out hon.fit hst)) hk hon.fit hb.2.1)
            have kc0 := kc 0
            clear hb hon hst hk hne
            go_wp2_with fail
            go_quiet (fail)
            go_wp2
            go_ret3
            exact HE.out.drewN _
          · have HE := Lib.hid (MnPost.no (j := j) hno hbe)
            clear hno hbe
            go_wp2
            go_ret3
            exact HE.out
        | false =>
          have HN := Lib.hid (HON.out.no (.inl ⟨hlt2, st7_no HP.out hlt2 (by rw [← hqq.out, ← HBY2.out]; exact hd2)⟩))
          clear hlt2
          go_wp2_with (at_builtin; refine Lib.wpList_append_byte rfl _ _ 73 rfl w.heap.size 5 i0 Tryf.underlying73 hi hz0 hz1 hz2 _ _ _ rfl w _ _ (by exact HB.out) rfl (by omega) ?_; intro v2 w2 hb2)
          have HB2 := Lib.hid hb2.2.1
          clear hb2 HBE HB
          go_wp2_with fail
          refine (digitB _ _).mono ?_
          rw [hd2]
          rintro e w3 ⟨rfl, rfl⟩
          go_wp2
          go_ret3
          exact .no HN.out HB2.out
      · have i2 : ¬ (q : Int) + 1 < (s.size : Int) := by omega
        have i4 : decide ((q : Int) + 1 < (s.size : Int)) = false := decide_eq_false i2
        have HN := Lib.hid (HON.out.no (.inr ⟨by have := HS.out.1; omega, rfl⟩))
        go_wp2_with (at_builtin; refine Lib.wpList_append_byte rfl _ _ 73 rfl w.heap.size 5 i0 Tryf.underlying73 hi hz0 hz1 hz2 _ _ _ rfl w _ _ (by exact HB.out) rfl (by omega) ?_; intro v2 w2 hb2)
        have HB2 := Lib.hid hb2.2.1
        clear hb2 HBE HB
        go_wp2
        go_ret3
        exact .no HN.out HB2.out
    · by_cases h69 : (s[q]'hltq).toNat = 69
      · have hcc : byteAt s (p + k) = 69 := by rw [← HCC.out]; exact h69
        have HCC := Lib.hid hcc
        have e101 : ((((s[q]'hltq).toNat : Nat) : Int) == 101) = false := beq_false_of_ne (by omega)
        have e69 : ((((s[q]'hltq).toNat : Nat) : Int) == 69) = true := beq_iff_eq.2 (by omega)
        have HCI : Hid (((s[q]'hltq).toNat : Int) = 69) := Lib.hid (by omega)
        have HON := Lib.hid (HS.out.2.1.on.step hlt' (st_exp HS.out.2.1.st12 (by rw [HCC.out]; exact .inr rfl)))
        have hbe : numBuf s p (k + 1) = numBuf s p k ++ [s[q]'hltq] := by
          rw [numBuf_next s p k hlt', if_neg (by rw [HCC.out]; decide)]
          simp only [← HS.out.1]
        have HBE := Lib.hid hbe
        have HB := Lib.hid HS.out.2.2
        clear hbe
        by_cases hl2 : q + 1 < s.size
        · have i2 : (q : Int) + 1 < (s.size : Int) := by omega
          have i3 : (0 : Int) ≤ (q : Int) + 1 := by omega
          have HBY2 := Lib.hid (byte_of_get s (q + 1) hl2)
          have hlt2 : p + (k + 1) < s.size := by have := HS.out.1; omega
          have hqq := Lib.hid (show q + 1 = p + (k + 1) by have := HS.out.1; omega)
          cases hd2 : isD (s[q + 1]'hl2).toNat with
          | true =>
            have hdc : isD (byteAt s (p + (k + 1))) = true := by rw [← hqq.out, ← HBY2.out]; exact hd2
            have HDC := Lib.hid hdc
            have HL2 := Lib.hid hlt2
            clear hdc hlt2
            go_wp2_with (at_builtin; refine Lib.wpList_append_byte rfl _ _ 73 rfl w.heap.size 5 i0 Tryf.underlying73 hi hz0 hz1 hz2 _ _ _ rfl w _ _ (by exact HB.out) rfl (by omega) ?_; intro v2 w2 hb2)
            have HB2 : Hid (Buf w.heap.size v2 (numBuf s p (k + 1)) w w2) := Lib.hid (by rw [HBE.out]; exact Buf.app (by rw [HCI.out]; exact hb2))
            clear hb2 HBE HB
            go_wp2_with fail
            refine (digitB _ _).mono ?_
            rw [hd2]
            rintro e w3 ⟨rfl, rfl⟩
            have HD := Lib.hid (digitRun s p (k + 1) 7 9 w.heap.size v2 w w2 hs (.inr rfl) HON.out HL2.out HDC.out (st_7 HDC.out) HB2.out)
            rw [← hqq.out] at HD
            go_wp2_with fail
            refine HD.out.mono ?_
            rintro e w4 (⟨k2, v3, rfl, hon, hk, hb, hst⟩ | ⟨j, v3, rfl, hno, hbe⟩)
            · have hne : numBuf s p k2 ≠ [] := buf_ne HLT.out hk HDG.out
              obtain ⟨g, cap, rfl, kc⟩ := buf_string hb hne
              have HE := Lib.hid (MnPost.yes (v := numBuf s p k2) rfl (hon.stop (st9_stop HP.out hon.fit hst)) hk hon.fit hb.2.1)
              have kc0 := kc 0
              clear hb hon hst hk hne
              go_wp2_with fail
              go_quiet (fail)
              go_wp2
              go_ret3
              exact HE.out.drewN _
            · have HE := Lib.hid (MnPost.no (j := j) hno hbe)
              clear hno hbe
              go_wp2
              go_ret3
              exact HE.out
          | false =>
            have HN := Lib.hid (HON.out.no (.inl ⟨hlt2, st7_no HP.out hlt2 (by rw [← hqq.out, ← HBY2.out]; exact hd2)⟩))
            clear hlt2
            go_wp2_with (at_builtin; refine Lib.wpList_append_byte rfl _ _ 73 rfl w.heap.size 5 i0 Tryf.underlying73 hi hz0 hz1 hz2 _ _ _ rfl w _ _ (by exact HB.out) rfl (by omega) ?_; intro v2 w2 hb2)
            have HB2 := Lib.hid hb2.2.1
            clear hb2 HBE HB
            go_wp2_with fail
            refine (digitB _ _).mono ?_
            rw [hd2]
            rintro e w3 ⟨rfl, rfl⟩
            go_wp2
            go_ret3
            exact .no HN.out HB2.out
        · have i2 : ¬ (q : Int) + 1 < (s.size : Int) := by omega
          have i4 : decide ((q : Int) + 1 < (s.size : Int)) = false := decide_eq_false i2
          have HN := Lib.hid (HON.out.no (.inr ⟨by have := HS.out.1; omega, rfl⟩))
          go_wp2_with (at_builtin; refine Lib.wpList_append_byte rfl _ _ 73 rfl w.heap.size 5 i0 Tryf.underlying73 hi hz0 hz1 hz2 _ _ _ rfl w _ _ (by exact HB.out) rfl (by omega) ?_; intro v2 w2 hb2)
          have HB2 := Lib.hid hb2.2.1
          clear hb2 HBE HB
          go_wp2
          go_ret3
          exact .no HN.out HB2.out
      · have e101 : ((((s[q]'hltq).toNat : Nat) : Int) == 101) = false := beq_false_of_ne (by omega)
        have e69 : ((((s[q]'hltq).toNat : Nat) : Int) == 69) = false := beq_false_of_ne (by omega)
        have HX := Lib.hid (st12_stop HP.out HS.out.2.1 hlt' (by rw [← HCC.out]; exact h101) (by rw [← HCC.out]; exact h69))
        clear h101 h69
        have hne : numBuf s p k ≠ [] := buf_ne HLT.out HS.out.2.1.pos HDG.out
        have hbb := HS.out.2.2
        obtain ⟨g, cap, rfl, kc⟩ := buf_string hbb hne
        have HE := Lib.hid (MnPost.yes (v := numBuf s p k) rfl (HS.out.2.1.on.stop (.inl ⟨hlt', HX.out⟩)) HS.out.2.1.pos HS.out.2.1.on.fit hbb.2.1)
        rw [← HS.out.1] at HE
        have kc0 := kc 0
        clear hbb hne HS
        go_wp2_with fail
        go_quiet (fail)
        go_wp2
        go_ret3
        exact HE.out.drewN _
  · have i1 : ¬ (q : Int) < (s.size : Int) := by omega
    have i4 : decide ((q : Int) < (s.size : Int)) = false := decide_eq_false i1
    have hne : numBuf s p k ≠ [] := buf_ne HLT.out HS.out.2.1.pos HDG.out
    have hbb := HS.out.2.2
    obtain ⟨g, cap, rfl, kc⟩ := buf_string hbb hne
    have HE := Lib.hid (MnPost.yes (v := numBuf s p k) rfl (HS.out.2.1.on.stop (.inr ⟨by have := HS.out.1; omega, st12_end HS.out.2.1.st12⟩)) HS.out.2.1.pos HS.out.2.1.on.fit hbb.2.1)
    rw [← HS.out.1] at HE
    have kc0 := kc 0
    clear hbb hne HS
    go_wp2_with fail
    go_quiet (fail)
    go_wp2
    go_ret3
    exact HE.out.drewN _

end Lx
end Go.Proofs.YthohpccmleodpaaFmt
