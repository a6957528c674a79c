/-
  The walk of FnPeekAgreesWithPop.
-/
import Derived.Test.YtgdccdhkknbahaaFmtPkB
import Derived.Laws.CopyOwn
import Derived.OwnWalk
import Derived.Lib.Builder
namespace Go.Proofs.YtgdccdhkknbahaaFmt.fnPeekAgreesWithPop
open Go Go.RowKit

theorem splice0 (L cs : List Value) {i : Nat} (h : i < cs.length) : (splice L 0 cs)[i]? = cs[i]? := by
  simp only [splice, List.take_zero, List.nil_append]
  rw [List.getElem?_append_left h]
theorem full_block {w : World} {B : Nat} {e : TypeId} {n : Nat} {xs : List Value} (h : w.ownsRow B e 1 (.slice (some ⟨B, 0, none⟩) n n) n xs) : ∃ L : List Value, w.heap[B]? = some (.cells L.toArray e (0, 0)) ∧ L.length = n := by
  rcases h.2 with ⟨hv, _⟩ | ⟨g, cap, cur, hv, _, hh, h1, _, h3, h4⟩
  · cases hv
  · cases hv
    exact ⟨cur.toList, by simpa using hh, by simp; omega⟩

/-- What copy asks of its source, behind a name. -/
def CopyFrom (w : World) (g : Nat) (dp sp : Option Addr) (cs : List Value) : Prop := 0 < cs.length → dp = some ⟨g, 0, none⟩ ∧ ∃ ad, sp = some ad ∧ ∀ j v, cs[j]? = some v → w.cell? (ad.add j) = some v
theorem CopyFrom.ints {w w1 : World} {B kb ko n : Nat} {ks : List Int} (g : Nat) (hb1 : Below B w w1) (hkb : kb < B) (hl : ks.length = n) (h : ∀ i, i < n → w.cell? ⟨kb, ko + i, none⟩ = some (.int .i64 (ks.getD i 0))) : CopyFrom w1 g (some ⟨g, 0, none⟩) (some ⟨kb, ko, none⟩) (ks.map (Value.int .i64)) := fun _ => ⟨rfl, ⟨kb, ko, none⟩, rfl, fun j v hv => by
  rw [List.getElem?_map] at hv
  have hj : j < ks.length := by
    rcases Nat.lt_or_ge j ks.length with h | h
    · exact h
    · rw [List.getElem?_eq_none h] at hv; cases hv
  rw [Lib.addr_add, hb1.cell (p := ⟨kb, ko + j, none⟩) hkb, h j (by omega)]
  rw [List.getElem?_eq_getElem hj] at hv
  simpa [List.getD, List.getElem?_eq_getElem hj] using hv⟩
theorem CopyFrom.strs {w w1 : World} {B kb ko n : Nat} {ks : List ByteArray} (g : Nat) (hb1 : Below B w w1) (hkb : kb < B) (hl : ks.length = n) (h : ∀ i, i < n → w.cell? ⟨kb, ko + i, none⟩ = some (.string (ks.getD i ByteArray.empty))) : CopyFrom w1 g (some ⟨g, 0, none⟩) (some ⟨kb, ko, none⟩) (ks.map Value.string) := fun _ => ⟨rfl, ⟨kb, ko, none⟩, rfl, fun j v hv => by
  rw [List.getElem?_map] at hv
  have hj : j < ks.length := by
    rcases Nat.lt_or_ge j ks.length with h | h
    · exact h
    · rw [List.getElem?_eq_none h] at hv; cases hv
  rw [Lib.addr_add, hb1.cell (p := ⟨kb, ko + j, none⟩) hkb, h j (by omega)]
  rw [List.getElem?_eq_getElem hj] at hv
  simpa [List.getD, List.getElem?_eq_getElem hj] using hv⟩

theorem ints_copied {w : World} {g n : Nat} {T : TypeId} {L KS : List Value} {ks : List Int} (h : w.heap[g]? = some (.cells (splice L 0 KS).toArray T (0, 0))) (hK : KS = ks.map (Value.int .i64)) (hl : ks.length = n) (hn : n ≤ 1048576) : IntsAt w w.heap.size (.slice (some ⟨g, 0, none⟩) n n) ks := by
  have hgl : g < w.heap.size := (Array.getElem?_eq_some_iff.1 h).1
  subst hl
  refine .isAt g 0 ks.length ks hgl (by unfold maxLen; omega) (fun i hi => ?_)
  rw [Nat.zero_add, cell_of_row w g i _ _ _ h, List.getElem?_toArray, splice0 _ _ (by rw [hK, List.length_map]; exact hi), hK, List.getElem?_map, List.getElem?_eq_getElem hi]
  simp [List.getD, List.getElem?_eq_getElem hi]
theorem strs_copied {w : World} {g n : Nat} {T : TypeId} {L KS : List Value} {ks : List ByteArray} (h : w.heap[g]? = some (.cells (splice L 0 KS).toArray T (0, 0))) (hK : KS = ks.map Value.string) (hl : ks.length = n) (hn : n ≤ 1048576) : StrsAt w w.heap.size (.slice (some ⟨g, 0, none⟩) n n) ks := by
  have hgl : g < w.heap.size := (Array.getElem?_eq_some_iff.1 h).1
  subst hl
  refine .isAt g 0 ks.length ks hgl (by unfold maxLen; omega) (fun i hi => ?_)
  rw [Nat.zero_add, cell_of_row w g i _ _ _ h, List.getElem?_toArray, splice0 _ _ (by rw [hK, List.length_map]; exact hi), hK, List.getElem?_map, List.getElem?_eq_getElem hi]
  simp [List.getD, List.getElem?_eq_getElem hi]
theorem ints_up {w w' : World} {B B2 : Nat} {v : Value} {ks : List Int} (h : IntsAt w B v ks) (hb : Below B w w') (hB : B ≤ B2) : IntsAt w' B2 v ks := by
  have h := h.below hb
  cases h with
  | isNil => exact .isNil
  | isAt b off cap zs hb hn hc => exact .isAt b off cap _ (by omega) hn hc
  | isBare a cap => exact .isBare a cap

set_option maxHeartbeats 3200000 in
set_option maxRecDepth 100000 in
theorem walk_main (ka : Option Addr) (n kc : Nat) (ks : List Int) (cur : Int) (a : Option Addr) (m c : Nat) (zs : List ByteArray) (w : World) (hk : IntsAt w w.heap.size (.slice ka n kc) ks) (hkl : ks.length = n) (hi : StrsAt w w.heap.size (.slice a m c) zs) (hl : zs.length = m) (hn : n ≤ maxLen) (hm : m ≤ maxLen) (hz : ∀ i, i < m → (zs.getD i ByteArray.empty).size ≤ maxLen) :
    Calls Tryf.prog 6 #[.slice ka n kc, .slice a m c, .int .i64 cur] w fun e w' => e = .returned (.bool true) ∧ Below w.heap.size w w' := by
  obtain ⟨i0, hi0, hz0, hz1, hz2⟩ := info_parts infoInt
  obtain ⟨j0, hj0, hy0, hy1, hy2⟩ := info_parts infoStrE
  have HK := Lib.hid hk
  have HKL := Lib.hid hkl
  have HI := Lib.hid hi
  have HL := Lib.hid hl
  have HZ := Lib.hid (pkBytes ka n kc cur a m c zs w hi hl hn hm hz)
  clear hk hkl hi hl hz
  unfold maxLen at hn hm
  go_enter Tryf.func6, Tryf.ntmps6
  go_wp2_with fail
  refine HZ.out.mono ?_
  rintro e w' ⟨⟨b, rfl, hb⟩, rfl⟩
  cases b with
  | false =>
    go_wp2
    go_ret
    exact ⟨rfl, Below.refl _ _⟩
  | true =>
  obtain ⟨hsum, hzz⟩ := hb rfl
  have HZZ := Lib.hid hzz
  clear hb hzz HZ
  by_cases e1 : 65536 < n
  · go_wp2
    go_ret
    exact ⟨rfl, Below.refl _ _⟩
  have d1 : decide (65536 < n) = false := decide_eq_false e1
  by_cases e2 : 65536 < m
  · go_wp2
    go_ret
    exact ⟨rfl, Below.refl _ _⟩
  have d2 : decide (65536 < m) = false := decide_eq_false e2
  go_wp2_with fail
  refine (pkSum ka n kc a m c zs w HI.out HL.out (by omega) (by omega) HZZ.out).mono ?_
  rintro e w' ⟨⟨S, rfl, hS⟩, rfl⟩
  by_cases e3 : 1048576 < S
  · go_wp2
    go_ret
    exact ⟨rfl, Below.refl _ _⟩
  by_cases e4 : n = m
  · subst e4
    by_cases e5 : cur < 0
    · go_wp2
      go_ret
      exact ⟨rfl, Below.refl _ _⟩
    have d5 : decide (cur < 0) = false := decide_eq_false e5
    by_cases e6 : (n : Int) ≤ cur
    · go_wp2
      go_ret
      exact ⟨rfl, Below.refl _ _⟩
    obtain ⟨C, rfl⟩ := Int.eq_ofNat_of_zero_le (show 0 ≤ cur by omega)
    have d6 : decide ((n : Int) ≤ (C : Int)) = false := decide_eq_false e6
    have hC : C < n := by omega
    obtain ⟨kb, ko, rfl, hkb, hkk⟩ := HK.out.cell (k := 0) (by rw [HKL.out]; omega)
    obtain ⟨zb, zo, rfl, hzb, hzz⟩ := HI.out.cell (k := 0) (by rw [HL.out]; omega)
    rw [HKL.out] at hkk
    rw [HL.out] at hzz
    have HKK := Lib.hid hkk
    have HZK := Lib.hid hzz
    clear hkk hzz HK HI
    have q1 : ∀ (w : World) (a : Option Addr) (n c n' c' : Nat), (binOp .neq 44 (.slice a n c) (.slice none n' c')).run Tryf.prog w = .ok (.bool (!a.isNone)) w := fun w a n c n' c' => run_neq_slice_nil_any w _ _ a n c n' c' Tryf.underlying44
    have q2 : ∀ (w : World) (a : Option Addr) (n c n' c' : Nat), (binOp .neq 45 (.slice a n c) (.slice none n' c')).run Tryf.prog w = .ok (.bool (!a.isNone)) w := fun w a n c n' c' => run_neq_slice_nil_any w _ _ a n c n' c' Tryf.underlying45
    obtain ⟨KS, hKS⟩ : ∃ KS, KS = ks.map (Value.int .i64) := ⟨_, rfl⟩
    have KN : Hid (KS.length = Nat.min n n) := Lib.hid (by rw [hKS, List.length_map, HKL.out]; simp)
    have K1 : Hid (∀ v ∈ KS, v.oneCell' = true) := Lib.hid (fun v hv => by rw [hKS] at hv; obtain ⟨x, _, rfl⟩ := List.mem_map.1 hv; rfl)
    have HKS := Lib.hid hKS
    have hsz1 : (Tryf.prog.info? 3).map (·.size) = some 1 := by kernel_rfl
    clear hKS
    obtain ⟨ZS, hZS⟩ : ∃ ZS, ZS = zs.map Value.string := ⟨_, rfl⟩
    have ZN : Hid (ZS.length = Nat.min n n) := Lib.hid (by rw [hZS, List.length_map, HL.out]; simp)
    have Z1 : Hid (∀ v ∈ ZS, v.oneCell' = true) := Lib.hid (fun v hv => by rw [hZS] at hv; obtain ⟨x, _, rfl⟩ := List.mem_map.1 hv; rfl)
    have HZS := Lib.hid hZS
    have hsz2 : (Tryf.prog.info? 9).map (·.size) = some 1 := by kernel_rfl
    clear hZS
    go_wp2_with (first
      | (refine wpList_make_full _ rfl _ _ 44 rfl w.heap.size 3 i0 (.int .i64 0) 1 Tryf.underlying44 hi0 hz0 hz1 .i64 .i64 _ _ n rfl rfl rfl rfl (by rw [hz2]; omega) (by unfold maxLen; omega) (Nat.le_refl _) ?_; intro w1 hown1 hg1;
          have HB1 := Lib.hid ((Below.refl _ _).grown hg1 (Nat.le_refl _) (by simp)); obtain ⟨L1, hL1, hl1⟩ := full_block hown1; have HL1 := Lib.hid hL1;
          have KP : CopyFrom w1 w.heap.size (some ⟨w.heap.size, 0, none⟩) (some ⟨kb, ko, none⟩) KS := (by rw [HKS.out]; exact CopyFrom.ints _ HB1.out hkb HKL.out HKK.out);
          have KF : Hid (0 + KS.length ≤ L1.length) := Lib.hid (by rw [hl1, HKS.out, List.length_map, HKL.out]; omega); clear hL1 hown1 hg1 hl1)
      | (refine wpList_copy_splice (o := ⟨some 52, _, _, _, _, _⟩) rfl (.tmp 50) (.tmp 51) 44 44 rfl 3 Tryf.underlying44 hsz1 (some ⟨w.heap.size, 0, none⟩) (some ⟨kb, ko, none⟩) n n n kc rfl rfl w.heap.size 0 L1 3 HL1.out KS KN.out KP KF.out K1.out w.heap.size w HB1.out (Nat.le_refl _) ?_; intro w2 HG2 hb2;
          have HI2 := Lib.hid (ints_copied HG2.out HKS.out HKL.out (by omega)); have HB2 := Lib.hid hb2; have s2 : w.heap.size < w2.heap.size := (Array.getElem?_eq_some_iff.1 HG2.out).1; clear HG2 HL1 KP KF hb2)
      | (refine wpList_make_full _ rfl _ _ 45 rfl w2.heap.size 9 j0 (.string ⟨#[]⟩) 1 Tryf.underlying45 hj0 hy0 hy1 .i64 .i64 _ _ n rfl rfl rfl rfl (by rw [hy2]; omega) (by unfold maxLen; omega) (Nat.le_refl _) ?_; intro w3 hown3 hg3;
          have HB3 := Lib.hid ((Below.refl w2.heap.size w2).grown hg3 (Nat.le_refl _) (by simp)); obtain ⟨L3, hL3, hl3⟩ := full_block hown3; have HL3 := Lib.hid hL3;
          have ZP : CopyFrom w3 w2.heap.size (some ⟨w2.heap.size, 0, none⟩) (some ⟨zb, zo, none⟩) ZS := (by rw [HZS.out]; exact CopyFrom.strs _ (HB2.out.trans (HB3.out.mono (by omega))) hzb HL.out HZK.out);
          have ZF : Hid (0 + ZS.length ≤ L3.length) := Lib.hid (by rw [hl3, HZS.out, List.length_map, HL.out]; omega); clear hL3 hown3 hg3 hl3)
      | (refine wpList_copy_splice (o := ⟨some 61, _, _, _, _, _⟩) rfl (.tmp 59) (.tmp 60) 45 45 rfl 9 Tryf.underlying45 hsz2 (some ⟨w2.heap.size, 0, none⟩) (some ⟨zb, zo, none⟩) n n n c rfl rfl w2.heap.size 0 L3 9 HL3.out ZS ZN.out ZP ZF.out Z1.out w2.heap.size w2 HB3.out (Nat.le_refl _) ?_; intro w4 HG4 hb4;
          have HS4 := Lib.hid (strs_copied HG4.out HZS.out HL.out (by omega)); have s4 : w2.heap.size < w4.heap.size := (Array.getElem?_eq_some_iff.1 HG4.out).1; have HB4 := Lib.hid (HB2.out.trans (hb4.mono (by omega)));
          have HI4 := Lib.hid (ints_up HI2.out hb4 (show w2.heap.size ≤ w4.heap.size by omega)); clear HG4 HL3 ZP ZF hb4))
    clear ZN Z1 HZS hsz2 KN K1 HKS hsz1 q1 q2 HB2 HI2
    refine (zzEof w4).mono ?_
    rintro e w5 ⟨rfl, rfl⟩
    go_wp2_with fail
    refine (pkKinds _ n _ ks _ w4 HI4.out HKL.out (by omega)).mono ?_
    rintro e w5 ⟨⟨b, rfl, _⟩, rfl⟩
    cases b with
    | false =>
      go_wp2
      go_ret
      exact ⟨rfl, HB4.out⟩
    | true =>
    go_wp2_with fail
    refine (newPar _ n _ ks C _ _ zs w4 HI4.out HKL.out HS4.out HL.out (by omega) (by omega)).mono ?_
    rintro e w5 ⟨⟨pb, g, rfl, hpar, hrow, hg, hgp⟩, hb5⟩
    have HP5 := Lib.hid (ParAt.mk hpar hrow hgp)
    have HI5 := Lib.hid (ints_up HI4.out hb5 (Nat.le_refl _))
    have HS5 := Lib.hid (HS4.out.below hb5)
    have HB5 := Lib.hid (HB4.out.trans (hb5.mono (by omega)))
    have hpw : w4.heap.size < pb := by omega
    clear hpar hrow hb5 HI4 HS4 HB4
    obtain ⟨kv, hkv⟩ : ∃ kv, ks.getD C 0 = kv := ⟨_, rfl⟩
    have HKV := Lib.hid hkv
    clear hkv
    have qp : ∀ (w : World) (p : Addr), (binOp .neq 51 (.pointer (some p)) (.pointer (some p))).run Tryf.prog w = .ok (.bool false) w := fun w p => by
      obtain ⟨j, hj⟩ : ∃ j, Tryf.prog.info? 64 = some j := by
        obtain ⟨i, hi, _⟩ := info_parts infoTok
        exact ⟨i, hi⟩
      exact Lib.run_neq_ptr_same (w := w) p Tryf.underlying51 hj
    go_wp2_with fail
    refine (zzPeek pb g n C ks zs w5 HP5.out hC (by omega)).mono ?_
    rintro e w6 ⟨rfl, m1, rfl⟩
    go_wp2_with fail
    refine (zzKind pb g n C ks zs C kv _ (HP5.out.drewN m1) hC HKV.out).mono ?_
    rintro e w7 ⟨rfl, rfl⟩
    go_wp2_with fail
    refine (zzPopExpect pb g n C ks zs kv _ (HP5.out.drewN m1) hC (by omega) HKV.out).mono ?_
    rintro e w7 ⟨rfl, hp7, hb7⟩
    have HP7 := Lib.hid hp7
    have hb57 : Below pb w5 w7 := (drewN_below (Below.refl pb w5) m1).trans hb7
    have HI7 := Lib.hid (HI5.out.below (B := w4.heap.size) (hb57.mono (by omega)))
    have HS7 := Lib.hid (HS5.out.below (B := w4.heap.size) (hb57.mono (by omega)))
    have HB7 := Lib.hid (HB5.out.trans (hb57.mono (by omega)))
    clear hp7 hb7 hb57 HP5 HI5 HS5 HB5
    go_wp2_with fail
    refine (zzCurrT pb g n (C + 1) ks zs _ HP7.out).mono ?_
    rintro e w8 ⟨rfl, rfl⟩
    by_cases hlast : C + 1 < n
    · go_wp2_with fail
      refine (zzPeek pb g n (C + 1) ks zs _ HP7.out hlast (by omega)).mono ?_
      rintro e w8 ⟨rfl, m2, hw8⟩
      have HP8 : Hid (ParAt w8 pb g n (C + 1) ks zs) := Lib.hid (by rw [hw8]; exact HP7.out.drewN m2)
      have HI8 : Hid (IntsAt w8 w4.heap.size (.slice (some ⟨w.heap.size, 0, none⟩) n n) ks) := Lib.hid (by rw [hw8]; exact HI7.out.drewN m2)
      have HS8 : Hid (StrsAt w8 w4.heap.size (.slice (some ⟨w2.heap.size, 0, none⟩) n n) zs) := Lib.hid (by rw [hw8]; exact HS7.out.drewN m2)
      have HB8 : Hid (Below w.heap.size w w8) := Lib.hid (by rw [hw8]; exact drewN_below HB7.out m2)
      clear hw8 HP7 HI7 HS7 HB7
      go_wp2_with fail
      obtain ⟨k2, hk2⟩ : ∃ k2, ks.getD (C + 1) 0 = k2 := ⟨_, rfl⟩
      obtain ⟨z2, hz2'⟩ : ∃ z2, zs.getD (C + 1) ByteArray.empty = z2 := ⟨_, rfl⟩
      obtain ⟨b1, o1, h1, _, hc1⟩ := HI8.out.cell (k := 0) (by rw [HKL.out]; omega)
      obtain ⟨b2, o2, h2, _, hc2⟩ := HS8.out.cell (k := 0) (by rw [HL.out]; omega)
      have c1 := hc1 (C + 1) (by rw [HKL.out]; exact hlast)
      have c2 := hc2 (C + 1) (by rw [HL.out]; exact hlast)
      cases h1
      cases h2
      rw [hk2, Nat.zero_add] at c1
      rw [hz2', Nat.zero_add] at c2
      have HK2 := Lib.hid hk2
      have HZ2 := Lib.hid hz2'
      have i1 : (0 : Int) ≤ (C : Int) + 1 := by omega
      have i2 : (C : Int) + 1 < (n : Int) := by omega
      clear hk2 hz2' hc1 hc2
      have i3 : ((C : Int) + 1).toNat = C + 1 := by omega
      have i4 : IntKind.i64.wrap ((C : Int) + 1) = (C : Int) + 1 := IntWalk.i64_in _ ⟨by omega, by omega⟩
      go_quiet ((first
        | (go_at_call 26; exact Calls.quiet_of_same ((zzKind pb g n (C + 1) ks zs (C + 1) k2 _ (HP8.out.drewN _) hlast HK2.out).mono fun _ _ ⟨h1, h2⟩ => ⟨h1, h2.symm⟩))
        | (go_at_call 28; exact Calls.quiet_of_same ((zzData pb g n (C + 1) ks zs (C + 1) z2 _ (HP8.out.drewN _) hlast HZ2.out).mono fun _ _ ⟨h1, h2⟩ => ⟨h1, h2.symm⟩))))
      go_wp2
      go_ret
      exact ⟨rfl, drewN_below HB8.out _⟩
    · go_wp2
      go_ret
      exact ⟨rfl, HB7.out⟩
  · have d4 : (n == m) = false := by simpa using e4
    have d4' : (n != m) = true := by simpa using e4
    go_wp2
    go_ret
    exact ⟨rfl, Below.refl _ _⟩

end Go.Proofs.YtgdccdhkknbahaaFmt.fnPeekAgreesWithPop
