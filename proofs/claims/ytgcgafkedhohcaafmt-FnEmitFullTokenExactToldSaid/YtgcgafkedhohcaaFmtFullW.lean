/-
  The walk of FnEmitFullTokenExact.
-/
import Derived.Test.YtgcgafkedhohcaaFmtLaidTabs
import Derived.Test.YtgcgafkedhohcaaFmtShimsT
import Derived.Test.YtgcgafkedhohcaaFmtFullA
namespace Go.Proofs.YtgcgafkedhohcaaFmt.fnEmitFullTokenExact
open Go Go.RowKit Go.Shelf

/-- The j-th element of the fodder: a paragraph whose one comment is the j-th text. -/
def ElemAt (w : World) (zs : List ByteArray) (xs : List Value) (j : Nat) : Prop :=
  ∃ g : Nat, (∀ r, r < 4 → xs[j * 4 + r]? = (fodCells (.slice (some ⟨g, 0, none⟩) 1 1) 2 ((j : Int) % 4) ((j : Int) % 9))[r]?) ∧ w.heap[g]? = some (.cells #[.string (zs.getD j ByteArray.empty)] 9 (0, 0))
def Fods (w : World) (B : Nat) (zs : List ByteArray) (v : Value) (q : Nat) : Prop := ∃ xs, w.ownsRow B 76 4 v q xs ∧ ∀ j, j < q → ElemAt w zs xs j
theorem Fods.keep {w w' : World} {B : Nat} {zs : List ByteArray} {v : Value} {q : Nat} (h : Fods w B zs v q) (hk : ∀ (i : Nat) (c : Array Value) (t : TypeId) (fz : Nat × Nat), w.heap[i]? = some (Obj.cells c t fz) → (t = 76 ∨ t = 9) → w'.heap[i]? = w.heap[i]?) : Fods w' B zs v q := by
  obtain ⟨xs, ho, hx⟩ := h
  refine ⟨xs, ownsRow_same ho fun g hg => ?_, fun j hj => ?_⟩
  · obtain ⟨c, fz, hc⟩ := Lib.ownsRow_kind ho g hg
    exact hk g c _ fz hc (.inl rfl)
  · obtain ⟨g, h1, h2⟩ := hx j hj
    exact ⟨g, h1, (hk g _ _ _ h2 (.inr rfl)).trans h2⟩
theorem Fods.below {w w' : World} {B : Nat} {zs : List ByteArray} {v : Value} {q : Nat} (h : Fods w B zs v q) (hb : Below w.heap.size w w') : Fods w' B zs v q :=
  h.keep fun i _ _ _ hc _ => hb.block i (Array.getElem?_eq_some_iff.1 hc).1
theorem Fods.kept1 {w w' : World} {a : Nat} {L : LexSt} {B : Nat} {zs : List ByteArray} {v : Value} {q : Nat} (h : Fods w B zs v q) (hA : LexAt w a L) (hk : ∀ i, i < w.heap.size → i ≠ a → w'.heap[i]? = w.heap[i]?) : Fods w' B zs v q :=
  h.keep fun i _ t _ hc ht => hk i (Array.getElem?_eq_some_iff.1 hc).1 (fun e => by
    subst e
    unfold LexAt at hA
    rw [hA] at hc
    cases hc
    rcases ht with ht | ht <;> exact absurd ht (by decide))
theorem fods_form {w : World} {B : Nat} {zs : List ByteArray} {v : Value} {q : Nat} (h : Fods w B zs v q) : ∃ p cap, v = .slice p q cap := by
  obtain ⟨xs, ho, _⟩ := h
  rcases ho.2 with ⟨rfl, rfl⟩ | ⟨g, cap, cur, rfl, _⟩
  · exact ⟨_, _, rfl⟩
  · exact ⟨_, _, rfl⟩
theorem fods_step {w w' : World} {a : Nat} {L : LexSt} {B q : Nat} {zs : List ByteArray} {xs : List Value} {v : Value} {t : ByteArray} (hA : LexAt w a L) (ht : zs.getD q ByteArray.empty = t) (ho : w.ownsRow B 76 4 L.fod q xs) (hx : ∀ j, j < q → ElemAt w zs xs j)
    (hown : w'.ownsRow B 76 4 v (q + 1) (xs ++ fodCells (.slice (some ⟨w.heap.size, 0, none⟩) 1 1) 2 ((q : Int) % 4) ((q : Int) % 9)))
    (hk : Kept (fun i => i = a ∨ L.fod.ownBlock = some i) (w.alloc (.cells #[.string t] 9)) w') : Fods w' B zs v (q + 1) := by
  have hAa := hA
  unfold LexAt at hAa
  have hstr : ∀ (g : Nat) (c : Array Value), w.heap[g]? = some (Obj.cells c 9 (0, 0)) → w'.heap[g]? = some (Obj.cells c 9 (0, 0)) := fun g c hg => by
    have hlt : g < w.heap.size := (Array.getElem?_eq_some_iff.1 hg).1
    rw [hk.block g (by simp; omega) (fun e => by
      rcases e with e | e
      · subst e
        rw [hAa] at hg
        cases hg
      · obtain ⟨cc, fz, hc⟩ := Lib.ownsRow_kind ho g e
        rw [hg] at hc
        cases hc), Below.heap_alloc _ _ _ hlt]
    exact hg
  refine ⟨_, hown, fun j hj => ?_⟩
  by_cases hjq : j < q
  · obtain ⟨g, h1, h2⟩ := hx j hjq
    refine ⟨g, fun r hr => ?_, hstr g _ h2⟩
    rw [List.getElem?_append_left (by have := ho.1; omega)]
    exact h1 r hr
  · obtain rfl : j = q := by omega
    refine ⟨w.heap.size, fun r hr => ?_, ?_⟩
    · rw [List.getElem?_append_right (by have := ho.1; omega), ho.1, Nat.add_sub_cancel_left]
    · have hlt := hA.lt
      rw [hk.block w.heap.size (by simp) (fun e => by
        rcases e with e | e
        · omega
        · obtain ⟨cc, fz, hc⟩ := Lib.ownsRow_kind ho _ e
          have := (Array.getElem?_eq_some_iff.1 hc).1
          omega), ht]
      exact heap_alloc_new w _

set_option maxHeartbeats 6400000 in
set_option maxRecDepth 100000 in
theorem core (s : ByteArray) (j k kd : Int) (da si st : ByteArray) (a : Option Addr) (n c : Nat) (zs : List ByteArray) (w : World) (hs : s.size ≤ maxLen) (hd : da.size ≤ maxLen) (hsi : si.size ≤ maxLen) (hst : st.size ≤ maxLen) (hi : StrsAt w w.heap.size (.slice a n c) zs) (hl : zs.length = n) (hn : n ≤ maxLen) (hz : ∀ i, i < n → (zs.getD i ByteArray.empty).size ≤ maxLen) (hT : Lib.Utf8Tabs 0 1 w) :
    Calls Tryf.prog 7 #[.string s, .int .i64 j, .int .i64 k, .int .i64 kd, .string da, .string si, .string st, .slice a n c] w fun e w' => e = .returned (.bool true) ∧ Below w.heap.size w w' := by
  obtain ⟨g0, g1⟩ := tabs_lt hT
  have HT := Lib.hid hT
  have HI := Lib.hid hi
  have HL := Lib.hid hl
  have HZ0 := Lib.hid (zzBytesFull s da si st j k kd a n c zs w hi hl hn hs hd hsi hst hz)
  unfold maxLen at hn hs hd hsi hst
  clear hT hi hl hz
  go_enter Tryf.func7, Tryf.ntmps7
  go_wp2_with fail
  refine HZ0.out.mono ?_
  rintro e w' ⟨⟨b, rfl, hb⟩, rfl⟩
  have HBB := Lib.hid hb
  clear hb HZ0
  cases b
  · go_wp2
    all_goals go_ret
    all_goals exact ⟨rfl, Below.refl _ _⟩
  obtain ⟨m1, m2, m3, m4, m5, hz⟩ := HBB.out rfl
  have HZ := Lib.hid hz
  clear hz HBB hs hd hsi hst hn
  by_cases e1 : 65536 < n
  · go_wp2
    all_goals go_ret
    all_goals exact ⟨rfl, Below.refl _ _⟩
  have d1 : decide (65536 < n) = false := decide_eq_false e1
  go_wp2_with fail
  refine (strsBytes a n c zs w HI.out HL.out (by omega) HZ.out).mono ?_
  rintro e w' ⟨⟨SB, rfl, hSB⟩, rfl⟩
  by_cases e2 : 1048576 < s.size + da.size + si.size + st.size + SB
  · go_wp2
    all_goals go_ret
    all_goals exact ⟨rfl, Below.refl _ _⟩
  have hsum : s.size + da.size + si.size + st.size + SB ≤ 1048576 := by omega
  by_cases e3 : j < 0
  · go_wp2
    all_goals go_ret
    all_goals exact ⟨rfl, Below.refl _ _⟩
  have d3 : decide (j < 0) = false := decide_eq_false e3
  by_cases e4 : 65536 < j
  · go_wp2
    all_goals go_ret
    all_goals exact ⟨rfl, Below.refl _ _⟩
  have d4 : decide (65536 < j) = false := decide_eq_false e4
  by_cases e5 : k < 0
  · go_wp2
    all_goals go_ret
    all_goals exact ⟨rfl, Below.refl _ _⟩
  have d5 : decide (k < 0) = false := decide_eq_false e5
  by_cases e6 : 65536 < k
  · go_wp2
    all_goals go_ret
    all_goals exact ⟨rfl, Below.refl _ _⟩
  have d6 : decide (65536 < k) = false := decide_eq_false e6
  by_cases e7 : kd < 0
  · go_wp2
    all_goals go_ret
    all_goals exact ⟨rfl, Below.refl _ _⟩
  have d7 : decide (kd < 0) = false := decide_eq_false e7
  by_cases e8 : 36 < kd
  · go_wp2
    all_goals go_ret
    all_goals exact ⟨rfl, Below.refl _ _⟩
  have d8 : decide (36 < kd) = false := decide_eq_false e8
  obtain ⟨J, rfl⟩ := Int.eq_ofNat_of_zero_le (show 0 ≤ j by omega)
  obtain ⟨K, rfl⟩ := Int.eq_ofNat_of_zero_le (show 0 ≤ k by omega)
  have hJ : J ≤ 65536 := by omega
  have hK : K ≤ 65536 := by omega
  have hn65 : n ≤ 65536 := by omega
  clear e1 e2 e3 e4 e5 e6 e7 e8
  go_wp2_with fail
  refine (copyStrs _ zs _ HI.out (by rw [HL.out]; omega)).mono ?_
  rintro e w1 ⟨v', rfl, hi1, hb1⟩
  obtain ⟨a1, c1, rfl, _⟩ := hi1.len
  rw [HL.out] at hi1 ⊢
  have HI1 := Lib.hid hi1
  have hs1 := hb1.size
  have HT1 := Lib.hid (tabs_below HT.out hb1 g0 g1)
  clear hi1 HI HT
  go_wp2_with fail
  refine (zzMake s (by omega) _).mono ?_
  rintro e w2 ⟨N, M, rfl, hN, hAt, hb2⟩
  have HA := Lib.hid hAt
  have hs2 := hb2.size
  clear hAt
  go_wp2
  go_loopw [18] (fun i wr => ∃ q : Nat, q ≤ J ∧ i = .int .i64 q ∧ Hid (LexAt wr N ((initSt ⟨#[]⟩ ⟨#[]⟩ s (.pointer (some ⟨M, 0, none⟩))).steps q)) ∧ Below w1.heap.size w1 wr) (fun i _ => J - (intOf i).toNat)
  case atStart => exact ⟨0, Nat.zero_le _, rfl, HA, hb2⟩
  case round =>
    obtain ⟨q, hq, rfl, HAt, hbw⟩ := hrel
    have hinv := (inv_init ⟨#[]⟩ ⟨#[]⟩ s (.pointer (some ⟨M, 0, none⟩))).steps q
    generalize hL : (initSt ⟨#[]⟩ ⟨#[]⟩ s (.pointer (some ⟨M, 0, none⟩))).steps q = L at HAt hinv
    have HL1 := Lib.hid hL
    have HIv := Lib.hid hinv
    have hswr := hbw.size
    have HTw := Lib.hid (tabs_below HT1.out hbw (by omega) (by omega))
    clear hL hinv
    by_cases hlt : q < J
    · go_wp2_with fail
      refine (zzNext N L _ HAt.out (by rw [HIv.out.inp]; omega) (HIv.out.lnb (by omega)).1 (HIv.out.lnb (by omega)).2 HTw.out).mono ?_
      rintro e w3 ⟨rfl, ha2, hg2⟩
      have HA2 := Lib.hid ha2
      clear ha2
      go_wp2
      go_roundw
      case rel =>
        refine ⟨q + 1, by omega, by go_num, ?_, hbw.trans (below_of_grown hg2 hN (by omega))⟩
        have := HA2.out
        rw [← HL1.out] at this
        exact this
      case measure => simp [intOf]; omega
    · obtain rfl : q = J := by omega
      have hle := HIv.out.le
      have hls := HIv.out.lsb
      go_wp2_with fail
      refine (zzReset N L wr HAt.out (by omega) hls.1 hls.2).mono ?_
      rintro e w3 ⟨rfl, h3, hg3⟩
      have H3 := Lib.hid h3
      clear h3
      go_wp2_with fail
      refine (zzPos N L.reset _ H3.out).mono ?_
      rintro e w4 ⟨rfl, m4, rfl⟩
      obtain ⟨_, _, _, k4, k5, k6, _⟩ := steps_keeps (initSt ⟨#[]⟩ ⟨#[]⟩ s (.pointer (some ⟨M, 0, none⟩))) q
      rw [HL1.out] at k4 k5 k6
      have er1 : L.reset.ts = L.bn := rfl
      have er2 : L.reset.tl = 1 + (nlc s L.bn : Int) := HIv.out.ln
      have er3 : L.reset.tc = (L.bn : Int) - nle s L.bn + 1 := by show (L.bn : Int) - L.ls + 1 = _; rw [HIv.out.ls]
      have HIR : Hid (Inv s L.reset) := Lib.hid ⟨HIv.out.inp, HIv.out.le, HIv.out.ln, HIv.out.ls⟩
      rw [show L.reset.bn = L.bn from rfl, show L.reset.ln = L.ln from rfl, show L.reset.ls = L.ls from rfl]
      have kR4 : L.reset.src = .pointer (some ⟨M, 0, none⟩) := k4
      have kR5 : L.reset.toks = .slice none 0 0 := k5
      have kR6 : L.reset.fod = .slice none 0 0 := k6
      generalize L.reset = RR at H3 HIR er1 er2 er3 kR4 kR5 kR6
      have ER := Lib.hid (And.intro er1 (And.intro er2 er3))
      have KR := Lib.hid (And.intro kR4 (And.intro kR5 kR6))
      have hb3 : Below w1.heap.size w1 (w3.drewN m4) := drewN_below (hbw.trans (below_of_grown hg3 hN (by omega))) m4
      clear k4 k5 k6 kR4 kR5 kR6 er1 er2 er3 hg3 hbw HAt HTw
      go_wp2
      go_loopw [22] (fun i wr => ∃ r : Nat, r ≤ K ∧ i = .int .i64 r ∧ Hid (LexAt wr N (RR.steps r)) ∧ Below w1.heap.size w1 wr) (fun i _ => K - (intOf i).toNat)
      case atStart => exact ⟨0, Nat.zero_le _, rfl, H3, hb3⟩
      case round =>
        obtain ⟨r, hr, rfl, HAt, hbw⟩ := hrel
        have hinv := HIR.out.steps r
        generalize hL2 : RR.steps r = L2 at HAt hinv
        have HL2 := Lib.hid hL2
        have HI2 := Lib.hid hinv
        have hswr := hbw.size
        have HTw := Lib.hid (tabs_below HT1.out hbw (by omega) (by omega))
        clear hL2 hinv
        by_cases hlt : r < K
        · go_wp2_with fail
          refine (zzNext N L2 _ HAt.out (by rw [HI2.out.inp]; omega) (HI2.out.lnb (by omega)).1 (HI2.out.lnb (by omega)).2 HTw.out).mono ?_
          rintro e w5 ⟨rfl, ha2, hg2⟩
          have HA2 := Lib.hid ha2
          clear ha2
          go_wp2
          go_roundw
          case rel =>
            refine ⟨r + 1, by omega, by go_num, ?_, hbw.trans (below_of_grown hg2 hN (by omega))⟩
            have := HA2.out
            rw [← HL2.out] at this
            exact this
          case measure => simp [intOf]; omega
        · obtain rfl : r = K := by omega
          have hle2 := HI2.out.le
          have hls2 := HI2.out.lsb
          go_wp2_with fail
          refine (zzPos N L2 _ HAt.out).mono ?_
          rintro e w6 ⟨rfl, m6, rfl⟩
          obtain ⟨j4, j5, j6⟩ := KR.out
          obtain ⟨i1, i2, i3⟩ := ER.out
          obtain ⟨_, _, _, s4, s5, s6, s7, s8, s9⟩ := steps_keeps RR r
          rw [HL2.out] at s4 s5 s6 s7 s8 s9
          rw [j4] at s4
          rw [j5] at s5
          rw [j6] at s6
          rw [i1] at s7
          rw [i2] at s8
          rw [i3] at s9
          have S4 := Lib.hid s4
          have S5 := Lib.hid s5
          have S6 := Lib.hid s6
          have S7 := Lib.hid (And.intro s7 (And.intro s8 s9))
          have hb6 : Below w1.heap.size w1 (wr.drewN m6) := drewN_below hbw m6
          have HF0 : Hid (Fods (wr.drewN m6) w1.heap.size zs (.slice none 0 0) 0) := Lib.hid ⟨[], World.ownsRow_nil _ _ _ _, fun j hj => absurd hj (by omega)⟩
          have HA6 : Hid (LexAt (wr.drewN m6) N { L2 with fod := .slice none 0 0 }) := Lib.hid (by
            have e : ({ L2 with fod := .slice none 0 0 } : LexSt) = L2 := by rw [← s6]
            rw [e]
            exact HAt.out)
          clear j4 j5 j6 i1 i2 i3 s4 s5 s6 s7 s8 s9
          go_wp2
          go_loopw [26] (fun i wr => ∃ (q2 : Nat) (v : Value), q2 ≤ n ∧ i = .int .i64 q2 ∧ Hid (LexAt wr N { L2 with fod := v }) ∧ Hid (Fods wr w1.heap.size zs v q2) ∧ Below w1.heap.size w1 wr) (fun i _ => n - (intOf i).toNat)
          case atStart => exact ⟨0, _, Nat.zero_le _, rfl, HA6, HF0, hb6⟩
          case round =>
            obtain ⟨q2, v, hq2, rfl, HAq, HFq, hbq⟩ := hrel
            have hszq := hbq.size
            have HIq := Lib.hid (HI1.out.below hbq)
            by_cases hlt2 : q2 < n
            · obtain ⟨b, off, rfl, hbb, hcc⟩ := HIq.out.cell (k := q2) (by rw [HL.out]; exact hlt2)
              have hc1 := hcc q2 (by rw [HL.out]; exact hlt2)
              obtain ⟨t, htt⟩ : ∃ t, zs.getD q2 ByteArray.empty = t := ⟨_, rfl⟩
              rw [htt] at hc1
              have HTT := Lib.hid htt
              obtain ⟨xs, ho, hx⟩ := HFq.out
              have HO := Lib.hid ho
              have HX := Lib.hid hx
              have hLa : LexAt (wr.alloc (.cells #[.string t] 9)) N { L2 with fod := v } := (Below.heap_alloc wr _ N HAq.out.lt).trans HAq.out
              have HLA := Lib.hid hLa
              have hbl : b < wr.heap.size := by omega
              clear hcc htt ho hx hLa
              go_wp2_with fail
              refine (zzAddFodder N { L2 with fod := v } 2 _ _ (some ⟨wr.heap.size, 0, none⟩) 1 1 (.inr (.inr ⟨rfl, Nat.le_refl _⟩)) (by omega) w1.heap.size q2 xs _ HLA.out (HO.out.alloc _) (by simp; omega) (by omega)).mono ?_
              rintro e w7 ⟨rfl, v7, hA7, hown7, hv7, hk7⟩
              have HF7 := Lib.hid (fods_step HAq.out HTT.out HO.out HX.out hown7 hk7)
              have HA7 := Lib.hid hA7
              have hb7 : Below w1.heap.size w1 w7 := (hbq.alloc hszq _).trans (Kept.below hk7 (fun i hi => by
                rcases hi with hi | hi
                · rw [hi]; exact hN
                · have := HO.out.2
                  rcases this with ⟨e0, _⟩ | ⟨gg, cp, cur, e0, hbase, _⟩
                  · rw [show ({ L2 with fod := v } : LexSt).fod = v from rfl, e0] at hi
                    simp [Value.ownBlock] at hi
                  · rw [show ({ L2 with fod := v } : LexSt).fod = v from rfl, e0] at hi
                    simp [Value.ownBlock] at hi
                    omega) (by simp; omega))
              clear hA7 hown7 hk7
              go_wp2
              go_roundw
              case rel => exact ⟨q2 + 1, v7, by omega, by go_num, HA7, HF7, hb7⟩
              case measure => simp [intOf]; omega
            · obtain rfl : q2 = n := by omega
              obtain ⟨pv, cv, hpv⟩ := fods_form HFq.out
              subst hpv
              clear HIq
              go_wp2_with fail
              refine (zzEmitFull N { L2 with fod := .slice pv q2 cv } kd da si st w1.heap.size 0 [] wr HAq.out _ S4.out pv q2 cv rfl (by rw [show ({ L2 with fod := .slice pv q2 cv } : LexSt).toks = L2.toks from rfl, S5.out]; exact World.ownsRow_nil _ _ _ _) (by rw [show ({ L2 with fod := .slice pv q2 cv } : LexSt).toks = L2.toks from rfl, S5.out]; simp [Value.ownBlock]) hszq (by omega) (by show L2.bn ≤ _; omega) hls2.1 hls2.2).mono ?_
              rintro e w8 ⟨rfl, g, cap, M2, hL8, hown8, hga, hg8, hk8⟩
              have hrow : ∀ j, j < 11 → w8.cell? ⟨g, 0 * 11 + j, none⟩ = (tokCells (.slice pv q2 cv) da si st (.pointer (some ⟨M, 0, none⟩)) L2.im (1 + (nlc s L.bn : Int)) ((L.bn : Int) - nle s L.bn + 1) (1 + (nlc s L2.bn : Int)) ((L2.bn : Int) - nle s L2.bn + 1) kd)[j]? := by
                intro j hj
                have hc := hown8.cellAt (0 * 11 + j) (by omega)
                rw [show ({ L2 with fod := .slice pv q2 cv } : LexSt).src = L2.src from rfl, S4.out, show ({ L2 with fod := .slice pv q2 cv } : LexSt).tl = L2.tl from rfl, show ({ L2 with fod := .slice pv q2 cv } : LexSt).tc = L2.tc from rfl, S7.out.2.1, S7.out.2.2] at hc
                unfold LexSt.loc1 LexSt.loc2 at hc
                rw [show ({ L2 with fod := .slice pv q2 cv } : LexSt).ln = L2.ln from rfl, show ({ L2 with fod := .slice pv q2 cv } : LexSt).ls = L2.ls from rfl, HI2.out.ln, HI2.out.ls] at hc
                simpa using hc
              have HROW := Lib.hid hrow
              have HF8 := Lib.hid (HFq.out.kept1 (w' := w8) HAq.out (fun i hi hia => hk8.block i hi (fun e => by
                rcases e with e | e
                · exact hia e
                · rw [show ({ L2 with fod := .slice pv q2 cv } : LexSt).toks = L2.toks from rfl, S5.out] at e
                  simp [Value.ownBlock] at e)))
              have hb8 : Below w1.heap.size w1 w8 := hbq.trans (Kept.below hk8 (fun i hi => by
                rcases hi with hi | hi
                · rw [hi]; exact hN
                · rw [show ({ L2 with fod := .slice pv q2 cv } : LexSt).toks = L2.toks from rfl, S5.out] at hi
                  simp [Value.ownBlock] at hi) hszq)
              have t1 : ({ ({ L2 with fod := .slice pv q2 cv } : LexSt) with toks := .slice (some ⟨g, 0, none⟩) (0 + 1) cap, fod := .slice (some ⟨M2, 0, none⟩) 0 0 } : LexSt).toks = .slice (some ⟨g, 0, none⟩) 1 cap := rfl
              have t2 : ({ ({ L2 with fod := .slice pv q2 cv } : LexSt) with toks := .slice (some ⟨g, 0, none⟩) (0 + 1) cap, fod := .slice (some ⟨M2, 0, none⟩) 0 0 } : LexSt).fod = .slice (some ⟨M2, 0, none⟩) 0 0 := rfl
              have t3 : ({ ({ L2 with fod := .slice pv q2 cv } : LexSt) with toks := .slice (some ⟨g, 0, none⟩) (0 + 1) cap, fod := .slice (some ⟨M2, 0, none⟩) 0 0 } : LexSt).ts = (L.bn : Int) := S7.out.1
              have t4 : ({ ({ L2 with fod := .slice pv q2 cv } : LexSt) with toks := .slice (some ⟨g, 0, none⟩) (0 + 1) cap, fod := .slice (some ⟨M2, 0, none⟩) 0 0 } : LexSt).tl = 1 + (nlc s L.bn : Int) := S7.out.2.1
              have t5 : ({ ({ L2 with fod := .slice pv q2 cv } : LexSt) with toks := .slice (some ⟨g, 0, none⟩) (0 + 1) cap, fod := .slice (some ⟨M2, 0, none⟩) 0 0 } : LexSt).tc = (L.bn : Int) - nle s L.bn + 1 := S7.out.2.2
              have t6 : ({ ({ L2 with fod := .slice pv q2 cv } : LexSt) with toks := .slice (some ⟨g, 0, none⟩) (0 + 1) cap, fod := .slice (some ⟨M2, 0, none⟩) 0 0 } : LexSt).bn = L2.bn := rfl
              have t7 : ({ ({ L2 with fod := .slice pv q2 cv } : LexSt) with toks := .slice (some ⟨g, 0, none⟩) (0 + 1) cap, fod := .slice (some ⟨M2, 0, none⟩) 0 0 } : LexSt).ln = L2.ln := rfl
              have t8 : ({ ({ L2 with fod := .slice pv q2 cv } : LexSt) with toks := .slice (some ⟨g, 0, none⟩) (0 + 1) cap, fod := .slice (some ⟨M2, 0, none⟩) 0 0 } : LexSt).ls = L2.ls := rfl
              generalize ({ ({ L2 with fod := .slice pv q2 cv } : LexSt) with toks := .slice (some ⟨g, 0, none⟩) (0 + 1) cap, fod := .slice (some ⟨M2, 0, none⟩) 0 0 } : LexSt) = L8 at hL8 t1 t2 t3 t4 t5 t6 t7 t8
              have H8 := Lib.hid hL8
              have T1 := Lib.hid t1
              have T2 := Lib.hid t2
              have T3 := Lib.hid (And.intro t3 (And.intro t4 t5))
              have T6 := Lib.hid (And.intro t6 (And.intro t7 t8))
              have hg8lt : g < w8.heap.size := World.block_lt_of_cell? w8 ⟨g, 0 * 11 + 0, none⟩ (hrow 0 (by omega))
              clear hL8 t1 t2 t3 t4 t5 t6 t7 t8 hrow hown8 hk8 hg8 HAq HFq hbq
              go_wp2_with fail
              refine (zzTokensLen N L8 _ (by exact H8.out) _ _ _ T1.out).mono ?_
              rintro e w9 ⟨rfl, rfl⟩
              go_wp2_with fail
              refine (zzTokenAt N g 1 cap 0 L8 _ (by exact H8.out) T1.out (by omega) _ _ _ _ _ _ _ _ _ _ _ _ _ (by exact HROW.out) (by omega)).mono ?_
              rintro e w9 ⟨rfl, hb9⟩
              have hN8 := H8.out.lt
              go_wp2
              obtain ⟨wo, rfl⟩ : ∃ wo : World, wo = w8 := ⟨_, rfl⟩
              go_loopw [32] (fun i wr => ∃ x : Nat, x ≤ q2 ∧ i = .int .i64 x ∧ Below wo.heap.size wo wr) (fun i _ => q2 - (intOf i).toNat)
              case atStart => exact ⟨0, Nat.zero_le _, rfl, hb9⟩
              case round =>
                obtain ⟨x, hx, rfl, hbx⟩ := hrel
                have hszx := hbx.size
                have HAx := Lib.hid (show LexAt wr N L8 from (hbx.block N hN8).trans H8.out)
                have hbx1 : Below w1.heap.size w1 wr := hb8.trans (hbx.mono (by have := hb8.size; omega))
                by_cases hlx : x < q2
                · have HFx := HF8.out.below hbx
                  obtain ⟨xs, hox, hxx⟩ := HFx
                  obtain ⟨gf, hgf, hgs⟩ := hxx x hlx
                  obtain ⟨gv, rfl⟩ : ∃ gv, pv = some ⟨gv, 0, none⟩ := by
                    obtain ⟨gv, cp, hv, _⟩ := hox.form (by omega)
                    injection hv with h1
                    exact ⟨gv, h1⟩
                  have hfod : ∀ r, r < 4 → wr.cell? ⟨gv, x * 4 + r, none⟩ = (fodCells (.slice (some ⟨gf, 0, none⟩) 1 1) 2 ((x : Int) % 4) ((x : Int) % 9))[r]? := fun r hr => (hox.cellAt (x * 4 + r) (by omega)).trans (hgf r hr)
                  have hrw : wr.cell? ⟨g, 0 * 11, none⟩ = some (.slice (some ⟨gv, 0, none⟩) q2 cv) := (hbx.cell (p := ⟨g, 0 * 11, none⟩) hg8lt).trans (HROW.out 0 (by omega))
                  have HFOD := Lib.hid hfod
                  have HRW := Lib.hid hrw
                  have HGS := Lib.hid hgs
                  have hgfl : gf < wr.heap.size := (Array.getElem?_eq_some_iff.1 hgs).1
                  have HIx := HI1.out.below hbx1
                  obtain ⟨b, off, rfl, hbb, hcc⟩ := HIx.cell (k := x) (by rw [HL.out]; exact hlx)
                  have hc1 := hcc x (by rw [HL.out]; exact hlx)
                  have HC1 := Lib.hid hc1
                  clear hfod hrw hgs hox hxx hgf hcc hc1 HIx
                  go_wp2_with fail
                  refine (zzTokFodAt N g 1 cap 0 _ _ rfl L8 _ HAx.out T1.out (by omega) (by omega) gv q2 cv x rfl hlx (by omega) HRW.out (some ⟨gf, 0, none⟩) 1 1 2 ((x : Int) % 4) ((x : Int) % 9) HFOD.out).mono ?_
                  rintro e w10 ⟨rfl, hb10⟩
                  have hb10' : Below wo.heap.size wo w10 := hbx.trans (hb10.mono (by omega))
                  obtain ⟨t, ht⟩ : ∃ t, zs.getD x ByteArray.empty = t := ⟨_, rfl⟩
                  have hq1 : w10.cell? ⟨gf, 0, none⟩ = some (.string t) := by
                    rw [← ht]
                    exact (hb10.cell (p := ⟨gf, 0, none⟩) hgfl).trans ((cell_of_row wr gf 0 _ _ _ HGS.out).trans rfl)
                  have hq2' : w10.cell? ⟨b, off + x, none⟩ = some (.string t) := by
                    rw [← ht]
                    exact (hb10.cell (p := ⟨b, off + x, none⟩) (by show b < wr.heap.size; have := hbx1.size; omega)).trans HC1.out
                  have i5 : (0 : Int) ≤ (x : Int) := Int.natCast_nonneg _
                  have i6 : (x : Int) < (q2 : Int) := by omega
                  clear hb10 ht
                  go_wp2_with fail
                  go_quiet (fail)
                  go_wp2
                  go_roundw
                  case rel => exact ⟨x + 1, by omega, by go_num, drewN_below hb10' _⟩
                  case measure => simp [intOf]; omega
                · obtain rfl : x = q2 := by omega
                  have HRx := Lib.hid (fun j (hj : j < 11) => (hbx.cell (p := ⟨g, 0 * 11 + j, none⟩) hg8lt).trans (HROW.out j hj))
                  go_wp2_with fail
                  refine (zzTokenLoc N g 1 cap 0 L8 _ (by exact HAx.out) T1.out (by omega) _ _ _ _ _ _ _ _ _ _ _ _ _ (by exact HRx.out) (by omega)).mono ?_
                  rintro e w11 ⟨rfl, hb11⟩
                  have H11 := Lib.hid (show LexAt w11 N L8 from (hb11.block N HAx.out.lt).trans HAx.out)
                  have hb11' : Below w.heap.size w w11 := (hb1.trans (hbx1.mono hs1)).trans (hb11.mono (by omega))
                  clear hb11 HRx
                  go_wp2_with fail
                  refine (lineCol s L.bn hle (by omega) _).mono ?_
                  rintro e w12 ⟨rfl, rfl⟩
                  go_wp2_with fail
                  refine (lineCol s L2.bn hle2 (by omega) _).mono ?_
                  rintro e w12 ⟨rfl, rfl⟩
                  go_wp2_with fail
                  refine (zzFodderLen N L8 _ (by exact H11.out) _ _ _ T2.out).mono ?_
                  rintro e w12 ⟨rfl, rfl⟩
                  go_wp2_with fail
                  refine (zzPos N L8 _ H11.out).mono ?_
                  rintro e w12 ⟨rfl, m12, rfl⟩
                  rw [T6.out.1, T6.out.2.1, T6.out.2.2]
                  go_wp2_with fail
                  refine (zzTokenStart N L8 (w11.drewN m12) H11.out).mono ?_
                  rintro e w13 ⟨rfl, m13, rfl⟩
                  rw [T3.out.1, T3.out.2.1, T3.out.2.2]
                  go_wp2
                  go_ret
                  exact ⟨rfl, drewN_below hb11' _⟩

end Go.Proofs.YtgcgafkedhohcaaFmt.fnEmitFullTokenExact
