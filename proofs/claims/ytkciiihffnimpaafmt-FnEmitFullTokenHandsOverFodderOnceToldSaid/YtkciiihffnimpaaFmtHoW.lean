/-
  The walk of FnEmitFullTokenHandsOverFodderOnce.
-/
import Derived.Test.YtkciiihffnimpaaFmtLaidTabs
import Derived.Test.YtkciiihffnimpaaFmtShimsT
import Derived.Test.YtkciiihffnimpaaFmtHoB
import Derived.StillTailTactics
import Derived.Deep.DeepCutAuto
namespace Go.Proofs.YtkciiihffnimpaaFmt.fnEmitFullTokenHandsOverFodderOnce
open Go Go.RowKit Go.Shelf

theorem own_form {w : World} {B k n : Nat} {e : TypeId} {v : Value} {xs : List Value} (h : w.ownsRow B e k v n xs) : ∃ p cap, v = .slice p n cap := by
  rcases h.2 with ⟨rfl, rfl⟩ | ⟨g, cap, cur, rfl, _⟩
  · exact ⟨_, _, rfl⟩
  · exact ⟨_, _, rfl⟩
theorem own_base {w : World} {B k n : Nat} {e : TypeId} {v : Value} {xs : List Value} (h : w.ownsRow B e k v n xs) (i : Nat) (hi : v.ownBlock = some i) : B ≤ i := by
  rcases h.2 with ⟨rfl, rfl⟩ | ⟨g, cap, cur, rfl, hb, _⟩
  · simp [Value.ownBlock] at hi
  · simp [Value.ownBlock] at hi
    omega
def flat (ds : List (Int × List ByteArray)) (pend : List ByteArray) : List ByteArray := (ds.map (·.2)).flatten ++ pend
theorem flat_add (ds : List (Int × List ByteArray)) (pend : List ByteArray) (t : ByteArray) : flat ds pend ++ [t] = flat ds (pend ++ [t]) := by simp [flat]
theorem flat_emit (ds : List (Int × List ByteArray)) (pend : List ByteArray) (k : Int) : flat ds pend = flat (ds ++ [(k, pend)]) [] := by simp [flat]
theorem base_grown {W W' : World} {B : Nat} {row : Option Nat} (h : W.grownBy W' row) (hr : ∀ i, row = some i → B ≤ i) (hB : B ≤ W.heap.size) : Below B W W' :=
  ⟨h.os, h.tape, h.output, h.size, fun i hi => h.block i (by omega) (fun e => by have := hr i e.symm; omega)⟩

theorem tdiv3 (kk : Int) (h0 : -9223372036854775808 ≤ kk) (h1 : kk ≤ 9223372036854775807) : -9223372036854775808 ≤ kk.tdiv 3 ∧ kk.tdiv 3 ≤ 9223372036854775807 := by
  by_cases h : 0 ≤ kk
  · rw [Int.tdiv_eq_ediv_of_nonneg h]
    omega
  · obtain ⟨m, rfl⟩ : ∃ m, kk = -m := ⟨-kk, by omega⟩
    rw [Int.neg_tdiv, Int.tdiv_eq_ediv_of_nonneg (by omega)]
    omega

def pre (ds : List (Int × List ByteArray)) (x : Nat) : Nat := ((ds.take x).map (·.2)).flatten.length
theorem pre_succ {ds : List (Int × List ByteArray)} {x : Nat} {d : Int × List ByteArray} (h : ds[x]? = some d) : pre ds (x + 1) = pre ds x + d.2.length := by
  unfold pre
  rw [List.take_add_one, h]
  simp
theorem flat_len (ds : List (Int × List ByteArray)) (pend : List ByteArray) : (flat ds pend).length = pre ds ds.length + pend.length := by
  unfold flat pre
  rw [List.take_length, List.length_append]
theorem flat_at {ds : List (Int × List ByteArray)} {pend : List ByteArray} {x y : Nat} {d : Int × List ByteArray} (h : ds[x]? = some d) (hy : y < d.2.length) : (flat ds pend)[pre ds x + y]? = some (d.2.getD y ByteArray.empty) := by
  obtain ⟨hlt, he⟩ := List.getElem?_eq_some_iff.1 h
  have e : ds = ds.take x ++ d :: ds.drop (x + 1) := by
    rw [← he, ← List.drop_eq_getElem_cons hlt, List.take_append_drop]
  have e2 : flat ds pend = ((ds.take x).map (·.2)).flatten ++ (d.2 ++ (((ds.drop (x + 1)).map (·.2)).flatten ++ pend)) := by
    unfold flat
    conv => lhs; rw [e]
    simp
  rw [e2]
  unfold pre
  rw [List.getElem?_append_right (by omega), Nat.add_sub_cancel_left, List.getElem?_append_left hy, List.getD_eq_getElem?_getD, List.getElem?_eq_getElem hy]
  rfl
theorem flat_pend {ds : List (Int × List ByteArray)} {pend : List ByteArray} {y : Nat} (hy : y < pend.length) : (flat ds pend)[pre ds ds.length + y]? = some (pend.getD y ByteArray.empty) := by
  unfold flat pre
  rw [List.take_length, List.getElem?_append_right (by omega), Nat.add_sub_cancel_left, List.getD_eq_getElem?_getD, List.getElem?_eq_getElem hy]
  rfl
theorem own_some {w : World} {B k n m : Nat} {e : TypeId} {p : Option Addr} {cap : Nat} {xs : List Value} (h : w.ownsRow B e k (.slice p m cap) n xs) (hn : 0 < n) : ∃ g, p = some ⟨g, 0, none⟩ ∧ g < w.heap.size := by
  obtain ⟨g, cp, hv, _, hlt⟩ := h.form hn
  injection hv with h1
  exact ⟨g, h1, hlt⟩

/-- The loop's relation. -/
def Rel (s : ByteArray) (w4 : World) (N n1 : Nat) (p0 : Option Addr) (wv pv kv pd i : Value) (wr : World) : Prop :=
  ∃ (q : Nat) (L : LexSt) (ds : List (Int × List ByteArray)) (pend : List ByteArray), q ≤ n1 ∧ i = .int .i64 q ∧ pd = .int .i64 pend.length ∧ pend.length ≤ q ∧ ds.length ≤ q ∧ (flat ds pend).length ≤ q ∧
    Hid (Ho wr w4.heap.size N L ds pend (flat ds pend) (ds.map fun d => (d.2.length : Int)) (ds.map (·.1)) wv pv kv) ∧ Hid (Inv s L ∧ L.src = .pointer p0) ∧ Below w4.heap.size w4 wr

set_option maxHeartbeats 6400000 in
set_option maxRecDepth 100000 in
theorem core (s : ByteArray) (a1 a : Option Addr) (n1 c1 n c : Nat) (ks : List Int) (zs : List ByteArray) (w : World) (hs : s.size ≤ maxLen) (hk : IntsAt w w.heap.size (.slice a1 n1 c1) ks) (hkl : ks.length = n1) (hz : StrsAt w w.heap.size (.slice a n c) zs) (hzl : zs.length = n)
    (h1 : n1 ≤ maxLen) (hn : n ≤ maxLen) (hzz : ∀ i, i < n → (zs.getD i ByteArray.empty).size ≤ maxLen) (hr : ∀ i, -9223372036854775808 ≤ ks.getD i 0 ∧ ks.getD i 0 ≤ 9223372036854775807) (hT : Lib.Utf8Tabs 0 1 w) :
    Calls Tryf.prog 4 #[.string s, .slice a1 n1 c1, .slice a n c] w fun e w' => e = .returned (.bool true) ∧ Below w.heap.size w w' := by
  obtain ⟨g0, g1⟩ := tabs_lt hT
  have HT := Lib.hid hT
  have HK := Lib.hid hk
  have HKL := Lib.hid hkl
  have HZ := Lib.hid hz
  have HZL := Lib.hid hzl
  have HR := Lib.hid hr
  have HZ0 := Lib.hid (zzBytesHo s a1 a n1 c1 n c zs w hz hzl hs h1 hn hzz)
  clear hT hk hkl hz hzl h1 hn hzz hr hs
  go_enter Tryf.func4, Tryf.ntmps4
  go_wp2_with fail
  refine HZ0.out.mono ?_
  rintro e w' ⟨⟨b, rfl, hb⟩, h⟩
  subst w'
  have HBB := Lib.hid hb
  clear hb HZ0
  cases b
  · go_wp2
    all_goals go_ret
    all_goals exact ⟨rfl, Below.refl _ _⟩
  obtain ⟨m0, m1, m4, hzs⟩ := HBB.out rfl
  have HZS := Lib.hid hzs
  clear hzs HBB
  by_cases e1 : 65536 < n1
  · go_wp2
    all_goals go_ret
    all_goals exact ⟨rfl, Below.refl _ _⟩
  by_cases e4 : 65536 < n
  · go_wp2
    all_goals go_ret
    all_goals exact ⟨rfl, Below.refl _ _⟩
  go_wp2_with fail
  refine (strsBytes a n c zs w HZ.out HZL.out (by omega) HZS.out).mono ?_
  rintro e w' ⟨⟨SB, rfl, hSB⟩, h⟩
  subst w'
  by_cases e5 : 1048576 < s.size + 8 * n1 + SB
  · go_wp2
    all_goals go_ret
    all_goals exact ⟨rfl, Below.refl _ _⟩
  go_wp2_with fail
  refine (copyInts _ ks w HK.out (by rw [HKL.out]; omega)).mono ?_
  rintro e w1 ⟨v1, rfl, hi1, hb1⟩
  obtain ⟨p1, k1, rfl, _⟩ := hi1.len
  rw [HKL.out] at hi1 ⊢
  have hs1 := hb1.size
  have HK1 := Lib.hid hi1
  clear hi1 HK
  go_wp2_with fail
  refine (copyStrs _ zs w1 (StrsAt.up (HZ.out.below hb1) hs1) (by rw [HZL.out]; omega)).mono ?_
  rintro e w4 ⟨v4, rfl, hi4, hb4⟩
  obtain ⟨p4, k4, rfl, _⟩ := hi4.len
  rw [HZL.out] at hi4 ⊢
  have hs4 := hb4.size
  have HZ4 := Lib.hid hi4
  have hb14 : Below w.heap.size w w4 := hb1.trans (hb4.mono hs1)
  have HB4 := Lib.hid hb14
  have HK4 := Lib.hid (IntsAt.up (HK1.out.below hb4) hs4)
  have HT4 := Lib.hid (tabs_below HT.out hb14 g0 g1)
  clear hi4 HZ HK1 HT hb1 hb4 hSB e5
  go_wp2_with fail
  refine (zzMake s (by omega) _).mono ?_
  rintro e w5 ⟨N, M, rfl, hN, hAt, hb5⟩
  have hs5 := hb5.size
  have HREL := Lib.hid (show Rel s w4 N n1 (some ⟨M, 0, none⟩) (.slice none 0 0) (.slice none 0 0) (.slice none 0 0) (.int .i64 0) (.int .i64 0) w5 from
    ⟨0, initSt ⟨#[]⟩ ⟨#[]⟩ s (.pointer (some ⟨M, 0, none⟩)), [], [], Nat.zero_le _, rfl, rfl, Nat.zero_le _, Nat.zero_le _, Nat.zero_le _, Lib.hid ⟨hAt, ⟨[], World.ownsRow_nil _ _ _ _, fun i d hd => by simp at hd⟩, ⟨[], World.ownsRow_nil _ _ _ _, fun j hj => absurd hj (by simp)⟩, World.ownsRow_nil _ _ _ _, World.ownsRow_nil _ _ _ _, World.ownsRow_nil _ _ _ _, fun g hg => by simp [Value.ownBlock] at hg⟩, Lib.hid ⟨inv_init _ _ _ _, rfl⟩, hb5⟩)
  clear hAt hb5
  go_wp2_with fail
  go_loopw [8, 9, 10, 11, 12] (fun wv pv kv pd i wr => Rel s w4 N n1 (some ⟨M, 0, none⟩) wv pv kv pd i wr) (fun _ _ _ _ i _ => n1 - (intOf i).toNat)
  case atStart => exact HREL.out
  case round =>
    clear HREL
    obtain ⟨q, L, ds, pend, hq, rfl, rfl, hq1, hq2, hq3, HO, HV, hbq⟩ := hrel
    have hszq := hbq.size
    obtain ⟨pw, cw, rfl⟩ := own_form HO.out.want
    obtain ⟨pp, cp, rfl⟩ := own_form HO.out.per
    obtain ⟨pk, ck, rfl⟩ := own_form HO.out.kin
    obtain ⟨F, hF⟩ : ∃ F, (flat ds pend).length = F := ⟨_, rfl⟩
    have hO := HO.out
    rw [hF, List.length_map, List.length_map] at hO
    rw [hF] at hq3
    rw [hF, List.length_map, List.length_map]
    clear HO
    have HO := Lib.hid hO
    clear hO
    by_cases hlt : q < n1
    · obtain ⟨bk, ok, rfl, hbk, hck⟩ := HK4.out.cell (k := q) (by rw [HKL.out]; exact hlt)
      have dk : wr.cell? ⟨bk, ok + q, none⟩ = some (.int .i64 (ks.getD q 0)) := (hbq.cell (p := ⟨bk, ok + q, none⟩) hbk).trans (hck q (by rw [HKL.out]; exact hlt))
      have HMN := Lib.hid (fun W => modNN (ks.getD q 0) 3 (by omega) (by omega) (HR.out q).1 (HR.out q).2 W)
      have hrk := HR.out q
      have i5 : (0 : Int) ≤ (q : Int) := Int.natCast_nonneg _
      have i6 : (q : Int) < (n1 : Int) := by omega
      clear hck
      generalize ks.getD q 0 = kk at dk HMN hrk
      obtain ⟨k3, hk3⟩ : ∃ k3, kk % 3 = k3 := ⟨_, rfl⟩
      rw [hk3] at HMN
      have h3 : k3 = 0 ∨ k3 = 1 ∨ k3 = 2 := by omega
      clear hk3
      have HTw := Lib.hid (tabs_below HT4.out hbq (by omega) (by omega))
      go_wp2_with fail
      refine (HMN.out wr).mono ?_
      rintro e w' ⟨rfl, h⟩
      subst w'
      clear HMN
      rcases h3 with rfl | rfl | rfl
      · go_wp2_with fail
        refine (zzNext N L wr HO.out.lex (by rw [HV.out.1.inp]; omega) (HV.out.1.lnb (by omega)).1 (HV.out.1.lnb (by omega)).2 HTw.out).mono ?_
        rintro e w6 ⟨rfl, ha, hg⟩
        have hto := step_keeps L
        have hb6 : Below w4.heap.size w4 w6 := hbq.trans (below_of_grown hg hN (by omega))
        have HO6 := Lib.hid (HO.out.move ha hto.2.2.2.2.1 hto.2.2.2.2.2.1 (fun i hi hne => hg.block i hi (fun e => hne (by cases e; rfl))))
        have HV6 := Lib.hid (And.intro HV.out.1.step (hto.2.2.2.1.trans HV.out.2))
        clear ha hg hto
        go_wp2
        go_roundw
        case rel => exact ⟨q + 1, L.step, ds, pend, by omega, by go_num, rfl, by omega, by omega, by omega, HO6, HV6, hb6⟩
        case measure => simp [intOf]; omega
      · by_cases n0 : 0 < n
        · obtain ⟨R, hR⟩ : ∃ R : Nat, F % n = R := ⟨_, rfl⟩
          have hRn : R < n := by rw [← hR]; exact Nat.mod_lt _ n0
          obtain ⟨bz, oz, rfl, hbz, hcz⟩ := HZ4.out.cell (k := R) (by rw [HZL.out]; exact hRn)
          have dz : wr.cell? ⟨bz, oz + R, none⟩ = some (.string (zs.getD R ByteArray.empty)) := (hbq.cell (p := ⟨bz, oz + R, none⟩) hbz).trans (hcz R (by rw [HZL.out]; exact hRn))
          have hrm : ((F : Int).tmod (n : Int)) = (R : Int) := by rw [← hR]; exact (Int.ofNat_tmod F n).symm
          have n0' : (0 : Int) < (n : Int) := by omega
          have nz : ((n : Int) == 0) = false := beq_eq_false_iff_ne.2 (by omega)
          have i7 : (0 : Int) ≤ (R : Int) := Int.natCast_nonneg _
          have i8 : (R : Int) < (n : Int) := by omega
          clear hcz hR
          generalize zs.getD R ByteArray.empty = t at dz
          obtain ⟨xs, ho, hx⟩ := HO.out.fod
          have HLA := Lib.hid (zzAddFodderM N L 2 0 0 (some ⟨wr.heap.size, 0, none⟩) 1 1 (.inr (.inr ⟨rfl, Nat.le_refl _⟩)) (by omega) w4.heap.size pend.length xs (wr.alloc (.cells #[.string t] 9)) ((Below.heap_alloc wr _ N HO.out.lex.lt).trans HO.out.lex) (ho.alloc _) (by simp; omega) (by omega))
          have HX := Lib.hid (And.intro ho hx)
          clear ho hx
          go_wp2_with fail
          refine HLA.out.mono ?_
          rintro e w7 ⟨rfl, v7, hA7, hown7, hv7, hk7, hat7⟩
          have HO7 := Lib.hid (HO.out.add ((Below.refl _ wr).alloc (Nat.le_refl _) (.cells #[.string t] 9)) (Nat.le_refl _) (heap_alloc_new wr _) HX.out.1 HX.out.2 hA7 hown7 hk7 hat7)
          have hb7 : Below w4.heap.size w4 w7 := (hbq.alloc hszq _).trans (Kept.below hk7 (fun i hi => by
            rcases hi with hi | hi
            · rw [hi]; exact hN
            · exact own_base HX.out.1 i hi) (by simp; omega))
          have HV7 := Lib.hid (show Inv s { L with fod := v7 } ∧ ({ L with fod := v7 } : LexSt).src = .pointer (some ⟨M, 0, none⟩) from ⟨⟨HV.out.1.inp, HV.out.1.le, HV.out.1.ln, HV.out.1.ls⟩, HV.out.2⟩)
          have hs7 := hb7.size
          generalize ({ L with fod := v7 } : LexSt) = L7 at HO7 HV7
          clear hA7 hown7 hv7 hk7 hat7 HLA HX HO HV hbq
          obtain ⟨i0, hi, hz0, hz1, hz2⟩ := info_parts infoStr
          have HOW := Lib.hid (show (w7.alloc (.cells #[.string t] 9)).ownsRow w4.heap.size 9 1 (.slice pw F cw) F ((flat ds pend).map Value.string) from by
            have h := World.ownsRow.alloc HO7.out.want (.cells #[.string t] 9)
            rw [hF] at h
            exact h)
          go_wp2_with (at_builtin; refine wpList_append_lies _ rfl _ _ 23 rfl w4.heap.size 9 i0 (.string ⟨#[]⟩) 1 16 Tryf.underlying23 hi hz0 hz1 hz2 rfl (by decide) _ _ _ rfl HOW.out ⟨w7.heap.size, 0, none⟩ 1 1 [.string t] rfl rfl (World.news_of_block (cs := #[.string t]) (t := 9) (fr := (0, 0)) (heap_alloc_new w7 _)) (fun u hu => by simp at hu; subst hu; rfl) (by decide) (by unfold maxLen; omega) (by omega) (by simp; omega) (w7.heap.size + 1) (by simp) ?_)
          intro g8 cap8 w8 hown8 hg8 hat8 hlt8
          have HO8 := Lib.hid ((HO7.out.below ((Below.refl _ _).alloc (Nat.le_refl _) (.cells #[.string t] 9))).wants (v := .slice (some ⟨g8, 0, none⟩) (F + 1) cap8) (t := t) (by rw [hF]; exact hown8) hg8 (hat8.imp (fun e => by rw [e]; rfl) (fun e => by rw [e]; simp [Value.ownBlock])))
          have hb8 : Below w4.heap.size w4 w8 := (hb7.alloc hs7 _).trans (base_grown hg8 (fun i hi => own_base HOW.out i hi) (by simp; omega))
          clear hown8 hg8 hat8 hlt8 HO7 hb7 HOW
          go_wp2
          go_roundw
          case rel =>
            refine ⟨q + 1, L7, ds, pend ++ [t], by omega, by go_num, by simp, by rw [List.length_append, List.length_singleton]; omega, by omega, by rw [← flat_add, List.length_append, List.length_singleton]; omega, Lib.hid ?_, HV7, hb8⟩
            rw [← flat_add]
            exact HO8.out
          case measure => simp [intOf]; omega
        · have n0d : decide ((0 : Int) < (n : Int)) = false := decide_eq_false (by omega)
          obtain ⟨xs, ho, hx⟩ := HO.out.fod
          have HLA := Lib.hid (zzAddFodderM N L 2 0 0 (some ⟨wr.heap.size, 0, none⟩) 1 1 (.inr (.inr ⟨rfl, Nat.le_refl _⟩)) (by omega) w4.heap.size pend.length xs (wr.alloc (.cells #[.string ⟨#[]⟩] 9)) ((Below.heap_alloc wr _ N HO.out.lex.lt).trans HO.out.lex) (ho.alloc _) (by simp; omega) (by omega))
          have HX := Lib.hid (And.intro ho hx)
          clear ho hx
          go_wp2_with fail
          refine HLA.out.mono ?_
          rintro e w7 ⟨rfl, v7, hA7, hown7, hv7, hk7, hat7⟩
          have HO7 := Lib.hid (HO.out.add ((Below.refl _ wr).alloc (Nat.le_refl _) (.cells #[.string ⟨#[]⟩] 9)) (Nat.le_refl _) (heap_alloc_new wr _) HX.out.1 HX.out.2 hA7 hown7 hk7 hat7)
          have hb7 : Below w4.heap.size w4 w7 := (hbq.alloc hszq _).trans (Kept.below hk7 (fun i hi => by
            rcases hi with hi | hi
            · rw [hi]; exact hN
            · exact own_base HX.out.1 i hi) (by simp; omega))
          have HV7 := Lib.hid (show Inv s { L with fod := v7 } ∧ ({ L with fod := v7 } : LexSt).src = .pointer (some ⟨M, 0, none⟩) from ⟨⟨HV.out.1.inp, HV.out.1.le, HV.out.1.ln, HV.out.1.ls⟩, HV.out.2⟩)
          have hs7 := hb7.size
          generalize ({ L with fod := v7 } : LexSt) = L7 at HO7 HV7
          clear hA7 hown7 hv7 hk7 hat7 HLA HX HO HV hbq
          obtain ⟨i0, hi, hz0, hz1, hz2⟩ := info_parts infoStr
          have HOW := Lib.hid (show (w7.alloc (.cells #[.string ⟨#[]⟩] 9)).ownsRow w4.heap.size 9 1 (.slice pw F cw) F ((flat ds pend).map Value.string) from by
            have h := World.ownsRow.alloc HO7.out.want (.cells #[.string ⟨#[]⟩] 9)
            rw [hF] at h
            exact h)
          go_wp2_with (at_builtin; refine wpList_append_lies _ rfl _ _ 23 rfl w4.heap.size 9 i0 (.string ⟨#[]⟩) 1 16 Tryf.underlying23 hi hz0 hz1 hz2 rfl (by decide) _ _ _ rfl HOW.out ⟨w7.heap.size, 0, none⟩ 1 1 [.string ⟨#[]⟩] rfl rfl (World.news_of_block (cs := #[.string ⟨#[]⟩]) (t := 9) (fr := (0, 0)) (heap_alloc_new w7 _)) (fun u hu => by simp at hu; subst hu; rfl) (by decide) (by unfold maxLen; omega) (by omega) (by simp; omega) (w7.heap.size + 1) (by simp) ?_)
          intro g8 cap8 w8 hown8 hg8 hat8 hlt8
          have HO8 := Lib.hid ((HO7.out.below ((Below.refl _ _).alloc (Nat.le_refl _) (.cells #[.string ⟨#[]⟩] 9))).wants (v := .slice (some ⟨g8, 0, none⟩) (F + 1) cap8) (t := ⟨#[]⟩) (by rw [hF]; exact hown8) hg8 (hat8.imp (fun e => by rw [e]; rfl) (fun e => by rw [e]; simp [Value.ownBlock])))
          have hb8 : Below w4.heap.size w4 w8 := (hb7.alloc hs7 _).trans (base_grown hg8 (fun i hi => own_base HOW.out i hi) (by simp; omega))
          clear hown8 hg8 hat8 hlt8 HO7 hb7 HOW
          go_wp2
          go_roundw
          case rel =>
            refine ⟨q + 1, L7, ds, pend ++ [⟨#[]⟩], by omega, by go_num, by simp, by rw [List.length_append, List.length_singleton]; omega, by omega, by rw [← flat_add, List.length_append, List.length_singleton]; omega, Lib.hid ?_, HV7, hb8⟩
            rw [← flat_add]
            exact HO8.out
          case measure => simp [intOf]; omega
      · obtain ⟨K3, hK3⟩ : ∃ K3, kk.tdiv 3 = K3 := ⟨_, rfl⟩
        have hkb : -9223372036854775808 ≤ K3 ∧ K3 ≤ 9223372036854775807 := by
          rw [← hK3]
          exact tdiv3 kk hrk.1 hrk.2
        obtain ⟨fp, fc, hfod⟩ : ∃ fp fc, L.fod = .slice fp pend.length fc := by
          obtain ⟨xs, ho, _⟩ := HO.out.fod
          exact own_form ho
        obtain ⟨xs, ho, hx⟩ := HO.out.toks
        have hneN : L.toks.ownBlock ≠ some N := fun e => by
          obtain ⟨cc, fz, hc⟩ := HO.out.kToks N e
          obtain ⟨c2, hc2⟩ := HO.out.kLex
          rw [hc2] at hc
          cases hc
        have HE := Lib.hid (fun k => zzEmitFullM N L k ⟨#[]⟩ ⟨#[]⟩ ⟨#[]⟩ w4.heap.size ds.length xs wr HO.out.lex _ HV.out.2 fp pend.length fc hfod ho hneN hszq (by omega) (by have := HV.out.1.le; omega) HV.out.1.lsb.1 HV.out.1.lsb.2)
        have HS := Lib.hid (And.intro hfod (And.intro ho hx))
        clear hfod ho hx hneN
        go_wp2_with fail
        refine (modNN K3 37 (by omega) (by omega) hkb.1 hkb.2 _).mono ?_
        rintro e w' ⟨rfl, h⟩
        subst w'
        generalize K3 % 37 = KQ
        clear hK3 hkb dk hrk
        go_wp2_with fail
        refine (HE.out KQ).mono ?_
        rintro e w7 ⟨rfl, g, cap, M7, hA7, hown7, hga, hor, hk7, hM, hMg, hMc⟩
        have HO7 := Lib.hid (HO.out.emit HV.out.2 HS.out.1 HS.out.2.1 HS.out.2.2 hszq hA7 hown7 hk7 hM hMc)
        have hb7 : Below w4.heap.size w4 w7 := hbq.trans (Kept.below hk7 (fun i hi => by
          rcases hi with hi | hi
          · rw [hi]; exact hN
          · exact own_base HS.out.2.1 i hi) hszq)
        have HV7 := Lib.hid (show Inv s { L with toks := .slice (some ⟨g, 0, none⟩) (ds.length + 1) cap, fod := .slice (some ⟨M7, 0, none⟩) 0 0 } ∧ ({ L with toks := .slice (some ⟨g, 0, none⟩) (ds.length + 1) cap, fod := .slice (some ⟨M7, 0, none⟩) 0 0 } : LexSt).src = .pointer (some ⟨M, 0, none⟩) from ⟨⟨HV.out.1.inp, HV.out.1.le, HV.out.1.ln, HV.out.1.ls⟩, HV.out.2⟩)
        have hs7 := hb7.size
        generalize ({ L with toks := .slice (some ⟨g, 0, none⟩) (ds.length + 1) cap, fod := .slice (some ⟨M7, 0, none⟩) 0 0 } : LexSt) = L7 at HO7 HV7
        clear hA7 hown7 hga hor hk7 hM hMg hMc HE HS HO HV hbq
        obtain ⟨i0, hi, hz0, hz1, hz2⟩ := info_parts infoInt
        go_wp2_with (at_builtin; refine wpList_append_lies _ rfl _ _ 22 rfl w4.heap.size 3 i0 (.int .i64 0) 1 8 Tryf.underlying22 hi hz0 hz1 hz2 rfl (by decide) _ _ _ rfl (World.ownsRow.alloc HO7.out.per _) ⟨w7.heap.size, 0, none⟩ 1 1 [.int .i64 pend.length] rfl rfl (World.news_of_block (cs := #[.int .i64 pend.length]) (t := 3) (fr := (0, 0)) (heap_alloc_new w7 _)) (fun u hu => by simp at hu; subst hu; rfl) (by decide) (by rw [List.length_map]; unfold maxLen; omega) (by rw [List.length_map]; omega) (by simp; omega) (w7.heap.size + 1) (by simp) ?_)
        intro g8 cap8 w8 hown8 hg8 hat8 hlt8
        have HO8 := Lib.hid ((HO7.out.below ((Below.refl _ _).alloc (Nat.le_refl _) (.cells #[.int .i64 pend.length] 3))).pers (v := .slice (some ⟨g8, 0, none⟩) (ds.length + 1) cap8) (z := (pend.length : Int)) (by rw [List.length_map, List.map_map]; exact hown8) hg8 (hat8.imp (fun e => by rw [e]; rfl) (fun e => by rw [e]; simp [Value.ownBlock])))
        have hb8 : Below w4.heap.size w4 w8 := (hb7.alloc hs7 _).trans (base_grown hg8 (fun i hi => own_base HO7.out.per i hi) (by simp; omega))
        have hs8 := hb8.size
        clear hown8 hg8 hat8 hlt8 HO7 hb7
        go_wp2_with (at_builtin; refine wpList_append_lies _ rfl _ _ 22 rfl w4.heap.size 3 i0 (.int .i64 0) 1 8 Tryf.underlying22 hi hz0 hz1 hz2 rfl (by decide) _ _ _ rfl (World.ownsRow.alloc HO8.out.kin _) ⟨w8.heap.size, 0, none⟩ 1 1 [.int .i64 KQ] rfl rfl (World.news_of_block (cs := #[.int .i64 KQ]) (t := 3) (fr := (0, 0)) (heap_alloc_new w8 _)) (fun u hu => by simp at hu; subst hu; rfl) (by decide) (by rw [List.length_map]; unfold maxLen; omega) (by rw [List.length_map]; omega) (by simp; omega) (w8.heap.size + 1) (by simp) ?_)
        intro g9 cap9 w9 hown9 hg9 hat9 hlt9
        have HO9 := Lib.hid ((HO8.out.below ((Below.refl _ _).alloc (Nat.le_refl _) (.cells #[.int .i64 KQ] 3))).kins (v := .slice (some ⟨g9, 0, none⟩) (ds.length + 1) cap9) (z := KQ) (by rw [List.length_map, List.map_map]; exact hown9) hg9 (hat9.imp (fun e => by rw [e]; rfl) (fun e => by rw [e]; simp [Value.ownBlock])))
        have hb9 : Below w4.heap.size w4 w9 := (hb8.alloc hs8 _).trans (base_grown hg9 (fun i hi => own_base HO8.out.kin i hi) (by simp; omega))
        clear hown9 hg9 hat9 hlt9 HO8 hb8
        go_wp2
        go_roundw
        case rel =>
          refine ⟨q + 1, L7, ds ++ [(KQ, pend)], [], by omega, by go_num, rfl, Nat.zero_le _, by simp; omega, by rw [← flat_emit]; omega, Lib.hid ?_, HV7, hb9⟩
          have h := HO9.out
          rw [flat_emit ds pend KQ] at h
          simpa using h
        case measure => simp [intOf]; omega
    · obtain rfl : q = n1 := by omega
      obtain ⟨tp, tc, htk⟩ : ∃ tp tc, L.toks = .slice tp ds.length tc := by
        obtain ⟨xs, ho, _⟩ := HO.out.toks
        exact own_form ho
      obtain ⟨fp, fc, hfd⟩ : ∃ fp fc, L.fod = .slice fp pend.length fc := by
        obtain ⟨xs, ho, _⟩ := HO.out.fod
        exact own_form ho
      have HTK := Lib.hid htk
      have HFD := Lib.hid hfd
      have HF := Lib.hid hF
      clear htk hfd hF HV HK4 HZ4 HT4 HKL HZL HZS HR
      go_wp2_with fail
      refine (zzTokensLen N L wr HO.out.lex _ _ _ HTK.out).mono ?_
      rintro e w' ⟨rfl, h⟩
      subst w'
      go_wp2_with fail
      obtain ⟨wo, rfl⟩ : ∃ wo : World, wo = wr := ⟨_, rfl⟩
      go_loopw [17, 18] (fun ix i wr => ∃ x : Nat, x ≤ ds.length ∧ i = .int .i64 x ∧ ix = .int .i64 (pre ds x) ∧ Below wo.heap.size wo wr) (fun _ i _ => ds.length - (intOf i).toNat)
      case atStart => exact ⟨0, Nat.zero_le _, rfl, rfl, Below.refl _ _⟩
      case round =>
        obtain ⟨x, hx, rfl, rfl, hbx⟩ := hrel
        have hszx := hbx.size
        by_cases hlx : x < ds.length
        · obtain ⟨⟨kd, cs⟩, hd⟩ : ∃ d, ds[x]? = some d := ⟨ds[x], List.getElem?_eq_getElem hlx⟩
          have hO := HO.out.below hbx
          obtain ⟨xs, ho, hxs⟩ := hO.toks
          obtain ⟨fp2, fc2, sp, im, l1, c1', l2, c2', hrow, hpf, _⟩ := hxs x _ hd
          rw [HTK.out] at ho
          obtain ⟨gt, rfl, hgt⟩ := own_some ho (by omega)
          have hr11 : ∀ r, r < 11 → wr.cell? ⟨gt, x * 11 + r, none⟩ = (tokCells (.slice fp2 cs.length fc2) ⟨#[]⟩ ⟨#[]⟩ ⟨#[]⟩ (.pointer sp) im l1 c1' l2 c2' kd)[r]? := fun r hr => (ho.cellAt (x * 11 + r) (by omega)).trans (hrow r hr)
          have hkin := hO.kin
          rw [List.length_map] at hkin
          obtain ⟨gk, rfl, hgk⟩ := own_some hkin (by omega)
          have hper := hO.per
          rw [List.length_map] at hper
          obtain ⟨gp, rfl, hgp⟩ := own_some hper (by omega)
          have dk : wr.cell? ⟨gk, x, none⟩ = some (.int .i64 kd) := (hkin.cellAt x (by omega)).trans (by simp [hd])
          have dp : wr.cell? ⟨gp, x, none⟩ = some (.int .i64 cs.length) := (hper.cellAt x (by omega)).trans (by simp [hd])
          have i5 : (0 : Int) ≤ (x : Int) := Int.natCast_nonneg _
          have i6 : (x : Int) < (ds.length : Int) := by omega
          have hcsF : cs.length ≤ F := by
            have h1 := pre_succ hd
            rcases Nat.eq_zero_or_pos cs.length with h0 | h0
            · omega
            · have h2 := flat_at (pend := pend) (y := cs.length - 1) hd (by show cs.length - 1 < cs.length; omega)
              have h3 := (List.getElem?_eq_some_iff.1 h2).1
              rw [HF.out] at h3
              omega
          have HR11 := Lib.hid hr11
          have HPF := Lib.hid hpf
          have HDD := Lib.hid hd
          have HOX := Lib.hid hO
          clear hrow hpf hxs ho hkin hper hr11 hd hO
          go_wp2_with fail
          refine (zzTokenAt N gt ds.length tc x L wr HOX.out.lex HTK.out hlx fp2 cs.length fc2 ⟨#[]⟩ ⟨#[]⟩ ⟨#[]⟩ im sp l1 c1' l2 c2' kd HR11.out (by omega)).mono ?_
          rintro e wi ⟨rfl, hb10⟩
          have dk' : wi.cell? ⟨gk, x, none⟩ = some (.int .i64 kd) := (hb10.cell (p := ⟨gk, x, none⟩) hgk).trans dk
          have dp' : wi.cell? ⟨gp, x, none⟩ = some (.int .i64 cs.length) := (hb10.cell (p := ⟨gp, x, none⟩) hgp).trans dp
          have hr0 : wi.cell? ⟨gt, x * 11, none⟩ = some (.slice fp2 cs.length fc2) := (hb10.cell (p := ⟨gt, x * 11 + 0, none⟩) hgt).trans (HR11.out 0 (by omega))
          have HR0 := Lib.hid hr0
          have HOI := Lib.hid (HOX.out.below hb10)
          have HPI := Lib.hid (show PFods wi w4.heap.size (Value.slice pw F cw).ownBlock (.slice fp2 cs.length fc2) cs from HPF.out.keep (fun g hg => by
            obtain ⟨c, fz, hc⟩ := HPF.out.kind g hg
            exact hb10.block g (Array.getElem?_eq_some_iff.1 hc).1) (fun b c hb hne => ⟨hb10.block b (Array.getElem?_eq_some_iff.1 hb).1, hne⟩))
          have hbi : Below wo.heap.size wo wi := hbx.trans (hb10.mono hszx)
          have hgt' : gt < wi.heap.size := by have := hb10.size; omega
          clear HR11 HPF HOX hr0 hb10 dk dp hbx
          go_wp2_with fail
          go_loopw [17, 24] (fun ix j wr => ∃ y : Nat, y ≤ cs.length ∧ j = .int .i64 y ∧ ix = .int .i64 ((pre ds x + y : Nat) : Int) ∧ Below wi.heap.size wi wr) (fun _ j _ => cs.length - (intOf j).toNat)
          case atStart => exact ⟨0, Nat.zero_le _, rfl, rfl, Below.refl _ _⟩
          case round =>
            obtain ⟨y, hy, rfl, rfl, hby⟩ := hrel
            have hszy := hby.size
            obtain ⟨I, hI⟩ : ∃ I : Nat, pre ds x + y = I := ⟨_, rfl⟩
            rw [hI]
            by_cases hly : y < cs.length
            · obtain ⟨xs, ho, hxs⟩ := HPI.out
              obtain ⟨gv, rfl, hgv⟩ := own_some ho (by omega)
              obtain ⟨b, hrow, hcm, _⟩ := hxs y hly
              have hf4 : ∀ r, r < 4 → wr.cell? ⟨gv, y * 4 + r, none⟩ = (fodCells (.slice (some ⟨b, 0, none⟩) 1 1) 2 0 0)[r]? := fun r hr => (hby.cell (p := ⟨gv, y * 4 + r, none⟩) hgv).trans ((ho.cellAt (y * 4 + r) (by omega)).trans (hrow r hr))
              have hfl := flat_at (pend := pend) HDD.out (show y < ((kd, cs) : Int × List ByteArray).2.length from hly)
              rw [hI] at hfl
              have hIF : I < F := by
                have := (List.getElem?_eq_some_iff.1 hfl).1
                rw [HF.out] at this
                exact this
              have hw := HOI.out.want
              rw [HF.out] at hw
              obtain ⟨gw, rfl, hgw⟩ := own_some hw (by omega)
              have dw : wr.cell? ⟨gw, I, none⟩ = some (.string (cs.getD y ByteArray.empty)) := (hby.cell (p := ⟨gw, I, none⟩) hgw).trans ((hw.cellAt I (by omega)).trans (by rw [List.getElem?_map, hfl]; rfl))
              have hgb : b < wi.heap.size := (Array.getElem?_eq_some_iff.1 hcm).1
              have dc : wr.cell? ⟨b, 0, none⟩ = some (.string (cs.getD y ByteArray.empty)) := (hby.cell (p := ⟨b, 0, none⟩) hgb).trans ((cell_of_row wi b 0 _ _ _ hcm).trans rfl)
              have hrw : wr.cell? ⟨gt, x * 11, none⟩ = some (.slice (some ⟨gv, 0, none⟩) cs.length fc2) := (hby.cell (p := ⟨gt, x * 11, none⟩) hgt').trans HR0.out
              have HF4 := Lib.hid hf4
              have HRW := Lib.hid hrw
              have HLX := Lib.hid (HOI.out.below hby).lex
              have i7 : (0 : Int) ≤ (I : Int) := Int.natCast_nonneg _
              have i8 : (I : Int) < (F : Int) := by omega
              have d8 : decide ((F : Int) ≤ (I : Int)) = false := decide_eq_false (by omega)
              have HII := Lib.hid hI
              clear hxs ho hrow hcm hf4 hfl hw hrw hI
              generalize cs.getD y ByteArray.empty = t at dw dc
              go_wp2_with fail
              refine (zzTokFodAt N gt ds.length tc x _ _ rfl L wr HLX.out HTK.out hlx (by omega) gv cs.length fc2 y rfl hly (by omega) HRW.out (some ⟨b, 0, none⟩) 1 1 2 0 0 HF4.out).mono ?_
              rintro e w12 ⟨rfl, hb12⟩
              have dw' : w12.cell? ⟨gw, I, none⟩ = some (.string t) := (hb12.cell (p := ⟨gw, I, none⟩) (by show gw < wr.heap.size; omega)).trans dw
              have dc' : w12.cell? ⟨b, 0, none⟩ = some (.string t) := (hb12.cell (p := ⟨b, 0, none⟩) (by show b < wr.heap.size; omega)).trans dc
              have hb13 : Below wi.heap.size wi w12 := hby.trans (hb12.mono hszy)
              clear dw dc hb12 HF4 HRW HLX
              go_wp2_with fail
              go_quiet (fail)
              go_wp2
              go_roundw
              case rel => exact ⟨y + 1, by omega, by go_num, by rw [← Nat.add_assoc, HII.out]; go_num, drewN_below hb13 _⟩
              case measure => simp [intOf]; omega
            · obtain rfl : y = cs.length := by omega
              have hbo2 : Below wo.heap.size wo wr := hbi.trans (hby.mono hbi.size)
              have hp2 : pre ds (x + 1) = I := (pre_succ HDD.out).trans hI
              go_wp2
              go_roundw
              case rel => exact ⟨x + 1, by omega, by go_num, by rw [hp2], hbo2⟩
              case measure => simp [intOf]; omega
        · obtain rfl : x = ds.length := by omega
          obtain ⟨wa, rfl⟩ : ∃ wa : World, wa = wr := ⟨_, rfl⟩
          have HOA := Lib.hid (HO.out.below hbx)
          have hba : Below w4.heap.size w4 wa := hbq.trans (hbx.mono hszq)
          go_wp2_with fail
          refine (zzFodderLen N L wa HOA.out.lex _ _ _ HFD.out).mono ?_
          rintro e w' ⟨rfl, h⟩
          subst w'
          go_wp2_with fail
          go_loopw [17, 29] (fun ix j wr => ∃ y : Nat, y ≤ pend.length ∧ j = .int .i64 y ∧ ix = .int .i64 ((pre ds ds.length + y : Nat) : Int) ∧ Below wa.heap.size wa wr) (fun _ j _ => pend.length - (intOf j).toNat)
          case atStart => exact ⟨0, Nat.zero_le _, rfl, rfl, Below.refl _ _⟩
          case round =>
            obtain ⟨y, hy, rfl, rfl, hby⟩ := hrel
            have hszy := hby.size
            obtain ⟨I, hI⟩ : ∃ I : Nat, pre ds ds.length + y = I := ⟨_, rfl⟩
            rw [hI]
            by_cases hly : y < pend.length
            · obtain ⟨xs, ho, hxs⟩ := HOA.out.fod
              rw [HFD.out] at ho
              obtain ⟨gv, rfl, hgv⟩ := own_some ho (by omega)
              obtain ⟨b, hrow, hcm, _⟩ := hxs y hly
              have hf4 : ∀ r, r < 4 → wr.cell? ⟨gv, y * 4 + r, none⟩ = (fodCells (.slice (some ⟨b, 0, none⟩) 1 1) 2 0 0)[r]? := fun r hr => (hby.cell (p := ⟨gv, y * 4 + r, none⟩) hgv).trans ((ho.cellAt (y * 4 + r) (by omega)).trans (hrow r hr))
              have hfl := flat_pend (ds := ds) hly
              rw [hI] at hfl
              have hIF : I < F := by
                have := (List.getElem?_eq_some_iff.1 hfl).1
                rw [HF.out] at this
                exact this
              have hw := HOA.out.want
              rw [HF.out] at hw
              obtain ⟨gw, rfl, hgw⟩ := own_some hw (by omega)
              have dw : wr.cell? ⟨gw, I, none⟩ = some (.string (pend.getD y ByteArray.empty)) := (hby.cell (p := ⟨gw, I, none⟩) hgw).trans ((hw.cellAt I (by omega)).trans (by rw [List.getElem?_map, hfl]; rfl))
              have hgb : b < wa.heap.size := (Array.getElem?_eq_some_iff.1 hcm).1
              have dc : wr.cell? ⟨b, 0, none⟩ = some (.string (pend.getD y ByteArray.empty)) := (hby.cell (p := ⟨b, 0, none⟩) hgb).trans ((cell_of_row wa b 0 _ _ _ hcm).trans rfl)
              have HF4 := Lib.hid hf4
              have HLX := Lib.hid (HOA.out.below hby).lex
              have i7 : (0 : Int) ≤ (I : Int) := Int.natCast_nonneg _
              have i8 : (I : Int) < (F : Int) := by omega
              have d8 : decide ((F : Int) ≤ (I : Int)) = false := decide_eq_false (by omega)
              have HII := Lib.hid hI
              clear hxs ho hrow hcm hf4 hfl hw hI
              generalize pend.getD y ByteArray.empty = t at dw dc
              go_wp2_with fail
              refine (zzFodderAt N gv pend.length fc y _ rfl L wr HLX.out HFD.out hly (by omega) (some ⟨b, 0, none⟩) 1 1 2 0 0 HF4.out).mono ?_
              rintro e w12 ⟨rfl, hb12⟩
              have dw' : w12.cell? ⟨gw, I, none⟩ = some (.string t) := (hb12.cell (p := ⟨gw, I, none⟩) (by show gw < wr.heap.size; omega)).trans dw
              have dc' : w12.cell? ⟨b, 0, none⟩ = some (.string t) := (hb12.cell (p := ⟨b, 0, none⟩) (by show b < wr.heap.size; omega)).trans dc
              have hb13 : Below wa.heap.size wa w12 := hby.trans (hb12.mono hszy)
              clear dw dc hb12 HF4 HLX
              go_wp2_with fail
              go_quiet (fail)
              go_wp2
              go_roundw
              case rel => exact ⟨y + 1, by omega, by go_num, by rw [← Nat.add_assoc, HII.out]; go_num, drewN_below hb13 _⟩
              case measure => simp [intOf]; omega
            · obtain rfl : y = pend.length := by omega
              have hfin : F = I := by rw [← HF.out, flat_len, hI]
              subst hfin
              have hbz : Below w.heap.size w wr := HB4.out.trans ((hba.trans (hby.mono hba.size)).mono (by omega))
              go_wp2
              go_ret
              exact ⟨rfl, hbz⟩

end Go.Proofs.YtkciiihffnimpaaFmt.fnEmitFullTokenHandsOverFodderOnce
