/-
  FnLexMatchesModelOnPlainAlphabet: the walk.
-/
import Derived.Test.YthohpccmleodpaaFmtLxZ
import Derived.Test.YthohpccmleodpaaFmtLxO
import Derived.Test.YthohpccmleodpaaFmtLxB
import Derived.Deep.DrawnRows
import Derived.Test.YthohpccmleodpaaFmtLaidTabs
import Derived.Deep.QuietTactic
import Derived.BigQuiet
import Derived.IntWalk
namespace Go.Proofs.YthohpccmleodpaaFmt.fnLexMatchesModelOnPlainAlphabet
open Go Go.RowKit Go.Extern.Stop Go.Stop Lx
attribute [local go_sem ↓] Go.wp_at_zero Go.wp_at_succ

theorem tokens {B : Nat} {W0 w : World} {kv dv : Value} {T : List Tok} {n : Nat} (h : KD B W0 w kv dv (T.map Prod.fst) (T.map Prod.snd)) (hn : T.length = n) (hT : 0 < n) : ∃ g c g' c', kv = .slice (some ⟨g, 0, none⟩) n c ∧ dv = .slice (some ⟨g', 0, none⟩) n c' ∧ ZCells w g g' T := by
  subst hn
  obtain ⟨g, c, h1, _⟩ := h.kcell (i := 0) (by simpa using hT)
  obtain ⟨g', c', h2, _⟩ := h.dcell (i := 0) (by simpa using hT)
  rw [List.length_map] at h1 h2
  subst h1
  subst h2
  refine ⟨g, c, g', c', rfl, rfl, fun j hj => ?_⟩
  obtain ⟨e1, e2⟩ := at_of (List.getElem?_eq_getElem hj)
  rw [e1, e2]
  refine ⟨?_, ?_⟩
  · have := h.kin.cells (g := g) rfl j (.int .i64 (T[j]'hj).1) (by simp [hj])
    rwa [add0] at this
  · have := h.dat.cells (g := g') rfl j (.string (T[j]'hj).2) (by simp [hj])
    rwa [add0] at this

set_option maxHeartbeats 12800000 in
set_option maxRecDepth 100000 in
theorem walk (F : Interp) (d m s : ByteArray) (w : World) (hF : F.answers w.tape) (hd : d.size ≤ maxLen) (hm : m.size ≤ maxLen) (hs : s.size ≤ maxLen) (hL : laidMetH Tryf.prog Rows.fnLexMatchesModelOnPlainAlphabetRow.laid w) :
    Calls Tryf.prog 3 #[.string d, .string m, .string s] w fun e w' => e = .returned (.bool true) ∧ Below w.heap.size w w' := by
  have hT := tabs_of_laid (by kernel_rfl) (by simp [Rows.fnLexMatchesModelOnPlainAlphabetRow]) (by simp [Rows.fnLexMatchesModelOnPlainAlphabetRow]) hL
  have HB := Lib.hid (tBytes d m s w hd hm hs)
  have HT := Lib.hid hT
  have HF := Lib.hid hF
  clear hL hT hF hd hm hs
  by_cases gd : 65536 < d.size
  · skip
    have kd : (65536 : Int) < (d.size : Int) := by omega
    go_enter Tryf.func3, Tryf.ntmps3
    go_wp2_with fail
    refine HB.out.mono ?_
    rintro e w' ⟨⟨b, rfl⟩, rfl⟩
    cases b
    all_goals go_wp2
    all_goals go_ret
    all_goals exact ⟨rfl, Below.refl _ _⟩
  by_cases gm : 65536 < m.size
  · skip
    have km : (65536 : Int) < (m.size : Int) := by omega
    have id : ¬ (65536 : Int) < (d.size : Int) := by omega
    have jd : decide ((65536 : Int) < (d.size : Int)) = false := decide_eq_false id
    go_enter Tryf.func3, Tryf.ntmps3
    go_wp2_with fail
    refine HB.out.mono ?_
    rintro e w' ⟨⟨b, rfl⟩, rfl⟩
    cases b
    all_goals go_wp2
    all_goals go_ret
    all_goals exact ⟨rfl, Below.refl _ _⟩
  by_cases gs : 65536 < s.size
  · skip
    have ks : (65536 : Int) < (s.size : Int) := by omega
    have id : ¬ (65536 : Int) < (d.size : Int) := by omega
    have jd : decide ((65536 : Int) < (d.size : Int)) = false := decide_eq_false id
    have im : ¬ (65536 : Int) < (m.size : Int) := by omega
    have jm : decide ((65536 : Int) < (m.size : Int)) = false := decide_eq_false im
    go_enter Tryf.func3, Tryf.ntmps3
    go_wp2_with fail
    refine HB.out.mono ?_
    rintro e w' ⟨⟨b, rfl⟩, rfl⟩
    cases b
    all_goals go_wp2
    all_goals go_ret
    all_goals exact ⟨rfl, Below.refl _ _⟩
  have id : ¬ (65536 : Int) < (d.size : Int) := by omega
  have jd : decide ((65536 : Int) < (d.size : Int)) = false := decide_eq_false id
  have im : ¬ (65536 : Int) < (m.size : Int) := by omega
  have jm : decide ((65536 : Int) < (m.size : Int)) = false := decide_eq_false im
  have is : ¬ (65536 : Int) < (s.size : Int) := by omega
  have js : decide ((65536 : Int) < (s.size : Int)) = false := decide_eq_false is
  go_enter Tryf.func3, Tryf.ntmps3
  go_wp2_with fail
  refine HB.out.mono ?_
  rintro e w' ⟨⟨b, rfl⟩, rfl⟩
  cases b with
  | false =>
    go_wp2
    go_ret
    exact ⟨rfl, Below.refl _ _⟩
  | true =>
  go_wp2_with fail
  refine (plain s w (by omega)).mono ?_
  rintro e w' ⟨⟨b, rfl, hP⟩, rfl⟩
  cases b with
  | false =>
    go_wp2
    go_ret
    exact ⟨rfl, Below.refl _ _⟩
  | true =>
  have HP := Lib.hid (hP rfl)
  clear hP HB
  go_wp2_with fail
  refine (zzLex F d m s w HP.out (by omega) HF.out HT.out).mono ?_
  rintro e w1 ⟨(⟨ts, gk, gd2, rfl, hres, hlen, hz, lk, ld⟩ | ⟨rfl, hres⟩), hb⟩
  · have HRES := Lib.hid hres
    have HZ := Lib.hid (show _ ∧ _ ∧ _ from ⟨hz, lk, ld⟩)
    have HBE := Lib.hid hb
    have hTl : (ts ++ [((36 : Int), (⟨#[]⟩ : ByteArray))]).length = ts.length + 1 := by simp
    obtain ⟨n, hn⟩ : ∃ n, n = ts.length + 1 := ⟨_, rfl⟩
    rw [← hn] at hTl ⊢
    have HTL := Lib.hid hTl
    have hn0 : 0 < n := by omega
    have hnb : n ≤ 1000000 := by omega
    have HN := Lib.hid hn
    clear hres hz lk ld hb hTl hn hlen
    go_wp2_with fail
    refine (modelLex s w1 HP.out (by omega)).mono ?_
    rintro e w2 ⟨(⟨ts2, vk, vd, rfl, hres2, hlen2, hkd⟩ | ⟨rfl, hres2⟩), hb2⟩
    · have e1 := HRES.out.unique hres2
      cases e1
      obtain ⟨g, c, g', c', rfl, rfl, hz2⟩ := tokens hkd HTL.out hn0
      have HZ1 := Lib.hid (HZ.out.1.up hb2 HZ.out.2.1 HZ.out.2.2)
      have HZ2 := Lib.hid hz2
      have HBW := Lib.hid (HBE.out.trans (hb2.mono HBE.out.size))
      clear hres2 hlen2 hkd hb2 hz2 HZ HBE
      generalize ts ++ [((36 : Int), (⟨#[]⟩ : ByteArray))] = T at HZ1 HZ2 HTL
      go_wp2
      go_loopw [13] (fun i wr => ∃ q k : Nat, q ≤ n ∧ i = .int .i64 q ∧ Hid (wr = w2.drewN k)) (fun i _ => n - (intOf i).toNat)
      case atStart => exact ⟨0, 0, Nat.zero_le _, rfl, Lib.hid rfl⟩
      case round =>
        obtain ⟨q, k, hq, rfl, HW⟩ := hrel
        obtain ⟨Z, rfl⟩ : ∃ Z, Z = wr := ⟨_, rfl⟩
        by_cases hlt : q < n
        · have i1 : (q : Int) < (n : Int) := by omega
          have hTq : q < T.length := by rw [HTL.out]; exact hlt
          have x1 : Z.cell? ⟨gk, q, none⟩ = some (.int .i64 (kdAt T q)) := by rw [HW.out]; exact (HZ1.out q hTq).1
          have x2 : Z.cell? ⟨gd2, q, none⟩ = some (.string (dtAt T q)) := by rw [HW.out]; exact (HZ1.out q hTq).2
          have x3 : Z.cell? ⟨g, q, none⟩ = some (.int .i64 (kdAt T q)) := by rw [HW.out]; exact (HZ2.out q hTq).1
          have x4 : Z.cell? ⟨g', q, none⟩ = some (.string (dtAt T q)) := by rw [HW.out]; exact (HZ2.out q hTq).2
          generalize kdAt T q = kq at x1 x3
          generalize dtAt T q = dq at x2 x4
          clear hTq
          go_wp2_with fail
          go_quiet (fail)
          go_wp2
          go_roundw
          case rel => exact ⟨q + 1, k + nq, by omega, by go_num, Lib.hid (by rw [HW.out, World.drewN_drewN])⟩
          case measure => simp [intOf]; omega
        · obtain rfl : q = n := by omega
          have i1 : ¬ (q : Int) < (q : Int) := by omega
          go_wp2
          go_ret
          exact ⟨rfl, by rw [HW.out]; exact drewN_below HBW.out _⟩
    · have e1 := HRES.out.unique hres2
      cases e1
  · have HRES := Lib.hid hres
    have HBE := Lib.hid hb
    clear hres hb
    go_wp2_with fail
    refine (modelLex s w1 HP.out (by omega)).mono ?_
    rintro e w2 ⟨(⟨ts2, vk, vd, rfl, hres2, hlen2, hkd⟩ | ⟨rfl, hres2⟩), hb2⟩
    · have e1 := HRES.out.unique hres2
      cases e1
    · have HBW := Lib.hid (HBE.out.trans (hb2.mono HBE.out.size))
      clear hres2 hb2
      go_wp2
      go_ret
      exact ⟨rfl, HBW.out⟩

end Go.Proofs.YthohpccmleodpaaFmt.fnLexMatchesModelOnPlainAlphabet
