/-
  The walk of FnLexSymbolCommentMatchesModel.
-/
import Derived.Test.YtgdlfcgboghadaaFmtSymM
import Derived.Test.YtgdlfcgboghadaaFmtS64
import Derived.Test.YtgdlfcgboghadaaFmtLaidTabs
namespace Go.Proofs.YtgdlfcgboghadaaFmt.fnLexSymbolCommentMatchesModel
open Go Go.RowKit Go.Shelf

theorem bytes_ok (s : ByteArray) (w : World) (h : s.size ≤ 1048576) :
    Calls Tryf.prog 13 #[.string s] w fun e w' => e = .returned (.bool true) ∧ w = w' := by
  go_enter Tryf.func13, Tryf.ntmps13
  go_wp2
  go_ret
  exact ⟨rfl, rfl⟩
theorem bytes_no (s : ByteArray) (w : World) (hs : s.size ≤ maxLen) (h : 1048576 < s.size) :
    Calls Tryf.prog 13 #[.string s] w fun e w' => e = .returned (.bool false) ∧ w = w' := by
  unfold maxLen at hs
  go_enter Tryf.func13, Tryf.ntmps13
  go_wp2
  all_goals go_ret
  all_goals exact ⟨rfl, rfl⟩
theorem zzWSc (b : Int) (w : World) : Calls Tryf.prog 17 #[.int .u8 b] w fun e w' => e = .returned (.bool (isWs b)) ∧ w = w' := by
  by_cases h1 : b = 32
  · subst h1
    go_enter Tryf.func17, Tryf.ntmps17
    go_wp2
    go_ret
    exact ⟨rfl, rfl⟩
  by_cases h2 : b = 9
  · subst h2
    go_enter Tryf.func17, Tryf.ntmps17
    go_wp2
    go_ret
    exact ⟨rfl, rfl⟩
  by_cases h3 : b = 13
  · subst h3
    go_enter Tryf.func17, Tryf.ntmps17
    go_wp2
    go_ret
    exact ⟨rfl, rfl⟩
  have e1 : (b == 32) = false := beq_eq_false_iff_ne.2 h1
  have e2 : (b == 9) = false := beq_eq_false_iff_ne.2 h2
  have e3 : (b == 13) = false := beq_eq_false_iff_ne.2 h3
  have e4 : isWs b = (b == 10) := by unfold isWs isHws; rw [e1, e2, e3]; simp
  rw [e4]
  clear e4 h1 h2 h3
  go_enter Tryf.func17, Tryf.ntmps17
  go_wp2
  go_ret
  exact ⟨rfl, rfl⟩
theorem zzFodLen164 (a : Nat) (L : LexSt) (w : World) (h : LexAt w a L) (p : Option Addr) (n c : Nat) (hf : L.fod = .slice p n c) :
    Calls Tryf.prog 19 #[.pointer (some ⟨a, 0, none⟩)] w fun e w' => e = .returned (.int .i64 n) ∧ w = w' := by
  have c5 : w.cell? ⟨a, 5, none⟩ = some (.slice p n c) := by rw [← hf]; exact h.cell 5
  clear h hf
  go_enter Tryf.func19, Tryf.ntmps19
  go_wp2
  go_ret
  exact ⟨rfl, rfl⟩
theorem below_of_grown {w w' : World} {B a : Nat} (h : w.grownBy w' (some a)) (ha : B ≤ a) (hB : B ≤ w.heap.size) : Below B w w' :=
  ⟨h.os, h.tape, h.output, h.size, fun i hi => h.block i (by omega) (fun e => by cases e; omega)⟩

def IsErr (e : Ending) : Prop := ∃ v, e = .returned (.iface 112 v)
set_option maxRecDepth 100000 in
theorem zzLexSym (P : Ending → World → Prop) (a : Nat) (w : World) (H : Hid (Calls Tryf.prog 23 #[.pointer (some ⟨a, 0, none⟩)] w P)) (hP : ∀ e w', P e w' → e = .returned .nilIface ∨ IsErr e) :
    Calls Tryf.prog 15 #[.pointer (some ⟨a, 0, none⟩)] w fun e w' => ∃ e1, P e1 w' ∧ ((e1 = .returned .nilIface ∧ e = .returned (.bool true)) ∨ (IsErr e1 ∧ e = .returned (.bool false))) := by
  go_enter Tryf.func15, Tryf.ntmps15
  go_wp2_with fail
  refine H.out.mono ?_
  intro e w1 h1
  rcases hP e w1 h1 with rfl | ⟨v, rfl⟩
  · have HH := Lib.hid h1
    clear h1 H hP
    go_wp2
    go_ret
    exact ⟨_, HH.out, .inl ⟨rfl, rfl⟩⟩
  · have HH := Lib.hid h1
    clear h1 H hP
    go_wp2
    go_ret
    exact ⟨_, HH.out, .inr ⟨⟨_, rfl⟩, rfl⟩⟩

set_option maxHeartbeats 3200000 in
set_option maxRecDepth 100000 in
theorem walk_hash (s : ByteArray) (w : World) (hz : s.size ≤ 1048576) (h0 : 0 < s.size) (e35 : byteAt s 0 = 35) (hT : Lib.Utf8Tabs 3 4 w) :
    Calls Tryf.prog 5 #[.string s] w fun e w' => e = .returned (.bool true) ∧ Below w.heap.size w w' := by
  obtain ⟨g0, g1⟩ := tabs_lt hT
  have HT := Lib.hid hT
  have n1 : (1 : Int) ≤ (s.size : Int) := by omega
  have b35 : (((s[0]'h0).toNat : Int) == 35) = true := by rw [byte_of_get, e35]; rfl
  clear hT
  go_enter Tryf.func5, Tryf.ntmps5
  go_wp2_with fail
  refine (bytes_ok s _ hz).mono ?_
  rintro e w' ⟨rfl, rfl⟩
  go_wp2_with fail
  refine (zzMake164 s (by omega) _).mono ?_
  rintro e w1 ⟨N, M, rfl, hN, hAt, hb⟩
  have hs1 := hb.size
  have HT1 := Lib.hid (tabs_below HT.out hb g0 g1)
  have HA := Lib.hid hAt
  have HB1 := Lib.hid hb
  clear hAt hb
  go_wp2_with fail
  refine (zzLexSym (SymLine w1 s N (initSt ⟨#[]⟩ ⟨#[]⟩ s (.pointer (some ⟨M, 0, none⟩)))) N _ (Lib.hid (symLine s N (initSt ⟨#[]⟩ ⟨#[]⟩ s (.pointer (some ⟨M, 0, none⟩))) w1 HA.out (inv_init _ _ _ _) (by omega) rfl rfl (.inl ((rune_byte (inv_init ⟨#[]⟩ ⟨#[]⟩ s (.pointer (some ⟨M, 0, none⟩))) (c := 35) (by omega)).2 ⟨h0, e35⟩)) HT1.out (by omega) (by omega))) (fun e w' h => .inl h.1)).mono ?_
  rintro e w2 ⟨e1, hsym, hcase⟩
  obtain ⟨rfl, m, k, g, cap, hut, hend, hws, hbk, hA2, hg2⟩ := hsym
  obtain rfl : e = .returned (.bool true) := by
    rcases hcase with ⟨_, h⟩ | ⟨⟨v, h⟩, _⟩
    · exact h
    · cases h
  have hle := line_end (inv_init ⟨#[]⟩ ⟨#[]⟩ s (.pointer (some ⟨M, 0, none⟩))).step hut hend
  have hone : (initSt ⟨#[]⟩ ⟨#[]⟩ s (.pointer (some ⟨M, 0, none⟩))).step.bn = 1 := (step_bytes (inv_init _ _ _ _) h0).2.1 (by show byteAt s 0 < 128; omega)
  have hB2 : Below w.heap.size w w2 := HB1.out.trans (below_of_grown hg2 (by omega) (by omega))
  have HB2 := Lib.hid hB2
  have HL2 := Lib.hid hA2
  generalize hp : ((initSt ⟨#[]⟩ ⟨#[]⟩ s (.pointer (some ⟨M, 0, none⟩))).step.steps m).bn = p at hle hws hbk
  have HWS := Lib.hid hws
  have HLE : Hid ((∀ i, i < p → byteAt s i ≠ 10) ∧ p ≤ s.size ∧ (p = s.size ∨ (p < s.size ∧ byteAt s p = 10))) := Lib.hid ⟨fun i hi => by
    rcases Nat.eq_zero_or_pos i with e0 | e0
    · subst e0
      omega
    · exact hle.1 i (by omega) hi, hle.2⟩
  have HTO : Hid (({ ((initSt ⟨#[]⟩ ⟨#[]⟩ s (.pointer (some ⟨M, 0, none⟩))).step.steps m).steps k with fod := .slice (some ⟨g, 0, none⟩) 1 cap } : LexSt).toks = .slice none 0 0) := Lib.hid ((steps_keeps _ k).2.2.2.2.1.trans ((steps_keeps _ m).2.2.2.2.1.trans (step_keeps _).2.2.2.2.1))
  have HFO : Hid (({ ((initSt ⟨#[]⟩ ⟨#[]⟩ s (.pointer (some ⟨M, 0, none⟩))).step.steps m).steps k with fod := .slice (some ⟨g, 0, none⟩) 1 cap } : LexSt).fod = .slice (some ⟨g, 0, none⟩) 1 cap) := Lib.hid rfl
  have HBN : Hid (({ ((initSt ⟨#[]⟩ ⟨#[]⟩ s (.pointer (some ⟨M, 0, none⟩))).step.steps m).steps k with fod := .slice (some ⟨g, 0, none⟩) 1 cap } : LexSt).bn = p + k) := Lib.hid hbk
  generalize ({ ((initSt ⟨#[]⟩ ⟨#[]⟩ s (.pointer (some ⟨M, 0, none⟩))).step.steps m).steps k with fod := .slice (some ⟨g, 0, none⟩) 1 cap } : LexSt) = L2 at HL2 HTO HFO HBN
  clear hle hone hut hend hws hbk hA2 hg2 hp hB2 hcase HT1 HA
  go_wp2_with fail
  refine (zzCount164 N L2 _ HL2.out _ _ _ HTO.out).mono ?_
  rintro e w5 ⟨rfl, rfl⟩
  go_wp2_with fail
  go_loop [7] (fun v => ∃ j : Nat, v = .int .i64 (j : Int) ∧ j ≤ p) (fun v => s.size - (intOf v).toNat)
  case atStart => exact ⟨0, rfl, by omega⟩
  case round =>
    obtain ⟨j, rfl, hj⟩ := hrel
    have hps := HLE.out.2.1
    by_cases hjp : j < p
    · have hlt : j < s.size := by omega
      have qn : (j : Int) < (s.size : Int) := by omega
      have b10 : (((s[j]'hlt).toNat : Int) != 10) = true := bne_iff_ne.2 (fun e => HLE.out.1 j hjp (by rw [← byte_of_get s j hlt]; omega))
      go_wp2
      go_round
      case rel => exact ⟨j + 1, by go_num, by omega⟩
      case measure => simp [intOf]; omega
    · obtain rfl : j = p := by omega
      rcases HLE.out.2.2 with hend | ⟨hlt, h10⟩
      · have qn : ¬ (j : Int) < (s.size : Int) := by omega
        clear hend
        go_wp2_with fail
        clear qn
        go_loop [7] (fun v => ∃ i : Nat, v = .int .i64 ((j + i : Nat) : Int) ∧ i ≤ k) (fun v => s.size - (intOf v).toNat)
        case atStart => exact ⟨0, by go_num, by omega⟩
        case round =>
          obtain ⟨i, rfl, hi⟩ := hrel
          have hfit := HWS.out.fit
          by_cases hjk : i < k
          · obtain ⟨qj, hQJ⟩ : ∃ qj, qj = j + i := ⟨_, rfl⟩
            rw [← hQJ]
            have hlt : qj < s.size := by omega
            have qn : (qj : Int) < (s.size : Int) := by omega
            have HD : Hid (isWs (((s[qj]'hlt).toNat : Nat) : Int) = true) := Lib.hid (by rw [byte_of_get, hQJ]; exact HWS.out.all i hjk)
            have HQJ := Lib.hid hQJ
            clear hQJ
            go_wp2_with (go_at_call 17; refine (zzWSc _ _).mono ?_; rw [HD.out]; rintro e w' ⟨rfl, rfl⟩)
            go_round
            case rel => exact ⟨i + 1, by rw [show j + (i + 1) = qj + 1 by rw [HQJ.out]; omega]; go_num, by omega⟩
            case measure => simp [intOf]; omega
          · obtain rfl : i = k := by omega
            obtain ⟨qj, hQJ⟩ : ∃ qj, qj = j + i := ⟨_, rfl⟩
            rw [← hQJ]
            have hst := HWS.out.stop
            rw [← hQJ] at hst
            have HQJ := Lib.hid hQJ
            clear hQJ
            rcases hst with hend | ⟨hlt, hnw⟩
            · have qn : ¬ (qj : Int) < (s.size : Int) := by omega
              clear hend
              go_wp2_with fail
              refine (zzPos164 N _ _ HL2.out).mono ?_
              rintro e w5 ⟨rfl, rfl⟩
              rw [HBN.out, ← HQJ.out]
              go_wp2_with fail
              refine (zzFodLen164 N _ _ HL2.out _ _ _ HFO.out).mono ?_
              rintro e w5 ⟨rfl, rfl⟩
              go_wp2
              go_ret
              exact ⟨rfl, HB2.out⟩
            · have qn : (qj : Int) < (s.size : Int) := by omega
              have HD : Hid (isWs (((s[qj]'hlt).toNat : Nat) : Int) = false) := Lib.hid (by rw [byte_of_get]; exact hnw)
              clear hnw
              go_wp2_with (go_at_call 17; refine (zzWSc _ _).mono ?_; rw [HD.out]; rintro e w' ⟨rfl, rfl⟩)
              refine (zzPos164 N _ _ HL2.out).mono ?_
              rintro e w5 ⟨rfl, rfl⟩
              rw [HBN.out, ← HQJ.out]
              go_wp2_with fail
              refine (zzFodLen164 N _ _ HL2.out _ _ _ HFO.out).mono ?_
              rintro e w5 ⟨rfl, rfl⟩
              go_wp2
              go_ret
              exact ⟨rfl, HB2.out⟩
      · have qn : (j : Int) < (s.size : Int) := by omega
        have b10 : (((s[j]'hlt).toNat : Int) != 10) = false := by
          have e : (s[j]'hlt).toNat = 10 := by rw [byte_of_get]; exact h10
          rw [e]
          rfl
        clear h10
        go_wp2_with fail
        go_loop [7] (fun v => ∃ i : Nat, v = .int .i64 ((j + i : Nat) : Int) ∧ i ≤ k) (fun v => s.size - (intOf v).toNat)
        case atStart => exact ⟨0, by go_num, by omega⟩
        case round =>
          obtain ⟨i, rfl, hi⟩ := hrel
          have hfit := HWS.out.fit
          by_cases hjk : i < k
          · obtain ⟨qj, hQJ⟩ : ∃ qj, qj = j + i := ⟨_, rfl⟩
            rw [← hQJ]
            have hlt : qj < s.size := by omega
            have qn : (qj : Int) < (s.size : Int) := by omega
            have HD : Hid (isWs (((s[qj]'hlt).toNat : Nat) : Int) = true) := Lib.hid (by rw [byte_of_get, hQJ]; exact HWS.out.all i hjk)
            have HQJ := Lib.hid hQJ
            clear hQJ
            go_wp2_with (go_at_call 17; refine (zzWSc _ _).mono ?_; rw [HD.out]; rintro e w' ⟨rfl, rfl⟩)
            go_round
            case rel => exact ⟨i + 1, by rw [show j + (i + 1) = qj + 1 by rw [HQJ.out]; omega]; go_num, by omega⟩
            case measure => simp [intOf]; omega
          · obtain rfl : i = k := by omega
            obtain ⟨qj, hQJ⟩ : ∃ qj, qj = j + i := ⟨_, rfl⟩
            rw [← hQJ]
            have hst := HWS.out.stop
            rw [← hQJ] at hst
            have HQJ := Lib.hid hQJ
            clear hQJ
            rcases hst with hend | ⟨hlt, hnw⟩
            · have qn : ¬ (qj : Int) < (s.size : Int) := by omega
              clear hend
              go_wp2_with fail
              refine (zzPos164 N _ _ HL2.out).mono ?_
              rintro e w5 ⟨rfl, rfl⟩
              rw [HBN.out, ← HQJ.out]
              go_wp2_with fail
              refine (zzFodLen164 N _ _ HL2.out _ _ _ HFO.out).mono ?_
              rintro e w5 ⟨rfl, rfl⟩
              go_wp2
              go_ret
              exact ⟨rfl, HB2.out⟩
            · have qn : (qj : Int) < (s.size : Int) := by omega
              have HD : Hid (isWs (((s[qj]'hlt).toNat : Nat) : Int) = false) := Lib.hid (by rw [byte_of_get]; exact hnw)
              clear hnw
              go_wp2_with (go_at_call 17; refine (zzWSc _ _).mono ?_; rw [HD.out]; rintro e w' ⟨rfl, rfl⟩)
              refine (zzPos164 N _ _ HL2.out).mono ?_
              rintro e w5 ⟨rfl, rfl⟩
              rw [HBN.out, ← HQJ.out]
              go_wp2_with fail
              refine (zzFodLen164 N _ _ HL2.out _ _ _ HFO.out).mono ?_
              rintro e w5 ⟨rfl, rfl⟩
              go_wp2
              go_ret
              exact ⟨rfl, HB2.out⟩

set_option maxHeartbeats 3200000 in
set_option maxRecDepth 100000 in
theorem walk_slash (s : ByteArray) (w : World) (hz : s.size ≤ 1048576) (h1 : 1 < s.size) (h0 : 0 < s.size) (e47 : byteAt s 0 = 47) (f47 : byteAt s 1 = 47) (hT : Lib.Utf8Tabs 3 4 w) :
    Calls Tryf.prog 5 #[.string s] w fun e w' => e = .returned (.bool true) ∧ Below w.heap.size w w' := by
  obtain ⟨g0, g1⟩ := tabs_lt hT
  have HT := Lib.hid hT
  have n1 : (1 : Int) ≤ (s.size : Int) := by omega
  have n2 : (2 : Int) ≤ (s.size : Int) := by omega
  have b35 : (((s[0]'h0).toNat : Int) == 35) = false := by rw [byte_of_get, e47]; rfl
  have b47 : (((s[0]'h0).toNat : Int) == 47) = true := by rw [byte_of_get, e47]; rfl
  have d47 : (((s[1]'h1).toNat : Int) == 47) = true := by rw [byte_of_get, f47]; rfl
  clear hT
  go_enter Tryf.func5, Tryf.ntmps5
  go_wp2_with fail
  refine (bytes_ok s _ hz).mono ?_
  rintro e w' ⟨rfl, rfl⟩
  go_wp2_with fail
  refine (zzMake164 s (by omega) _).mono ?_
  rintro e w1 ⟨N, M, rfl, hN, hAt, hb⟩
  have hs1 := hb.size
  have HT1 := Lib.hid (tabs_below HT.out hb g0 g1)
  have HA := Lib.hid hAt
  have HB1 := Lib.hid hb
  clear hAt hb
  go_wp2_with fail
  refine (zzLexSym (SymLine w1 s N (initSt ⟨#[]⟩ ⟨#[]⟩ s (.pointer (some ⟨M, 0, none⟩)))) N _ (Lib.hid (symLine s N (initSt ⟨#[]⟩ ⟨#[]⟩ s (.pointer (some ⟨M, 0, none⟩))) w1 HA.out (inv_init _ _ _ _) (by omega) rfl rfl (.inr ⟨(rune_byte (inv_init ⟨#[]⟩ ⟨#[]⟩ s (.pointer (some ⟨M, 0, none⟩))) (c := 47) (by omega)).2 ⟨h0, e47⟩, (rune_byte (inv_init ⟨#[]⟩ ⟨#[]⟩ s (.pointer (some ⟨M, 0, none⟩))).step (c := 47) (by omega)).2 (by rw [(step_bytes (inv_init ⟨#[]⟩ ⟨#[]⟩ s (.pointer (some ⟨M, 0, none⟩))) h0).2.1 (by show byteAt s 0 < 128; omega)]; exact ⟨h1, f47⟩)⟩) HT1.out (by omega) (by omega))) (fun e w' h => .inl h.1)).mono ?_
  rintro e w2 ⟨e1, hsym, hcase⟩
  obtain ⟨rfl, m, k, g, cap, hut, hend, hws, hbk, hA2, hg2⟩ := hsym
  obtain rfl : e = .returned (.bool true) := by
    rcases hcase with ⟨_, h⟩ | ⟨⟨v, h⟩, _⟩
    · exact h
    · cases h
  have hle := line_end (inv_init ⟨#[]⟩ ⟨#[]⟩ s (.pointer (some ⟨M, 0, none⟩))).step hut hend
  have hone : (initSt ⟨#[]⟩ ⟨#[]⟩ s (.pointer (some ⟨M, 0, none⟩))).step.bn = 1 := (step_bytes (inv_init _ _ _ _) h0).2.1 (by show byteAt s 0 < 128; omega)
  have hB2 : Below w.heap.size w w2 := HB1.out.trans (below_of_grown hg2 (by omega) (by omega))
  have HB2 := Lib.hid hB2
  have HL2 := Lib.hid hA2
  generalize hp : ((initSt ⟨#[]⟩ ⟨#[]⟩ s (.pointer (some ⟨M, 0, none⟩))).step.steps m).bn = p at hle hws hbk
  have HWS := Lib.hid hws
  have HLE : Hid ((∀ i, i < p → byteAt s i ≠ 10) ∧ p ≤ s.size ∧ (p = s.size ∨ (p < s.size ∧ byteAt s p = 10))) := Lib.hid ⟨fun i hi => by
    rcases Nat.eq_zero_or_pos i with e0 | e0
    · subst e0
      omega
    · exact hle.1 i (by omega) hi, hle.2⟩
  have HTO : Hid (({ ((initSt ⟨#[]⟩ ⟨#[]⟩ s (.pointer (some ⟨M, 0, none⟩))).step.steps m).steps k with fod := .slice (some ⟨g, 0, none⟩) 1 cap } : LexSt).toks = .slice none 0 0) := Lib.hid ((steps_keeps _ k).2.2.2.2.1.trans ((steps_keeps _ m).2.2.2.2.1.trans (step_keeps _).2.2.2.2.1))
  have HFO : Hid (({ ((initSt ⟨#[]⟩ ⟨#[]⟩ s (.pointer (some ⟨M, 0, none⟩))).step.steps m).steps k with fod := .slice (some ⟨g, 0, none⟩) 1 cap } : LexSt).fod = .slice (some ⟨g, 0, none⟩) 1 cap) := Lib.hid rfl
  have HBN : Hid (({ ((initSt ⟨#[]⟩ ⟨#[]⟩ s (.pointer (some ⟨M, 0, none⟩))).step.steps m).steps k with fod := .slice (some ⟨g, 0, none⟩) 1 cap } : LexSt).bn = p + k) := Lib.hid hbk
  generalize ({ ((initSt ⟨#[]⟩ ⟨#[]⟩ s (.pointer (some ⟨M, 0, none⟩))).step.steps m).steps k with fod := .slice (some ⟨g, 0, none⟩) 1 cap } : LexSt) = L2 at HL2 HTO HFO HBN
  clear hle hone hut hend hws hbk hA2 hg2 hp hB2 hcase HT1 HA
  go_wp2_with fail
  refine (zzCount164 N L2 _ HL2.out _ _ _ HTO.out).mono ?_
  rintro e w5 ⟨rfl, rfl⟩
  go_wp2_with fail
  go_loop [7] (fun v => ∃ j : Nat, v = .int .i64 (j : Int) ∧ j ≤ p) (fun v => s.size - (intOf v).toNat)
  case atStart => exact ⟨0, rfl, by omega⟩
  case round =>
    obtain ⟨j, rfl, hj⟩ := hrel
    have hps := HLE.out.2.1
    by_cases hjp : j < p
    · have hlt : j < s.size := by omega
      have qn : (j : Int) < (s.size : Int) := by omega
      have b10 : (((s[j]'hlt).toNat : Int) != 10) = true := bne_iff_ne.2 (fun e => HLE.out.1 j hjp (by rw [← byte_of_get s j hlt]; omega))
      go_wp2
      go_round
      case rel => exact ⟨j + 1, by go_num, by omega⟩
      case measure => simp [intOf]; omega
    · obtain rfl : j = p := by omega
      rcases HLE.out.2.2 with hend | ⟨hlt, h10⟩
      · have qn : ¬ (j : Int) < (s.size : Int) := by omega
        clear hend
        go_wp2_with fail
        clear qn
        go_loop [7] (fun v => ∃ i : Nat, v = .int .i64 ((j + i : Nat) : Int) ∧ i ≤ k) (fun v => s.size - (intOf v).toNat)
        case atStart => exact ⟨0, by go_num, by omega⟩
        case round =>
          obtain ⟨i, rfl, hi⟩ := hrel
          have hfit := HWS.out.fit
          by_cases hjk : i < k
          · obtain ⟨qj, hQJ⟩ : ∃ qj, qj = j + i := ⟨_, rfl⟩
            rw [← hQJ]
            have hlt : qj < s.size := by omega
            have qn : (qj : Int) < (s.size : Int) := by omega
            have HD : Hid (isWs (((s[qj]'hlt).toNat : Nat) : Int) = true) := Lib.hid (by rw [byte_of_get, hQJ]; exact HWS.out.all i hjk)
            have HQJ := Lib.hid hQJ
            clear hQJ
            go_wp2_with (go_at_call 17; refine (zzWSc _ _).mono ?_; rw [HD.out]; rintro e w' ⟨rfl, rfl⟩)
            go_round
            case rel => exact ⟨i + 1, by rw [show j + (i + 1) = qj + 1 by rw [HQJ.out]; omega]; go_num, by omega⟩
            case measure => simp [intOf]; omega
          · obtain rfl : i = k := by omega
            obtain ⟨qj, hQJ⟩ : ∃ qj, qj = j + i := ⟨_, rfl⟩
            rw [← hQJ]
            have hst := HWS.out.stop
            rw [← hQJ] at hst
            have HQJ := Lib.hid hQJ
            clear hQJ
            rcases hst with hend | ⟨hlt, hnw⟩
            · have qn : ¬ (qj : Int) < (s.size : Int) := by omega
              clear hend
              go_wp2_with fail
              refine (zzPos164 N _ _ HL2.out).mono ?_
              rintro e w5 ⟨rfl, rfl⟩
              rw [HBN.out, ← HQJ.out]
              go_wp2_with fail
              refine (zzFodLen164 N _ _ HL2.out _ _ _ HFO.out).mono ?_
              rintro e w5 ⟨rfl, rfl⟩
              go_wp2
              go_ret
              exact ⟨rfl, HB2.out⟩
            · have qn : (qj : Int) < (s.size : Int) := by omega
              have HD : Hid (isWs (((s[qj]'hlt).toNat : Nat) : Int) = false) := Lib.hid (by rw [byte_of_get]; exact hnw)
              clear hnw
              go_wp2_with (go_at_call 17; refine (zzWSc _ _).mono ?_; rw [HD.out]; rintro e w' ⟨rfl, rfl⟩)
              refine (zzPos164 N _ _ HL2.out).mono ?_
              rintro e w5 ⟨rfl, rfl⟩
              rw [HBN.out, ← HQJ.out]
              go_wp2_with fail
              refine (zzFodLen164 N _ _ HL2.out _ _ _ HFO.out).mono ?_
              rintro e w5 ⟨rfl, rfl⟩
              go_wp2
              go_ret
              exact ⟨rfl, HB2.out⟩
      · have qn : (j : Int) < (s.size : Int) := by omega
        have b10 : (((s[j]'hlt).toNat : Int) != 10) = false := by
          have e : (s[j]'hlt).toNat = 10 := by rw [byte_of_get]; exact h10
          rw [e]
          rfl
        clear h10
        go_wp2_with fail
        go_loop [7] (fun v => ∃ i : Nat, v = .int .i64 ((j + i : Nat) : Int) ∧ i ≤ k) (fun v => s.size - (intOf v).toNat)
        case atStart => exact ⟨0, by go_num, by omega⟩
        case round =>
          obtain ⟨i, rfl, hi⟩ := hrel
          have hfit := HWS.out.fit
          by_cases hjk : i < k
          · obtain ⟨qj, hQJ⟩ : ∃ qj, qj = j + i := ⟨_, rfl⟩
            rw [← hQJ]
            have hlt : qj < s.size := by omega
            have qn : (qj : Int) < (s.size : Int) := by omega
            have HD : Hid (isWs (((s[qj]'hlt).toNat : Nat) : Int) = true) := Lib.hid (by rw [byte_of_get, hQJ]; exact HWS.out.all i hjk)
            have HQJ := Lib.hid hQJ
            clear hQJ
            go_wp2_with (go_at_call 17; refine (zzWSc _ _).mono ?_; rw [HD.out]; rintro e w' ⟨rfl, rfl⟩)
            go_round
            case rel => exact ⟨i + 1, by rw [show j + (i + 1) = qj + 1 by rw [HQJ.out]; omega]; go_num, by omega⟩
            case measure => simp [intOf]; omega
          · obtain rfl : i = k := by omega
            obtain ⟨qj, hQJ⟩ : ∃ qj, qj = j + i := ⟨_, rfl⟩
            rw [← hQJ]
            have hst := HWS.out.stop
            rw [← hQJ] at hst
            have HQJ := Lib.hid hQJ
            clear hQJ
            rcases hst with hend | ⟨hlt, hnw⟩
            · have qn : ¬ (qj : Int) < (s.size : Int) := by omega
              clear hend
              go_wp2_with fail
              refine (zzPos164 N _ _ HL2.out).mono ?_
              rintro e w5 ⟨rfl, rfl⟩
              rw [HBN.out, ← HQJ.out]
              go_wp2_with fail
              refine (zzFodLen164 N _ _ HL2.out _ _ _ HFO.out).mono ?_
              rintro e w5 ⟨rfl, rfl⟩
              go_wp2
              go_ret
              exact ⟨rfl, HB2.out⟩
            · have qn : (qj : Int) < (s.size : Int) := by omega
              have HD : Hid (isWs (((s[qj]'hlt).toNat : Nat) : Int) = false) := Lib.hid (by rw [byte_of_get]; exact hnw)
              clear hnw
              go_wp2_with (go_at_call 17; refine (zzWSc _ _).mono ?_; rw [HD.out]; rintro e w' ⟨rfl, rfl⟩)
              refine (zzPos164 N _ _ HL2.out).mono ?_
              rintro e w5 ⟨rfl, rfl⟩
              rw [HBN.out, ← HQJ.out]
              go_wp2_with fail
              refine (zzFodLen164 N _ _ HL2.out _ _ _ HFO.out).mono ?_
              rintro e w5 ⟨rfl, rfl⟩
              go_wp2
              go_ret
              exact ⟨rfl, HB2.out⟩

set_option maxHeartbeats 3200000 in
set_option maxRecDepth 100000 in
theorem walk_block (s : ByteArray) (w : World) (hz : s.size ≤ 1048576) (h1 : 1 < s.size) (h0 : 0 < s.size) (e47 : byteAt s 0 = 47) (f42 : byteAt s 1 = 42) (hT : Lib.Utf8Tabs 3 4 w) :
    Calls Tryf.prog 5 #[.string s] w fun e w' => e = .returned (.bool true) ∧ Below w.heap.size w w' := by
  obtain ⟨g0, g1⟩ := tabs_lt hT
  have HT := Lib.hid hT
  have n1 : (1 : Int) ≤ (s.size : Int) := by omega
  have n2 : (2 : Int) ≤ (s.size : Int) := by omega
  have b35 : (((s[0]'h0).toNat : Int) == 35) = false := by rw [byte_of_get, e47]; rfl
  have b47 : (((s[0]'h0).toNat : Int) == 47) = true := by rw [byte_of_get, e47]; rfl
  have d47 : (((s[1]'h1).toNat : Int) == 47) = false := by rw [byte_of_get, f42]; rfl
  have d42 : (((s[1]'h1).toNat : Int) == 42) = true := by rw [byte_of_get, f42]; rfl
  clear hT
  go_enter Tryf.func5, Tryf.ntmps5
  go_wp2_with fail
  refine (bytes_ok s _ hz).mono ?_
  rintro e w' ⟨rfl, rfl⟩
  go_wp2_with fail
  refine (zzMake164 s (by omega) _).mono ?_
  rintro e w1 ⟨N, M, rfl, hN, hAt, hb⟩
  have hs1 := hb.size
  have HT1 := Lib.hid (tabs_below HT.out hb g0 g1)
  have HA := Lib.hid hAt
  have HB1 := Lib.hid hb
  clear hAt hb
  go_wp2_with fail
  refine (zzLexSym (SymBlk w1 s N (initSt ⟨#[]⟩ ⟨#[]⟩ s (.pointer (some ⟨M, 0, none⟩)))) N _ (Lib.hid (symBlock s N (initSt ⟨#[]⟩ ⟨#[]⟩ s (.pointer (some ⟨M, 0, none⟩))) w1 HA.out (inv_init _ _ _ _) (by omega) rfl rfl rfl _ rfl ((rune_byte (inv_init ⟨#[]⟩ ⟨#[]⟩ s (.pointer (some ⟨M, 0, none⟩))) (c := 47) (by omega)).2 ⟨h0, e47⟩) ((rune_byte (inv_init ⟨#[]⟩ ⟨#[]⟩ s (.pointer (some ⟨M, 0, none⟩))).step (c := 42) (by omega)).2 (by rw [(step_bytes (inv_init ⟨#[]⟩ ⟨#[]⟩ s (.pointer (some ⟨M, 0, none⟩))) h0).2.1 (by show byteAt s 0 < 128; omega)]; exact ⟨h1, f42⟩)) HT1.out (by omega) (by omega))) (fun e w' h => by
    rcases h.1 with h | h
    · exact .inl h.1
    · exact .inr h.1)).mono ?_
  rintro e w2 ⟨e1, ⟨hsym, hg2⟩, hcase⟩
  have hB2 : Below w.heap.size w w2 := HB1.out.trans (below_of_grown hg2 (by omega) (by omega))
  have HB2 := Lib.hid hB2
  clear hg2 hB2
  rcases hsym with ⟨rfl, i, k, v, hcl, hws, hbk, hA2⟩ | ⟨herr, hno, i, hA2⟩
  · obtain rfl : e = .returned (.bool true) := by
      rcases hcase with ⟨_, h⟩ | ⟨⟨v, h⟩, _⟩
      · exact h
      · cases h
    have hq := closed ((inv_init ⟨#[]⟩ ⟨#[]⟩ s (.pointer (some ⟨M, 0, none⟩))).steps i) hcl.star hcl.slash
    have h2q := hcl.two
    have hno := hcl.no
    have HL2 := Lib.hid hA2
    have hqq : ((initSt ⟨#[]⟩ ⟨#[]⟩ s (.pointer (some ⟨M, 0, none⟩))).steps (i + 2)).bn = ((initSt ⟨#[]⟩ ⟨#[]⟩ s (.pointer (some ⟨M, 0, none⟩))).steps i).bn + 2 := hq.2.2.2.2
    rw [hqq] at hws hbk
    generalize ((initSt ⟨#[]⟩ ⟨#[]⟩ s (.pointer (some ⟨M, 0, none⟩))).steps i).bn = q at hq h2q hno hws hbk
    have HWS := Lib.hid hws
    have HNO := Lib.hid hno
    have HQ1 := Lib.hid hq.2.1
    have HQ2 := Lib.hid hq.2.2.1
    have hq1 := hq.1
    have HTO : Hid (({ ((initSt ⟨#[]⟩ ⟨#[]⟩ s (.pointer (some ⟨M, 0, none⟩))).steps (i + 2)).steps k with fod := v } : LexSt).toks = .slice none 0 0) := Lib.hid ((steps_keeps _ k).2.2.2.2.1.trans (steps_keeps _ (i + 2)).2.2.2.2.1)
    have HBN : Hid (({ ((initSt ⟨#[]⟩ ⟨#[]⟩ s (.pointer (some ⟨M, 0, none⟩))).steps (i + 2)).steps k with fod := v } : LexSt).bn = q + 2 + k) := Lib.hid hbk
    generalize ({ ((initSt ⟨#[]⟩ ⟨#[]⟩ s (.pointer (some ⟨M, 0, none⟩))).steps (i + 2)).steps k with fod := v } : LexSt) = L2 at HL2 HTO HBN
    clear hcl hws hbk hA2 hq hno hqq hcase HT1 HA
    go_wp2_with fail
    refine (zzCount164 N L2 _ HL2.out _ _ _ HTO.out).mono ?_
    rintro e w5 ⟨rfl, rfl⟩
    go_wp2_with fail
    go_loop [8, 9] (fun v f => ∃ j : Nat, v = .int .i64 (j : Int) ∧ 2 ≤ j ∧ j ≤ q ∧ f = .bool false) (fun v _ => s.size - (intOf v).toNat)
    case atStart => exact ⟨2, rfl, by omega, by omega, rfl⟩
    case round =>
      obtain ⟨j, rfl, hj2, hj, rfl⟩ := hrel
      have hlt : j < s.size := by omega
      have hlt1 : j + 1 < s.size := by omega
      have qn : (j : Int) + 1 < (s.size : Int) := by omega
      by_cases hjq : j < q
      · by_cases e42 : byteAt s j = 42
        · have b42 : (((s[j]'hlt).toNat : Int) == 42) = true := by rw [byte_of_get, e42]; rfl
          have b47 : (((s[j + 1]'hlt1).toNat : Int) == 47) = false := by
            rw [byte_of_get]
            exact beq_eq_false_iff_ne.2 (fun e => HNO.out j hj2 hjq ⟨e42, hlt1, by omega⟩)
          clear e42
          go_wp2
          go_round
          case rel => exact ⟨j + 1, by go_num, by omega, by omega, rfl⟩
          case measure => simp [intOf]; omega
        · have b42 : (((s[j]'hlt).toNat : Int) == 42) = false := by rw [byte_of_get]; exact beq_eq_false_iff_ne.2 (fun e => e42 (by omega))
          clear e42
          go_wp2
          go_round
          case rel => exact ⟨j + 1, by go_num, by omega, by omega, rfl⟩
          case measure => simp [intOf]; omega
      · obtain rfl : j = q := by omega
        have b42 : (((s[j]'hlt).toNat : Int) == 42) = true := by rw [byte_of_get, HQ1.out]; rfl
        have b47 : (((s[j + 1]'hlt1).toNat : Int) == 47) = true := by rw [byte_of_get, HQ2.out]; rfl
        go_wp2_with fail
        go_loop [8] (fun v => ∃ i : Nat, v = .int .i64 (((j + 2) + i : Nat) : Int) ∧ i ≤ k) (fun v => s.size - (intOf v).toNat)
        case atStart => exact ⟨0, by go_num, by omega⟩
        case round =>
          obtain ⟨i, rfl, hi⟩ := hrel
          have hfit := HWS.out.fit
          by_cases hjk : i < k
          · obtain ⟨qj, hQJ⟩ : ∃ qj, qj = (j + 2) + i := ⟨_, rfl⟩
            rw [← hQJ]
            have hlt : qj < s.size := by omega
            have qn : (qj : Int) < (s.size : Int) := by omega
            have HD : Hid (isWs (((s[qj]'hlt).toNat : Nat) : Int) = true) := Lib.hid (by rw [byte_of_get, hQJ]; exact HWS.out.all i hjk)
            have HQJ := Lib.hid hQJ
            clear hQJ
            go_wp2_with (go_at_call 17; refine (zzWSc _ _).mono ?_; rw [HD.out]; rintro e w' ⟨rfl, rfl⟩)
            go_round
            case rel => exact ⟨i + 1, by rw [show (j + 2) + (i + 1) = qj + 1 by rw [HQJ.out]; omega]; go_num, by omega⟩
            case measure => simp [intOf]; omega
          · obtain rfl : i = k := by omega
            obtain ⟨qj, hQJ⟩ : ∃ qj, qj = (j + 2) + i := ⟨_, rfl⟩
            rw [← hQJ]
            have hst := HWS.out.stop
            rw [← hQJ] at hst
            have HQJ := Lib.hid hQJ
            clear hQJ
            rcases hst with hend | ⟨hlt, hnw⟩
            · have qn : ¬ (qj : Int) < (s.size : Int) := by omega
              clear hend
              go_wp2_with fail
              refine (zzPos164 N _ _ HL2.out).mono ?_
              rintro e w5 ⟨rfl, rfl⟩
              rw [HBN.out, ← HQJ.out]
              go_wp2
              go_ret
              exact ⟨rfl, HB2.out⟩
            · have qn : (qj : Int) < (s.size : Int) := by omega
              have HD : Hid (isWs (((s[qj]'hlt).toNat : Nat) : Int) = false) := Lib.hid (by rw [byte_of_get]; exact hnw)
              clear hnw
              go_wp2_with (go_at_call 17; refine (zzWSc _ _).mono ?_; rw [HD.out]; rintro e w' ⟨rfl, rfl⟩)
              refine (zzPos164 N _ _ HL2.out).mono ?_
              rintro e w5 ⟨rfl, rfl⟩
              rw [HBN.out, ← HQJ.out]
              go_wp2
              go_ret
              exact ⟨rfl, HB2.out⟩
  · obtain rfl : e = .returned (.bool false) := by
      rcases hcase with ⟨h, _⟩ | ⟨_, h⟩
      · obtain ⟨v, rfl⟩ := herr
        cases h
      · exact h
    have HL2 := Lib.hid hA2
    have HNO := Lib.hid hno
    have HTO : Hid (((initSt ⟨#[]⟩ ⟨#[]⟩ s (.pointer (some ⟨M, 0, none⟩))).steps i).toks = .slice none 0 0) := Lib.hid (steps_keeps _ i).2.2.2.2.1
    clear hno hA2 hcase HT1 HA herr
    go_wp2_with fail
    refine (zzCount164 N _ _ HL2.out _ _ _ HTO.out).mono ?_
    rintro e w5 ⟨rfl, rfl⟩
    go_wp2_with fail
    go_loop [8, 9] (fun v f => ∃ j : Nat, v = .int .i64 (j : Int) ∧ 2 ≤ j ∧ j ≤ s.size + 2 ∧ f = .bool false) (fun v _ => s.size + 2 - (intOf v).toNat)
    case atStart => exact ⟨2, rfl, by omega, by omega, rfl⟩
    case round =>
      obtain ⟨j, rfl, hj2, hj, rfl⟩ := hrel
      by_cases hlt1 : j + 1 < s.size
      · have hlt : j < s.size := by omega
        have qn : (j : Int) + 1 < (s.size : Int) := by omega
        by_cases e42 : byteAt s j = 42
        · have b42 : (((s[j]'hlt).toNat : Int) == 42) = true := by rw [byte_of_get, e42]; rfl
          have b47 : (((s[j + 1]'hlt1).toNat : Int) == 47) = false := by
            rw [byte_of_get]
            exact beq_eq_false_iff_ne.2 (fun e => HNO.out j hj2 hlt ⟨e42, hlt1, by omega⟩)
          clear e42
          go_wp2
          go_round
          case rel => exact ⟨j + 1, by go_num, by omega, by omega, rfl⟩
          case measure => simp [intOf]; omega
        · have b42 : (((s[j]'hlt).toNat : Int) == 42) = false := by rw [byte_of_get]; exact beq_eq_false_iff_ne.2 (fun e => e42 (by omega))
          clear e42
          go_wp2
          go_round
          case rel => exact ⟨j + 1, by go_num, by omega, by omega, rfl⟩
          case measure => simp [intOf]; omega
      · have qn : ¬ (j : Int) + 1 < (s.size : Int) := by omega
        go_wp2
        go_ret
        exact ⟨rfl, HB2.out⟩

set_option maxHeartbeats 3200000 in
set_option maxRecDepth 100000 in
theorem walk (s : ByteArray) (w : World) (hs : s.size ≤ maxLen) (hL : laidMetH Tryf.prog Rows.fnLexSymbolCommentMatchesModelRow.laid w) :
    Calls Tryf.prog 5 #[.string s] w fun e w' => e = .returned (.bool true) ∧ Below w.heap.size w w' := by
  have hT := tabs_of_laid (by kernel_rfl) (by simp [Rows.fnLexSymbolCommentMatchesModelRow]) (by simp [Rows.fnLexSymbolCommentMatchesModelRow]) hL
  clear hL
  by_cases hz : 1048576 < s.size
  · clear hT
    go_enter Tryf.func5, Tryf.ntmps5
    go_wp2_with (go_at_call 13; refine (bytes_no s _ hs hz).mono ?_; rintro e w' ⟨rfl, rfl⟩)
    go_ret
    exact ⟨rfl, Below.refl _ _⟩
  have hz' : s.size ≤ 1048576 := by omega
  clear hs hz
  by_cases h0 : 0 < s.size
  case neg =>
    clear hT
    have n1 : ¬ (1 : Int) ≤ (s.size : Int) := by omega
    have n2 : ¬ (2 : Int) ≤ (s.size : Int) := by omega
    clear h0
    go_enter Tryf.func5, Tryf.ntmps5
    go_wp2_with (go_at_call 13; refine (bytes_ok s _ hz').mono ?_; rintro e w' ⟨rfl, rfl⟩)
    go_ret
    exact ⟨rfl, Below.refl _ _⟩
  have n1 : (1 : Int) ≤ (s.size : Int) := by omega
  by_cases e35 : byteAt s 0 = 35
  · exact walk_hash s w hz' h0 e35 hT
  have b35 : (((s[0]'h0).toNat : Int) == 35) = false := by rw [byte_of_get]; exact beq_eq_false_iff_ne.2 (fun e => e35 (by omega))
  clear e35
  by_cases h1 : 1 < s.size
  case neg =>
    clear hT
    have n2 : ¬ (2 : Int) ≤ (s.size : Int) := by omega
    clear h1
    go_enter Tryf.func5, Tryf.ntmps5
    go_wp2_with (go_at_call 13; refine (bytes_ok s _ hz').mono ?_; rintro e w' ⟨rfl, rfl⟩)
    go_ret
    exact ⟨rfl, Below.refl _ _⟩
  have n2 : (2 : Int) ≤ (s.size : Int) := by omega
  by_cases e47 : byteAt s 0 = 47
  case neg =>
    clear hT
    have b47 : (((s[0]'h0).toNat : Int) == 47) = false := by rw [byte_of_get]; exact beq_eq_false_iff_ne.2 (fun e => e47 (by omega))
    clear e47
    go_enter Tryf.func5, Tryf.ntmps5
    go_wp2_with (go_at_call 13; refine (bytes_ok s _ hz').mono ?_; rintro e w' ⟨rfl, rfl⟩)
    go_ret
    exact ⟨rfl, Below.refl _ _⟩
  by_cases f47 : byteAt s 1 = 47
  · exact walk_slash s w hz' h1 h0 e47 f47 hT
  by_cases f42 : byteAt s 1 = 42
  · exact walk_block s w hz' h1 h0 e47 f42 hT
  have b47 : (((s[0]'h0).toNat : Int) == 47) = true := by rw [byte_of_get, e47]; rfl
  have d47 : (((s[1]'h1).toNat : Int) == 47) = false := by rw [byte_of_get]; exact beq_eq_false_iff_ne.2 (fun e => f47 (by omega))
  have d42 : (((s[1]'h1).toNat : Int) == 42) = false := by rw [byte_of_get]; exact beq_eq_false_iff_ne.2 (fun e => f42 (by omega))
  clear hT e47 f47 f42
  go_enter Tryf.func5, Tryf.ntmps5
  go_wp2_with (go_at_call 13; refine (bytes_ok s _ hz').mono ?_; rintro e w' ⟨rfl, rfl⟩)
  go_ret
  exact ⟨rfl, Below.refl _ _⟩

end Go.Proofs.YtgdlfcgboghadaaFmt.fnLexSymbolCommentMatchesModel
