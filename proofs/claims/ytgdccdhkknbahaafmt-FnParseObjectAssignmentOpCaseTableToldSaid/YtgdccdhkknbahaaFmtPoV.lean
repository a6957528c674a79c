/-
  The walks of FnParseObjectAssignmentOpCaseTable, and from the arguments as they come.
-/
import Derived.Test.YtgdccdhkknbahaaFmtPoW
namespace Go.Proofs.YtgdccdhkknbahaaFmt.fnParseObjectAssignmentOpCaseTable
open Go Go.RowKit Go.Extern.Stop Go.Stop Go.Extern

theorem good_cases {b : List UInt8} (h : Good b) : b = [58] ∨ b = [58, 58] ∨ b = [58, 58, 58] := by
  obtain ⟨h1, h2, h3⟩ := h
  match b, h1, h2, h3 with
  | [x], h1, _, _ =>
    have := h1 x (by simp)
    subst this; exact .inl rfl
  | [x, y], h1, _, _ =>
    have a1 := h1 x (by simp)
    have a2 := h1 y (by simp)
    subst a1; subst a2; exact .inr (.inl rfl)
  | [x, y, z], h1, _, _ =>
    have a1 := h1 x (by simp)
    have a2 := h1 y (by simp)
    have a3 := h1 z (by simp)
    subst a1; subst a2; subst a3; exact .inr (.inr rfl)
theorem good1 : Good [58] := ⟨by simp, by decide, by decide⟩
theorem good2 : Good [58, 58] := ⟨by simp, by decide, by decide⟩
theorem good3 : Good [58, 58, 58] := ⟨by simp, by decide, by decide⟩
theorem ans0 {e : Ending} (h : Ans [58] e) : e = .returned (.tuple #[.slice none 0 0, .bool false, .int .i64 1, .nilIface]) := by
  have h2 : Out false [58] e := h
  obtain ⟨hh, err, rfl, h3 | h3⟩ := h2
  · obtain ⟨_, h4, rfl⟩ := h3
    have h5 : hh = 1 := by
      rcases h4 with ⟨a, b⟩ | ⟨a, b⟩ | ⟨a, b⟩
      all_goals first | exact b | (exfalso; revert a; decide)
    rw [h5]
  · exact absurd good1 h3.1
theorem ans1 {e : Ending} (h : Ans [58, 58] e) : e = .returned (.tuple #[.slice none 0 0, .bool false, .int .i64 0, .nilIface]) := by
  have h2 : Out false [58, 58] e := h
  obtain ⟨hh, err, rfl, h3 | h3⟩ := h2
  · obtain ⟨_, h4, rfl⟩ := h3
    have h5 : hh = 0 := by
      rcases h4 with ⟨a, b⟩ | ⟨a, b⟩ | ⟨a, b⟩
      all_goals first | exact b | (exfalso; revert a; decide)
    rw [h5]
  · exact absurd good2 h3.1
theorem ans2 {e : Ending} (h : Ans [58, 58, 58] e) : e = .returned (.tuple #[.slice none 0 0, .bool false, .int .i64 2, .nilIface]) := by
  have h2 : Out false [58, 58, 58] e := h
  obtain ⟨hh, err, rfl, h3 | h3⟩ := h2
  · obtain ⟨_, h4, rfl⟩ := h3
    have h5 : hh = 2 := by
      rcases h4 with ⟨a, b⟩ | ⟨a, b⟩ | ⟨a, b⟩
      all_goals first | exact b | (exfalso; revert a; decide)
    rw [h5]
  · exact absurd good3 h3.1
theorem ans3 {e : Ending} (h : Ans [43, 58] e) : e = .returned (.tuple #[.slice none 0 0, .bool true, .int .i64 1, .nilIface]) := by
  have h2 : Out true [58] e := h
  obtain ⟨hh, err, rfl, h3 | h3⟩ := h2
  · obtain ⟨_, h4, rfl⟩ := h3
    have h5 : hh = 1 := by
      rcases h4 with ⟨a, b⟩ | ⟨a, b⟩ | ⟨a, b⟩
      all_goals first | exact b | (exfalso; revert a; decide)
    rw [h5]
  · exact absurd good1 h3.1
theorem ans4 {e : Ending} (h : Ans [43, 58, 58] e) : e = .returned (.tuple #[.slice none 0 0, .bool true, .int .i64 0, .nilIface]) := by
  have h2 : Out true [58, 58] e := h
  obtain ⟨hh, err, rfl, h3 | h3⟩ := h2
  · obtain ⟨_, h4, rfl⟩ := h3
    have h5 : hh = 0 := by
      rcases h4 with ⟨a, b⟩ | ⟨a, b⟩ | ⟨a, b⟩
      all_goals first | exact b | (exfalso; revert a; decide)
    rw [h5]
  · exact absurd good2 h3.1
theorem ans5 {e : Ending} (h : Ans [43, 58, 58, 58] e) : e = .returned (.tuple #[.slice none 0 0, .bool true, .int .i64 2, .nilIface]) := by
  have h2 : Out true [58, 58, 58] e := h
  obtain ⟨hh, err, rfl, h3 | h3⟩ := h2
  · obtain ⟨_, h4, rfl⟩ := h3
    have h5 : hh = 2 := by
      rcases h4 with ⟨a, b⟩ | ⟨a, b⟩ | ⟨a, b⟩
      all_goals first | exact b | (exfalso; revert a; decide)
    rw [h5]
  · exact absurd good3 h3.1
theorem ansN {op : List UInt8} {e : Ending} (h : Ans op e) (n0 : op ≠ [58]) (n1 : op ≠ [58, 58]) (n2 : op ≠ [58, 58, 58]) (n3 : op ≠ [43, 58]) (n4 : op ≠ [43, 58, 58]) (n5 : op ≠ [43, 58, 58, 58]) : ∃ p hh v, e = .returned (.tuple #[.slice none 0 0, .bool p, .int .i64 hh, .iface 111 v]) := by
  have key : ∀ (p : Bool) (b : List UInt8), Out p b e → ¬ Good b → ∃ p hh v, e = .returned (.tuple #[.slice none 0 0, .bool p, .int .i64 hh, .iface 111 v]) := by
    intro p b ho hb
    obtain ⟨hh, err, rfl, h3 | h3⟩ := ho
    · exact absurd h3.1 hb
    · obtain ⟨_, v, rfl⟩ := h3
      exact ⟨p, hh, v, rfl⟩
  match op, h with
  | c :: r, h =>
    unfold Ans at h
    simp only at h
    by_cases hc : c = 43
    · subst hc
      rw [if_pos rfl] at h
      refine key _ _ h fun hg => ?_
      rcases good_cases hg with rfl | rfl | rfl
      · exact n3 rfl
      · exact n4 rfl
      · exact n5 rfl
    · rw [if_neg hc] at h
      refine key _ _ h fun hg => ?_
      rcases good_cases hg with e1 | e1 | e1
      · exact n0 e1
      · exact n1 e1
      · exact n2 e1

/-- Texts compared: as the walk asks. -/
theorem ne_text {a b : List UInt8} (h : a ≠ b) : ((⟨a.toArray⟩ : ByteArray).toList == b) = false := by
  rw [ByteArray.toList_eq, beq_eq_false_iff_ne]
  simpa using h

set_option maxHeartbeats 1600000 in
set_option maxRecDepth 100000 in
theorem walk_0 (F : Interp) (w : World) (hF : F.answers w.tape) (h : (⟨#[58]⟩ : ByteArray).size ≤ maxLen) :
    Calls Tryf.prog 5 #[.string ⟨#[58]⟩] w fun e w' => e = .returned (.bool true) ∧ Below w.heap.size w w' := by
  have HF := Lib.hid hF
  have HP := Lib.hid (poBytes ⟨#[58]⟩ w h)
  have t0 : ((⟨#[58]⟩ : ByteArray).toList == [58]) = true := by decide +kernel
  have t1 : ((⟨#[58]⟩ : ByteArray).toList == [58, 58]) = false := by decide +kernel
  have t2 : ((⟨#[58]⟩ : ByteArray).toList == [58, 58, 58]) = false := by decide +kernel
  have t3 : ((⟨#[58]⟩ : ByteArray).toList == [43, 58]) = false := by decide +kernel
  have t4 : ((⟨#[58]⟩ : ByteArray).toList == [43, 58, 58]) = false := by decide +kernel
  have t5 : ((⟨#[58]⟩ : ByteArray).toList == [43, 58, 58, 58]) = false := by decide +kernel
  clear hF h
  go_enter Tryf.func5, Tryf.ntmps5
  go_wp2_with fail
  refine HP.out.mono ?_
  rintro e w' ⟨⟨b, rfl, hb⟩, rfl⟩
  cases b with
  | false =>
    go_wp2
    go_ret
    exact ⟨rfl, Below.refl _ _⟩
  | true =>
  have hsz : ([] : List UInt8).length ≤ 1048576 := by
    decide
  clear hb HP
  go_wp2_with fail
  refine (tokAppend (.slice none 0 0) 0 [] 12 _ w.heap.size w ⟨rfl, .inl ⟨rfl, rfl⟩⟩ (Nat.le_refl _) (by omega)).mono ?_
  rintro e w1 ⟨⟨g1, c1, rfl, ho1⟩, hb1⟩
  have HO1 := Lib.hid ho1
  have HB1 := Lib.hid hb1
  clear ho1 hb1
  go_wp2_with fail
  refine (tokAppend _ 1 _ 36 _ w.heap.size w1 HO1.out HB1.out.size (by omega)).mono ?_
  rintro e w2 ⟨⟨g, cap, rfl, ho2⟩, hb2⟩
  have HT2 : Hid (OpTok w2 g ⟨#[58]⟩) := Lib.hid (opTok_of (ys := tokVals 36 ⟨#[]⟩) (by simpa using ho2))
  have hg2 : g < w2.heap.size := World.block_lt_of_cell? w2 ⟨g, 0, none⟩ (HT2.out 0 _ rfl)
  have HB2 := Lib.hid (HB1.out.trans hb2)
  clear ho2 hb2 HO1 HB1
  go_wp2_with fail
  refine (zzMakePar _ _ _ w2).mono ?_
  rintro e w3 ⟨rfl, hw3⟩
  have hpar : w3.heap[w2.heap.size]? = some (.cells #[.slice (some ⟨g, 0, none⟩) 2 cap, .int .i64 0] 81 (0, 0)) := by rw [← hw3]; exact heap_alloc_new w2 _
  have hb3 : Below w2.heap.size w2 w3 := by rw [← hw3]; exact (Below.refl _ w2).alloc (Nat.le_refl _) _
  have HT3 := Lib.hid (HT2.out.below hb3 hg2)
  have HB3 := Lib.hid (HB2.out.trans (hb3.mono HB2.out.size))
  have HPAR := Lib.hid hpar
  have HF3 : Hid (F.answers w3.tape) := Lib.hid (by rw [HB3.out.tape]; exact HF.out)
  have hsz2 := HB2.out.size
  clear hw3 hpar hb3 HT2 HB2 HF
  go_wp2_with fail
  refine (zzParse F w2.heap.size g cap 58 ([] : List UInt8) w3 HF3.out HPAR.out HT3.out hg2 hsz).mono ?_
  rintro e w4 ⟨⟨hA, hcc⟩, hb4⟩
  have HB4 := Lib.hid (HB3.out.trans (hb4.mono hsz2))
  obtain rfl := ans0 hA
  clear hA hb4 HB3 HPAR HT3 HF3
  go_wp2_with fail
  refine (zzCurr _ 1 _ hcc).mono ?_
  rintro e w5 ⟨rfl, rfl⟩
  go_wp2
  go_ret
  exact ⟨rfl, HB4.out⟩

set_option maxHeartbeats 1600000 in
set_option maxRecDepth 100000 in
theorem walk_1 (F : Interp) (w : World) (hF : F.answers w.tape) (h : (⟨#[58, 58]⟩ : ByteArray).size ≤ maxLen) :
    Calls Tryf.prog 5 #[.string ⟨#[58, 58]⟩] w fun e w' => e = .returned (.bool true) ∧ Below w.heap.size w w' := by
  have HF := Lib.hid hF
  have HP := Lib.hid (poBytes ⟨#[58, 58]⟩ w h)
  have t0 : ((⟨#[58, 58]⟩ : ByteArray).toList == [58]) = false := by decide +kernel
  have t1 : ((⟨#[58, 58]⟩ : ByteArray).toList == [58, 58]) = true := by decide +kernel
  have t2 : ((⟨#[58, 58]⟩ : ByteArray).toList == [58, 58, 58]) = false := by decide +kernel
  have t3 : ((⟨#[58, 58]⟩ : ByteArray).toList == [43, 58]) = false := by decide +kernel
  have t4 : ((⟨#[58, 58]⟩ : ByteArray).toList == [43, 58, 58]) = false := by decide +kernel
  have t5 : ((⟨#[58, 58]⟩ : ByteArray).toList == [43, 58, 58, 58]) = false := by decide +kernel
  clear hF h
  go_enter Tryf.func5, Tryf.ntmps5
  go_wp2_with fail
  refine HP.out.mono ?_
  rintro e w' ⟨⟨b, rfl, hb⟩, rfl⟩
  cases b with
  | false =>
    go_wp2
    go_ret
    exact ⟨rfl, Below.refl _ _⟩
  | true =>
  have hsz : [58].length ≤ 1048576 := by
    decide
  clear hb HP
  go_wp2_with fail
  refine (tokAppend (.slice none 0 0) 0 [] 12 _ w.heap.size w ⟨rfl, .inl ⟨rfl, rfl⟩⟩ (Nat.le_refl _) (by omega)).mono ?_
  rintro e w1 ⟨⟨g1, c1, rfl, ho1⟩, hb1⟩
  have HO1 := Lib.hid ho1
  have HB1 := Lib.hid hb1
  clear ho1 hb1
  go_wp2_with fail
  refine (tokAppend _ 1 _ 36 _ w.heap.size w1 HO1.out HB1.out.size (by omega)).mono ?_
  rintro e w2 ⟨⟨g, cap, rfl, ho2⟩, hb2⟩
  have HT2 : Hid (OpTok w2 g ⟨#[58, 58]⟩) := Lib.hid (opTok_of (ys := tokVals 36 ⟨#[]⟩) (by simpa using ho2))
  have hg2 : g < w2.heap.size := World.block_lt_of_cell? w2 ⟨g, 0, none⟩ (HT2.out 0 _ rfl)
  have HB2 := Lib.hid (HB1.out.trans hb2)
  clear ho2 hb2 HO1 HB1
  go_wp2_with fail
  refine (zzMakePar _ _ _ w2).mono ?_
  rintro e w3 ⟨rfl, hw3⟩
  have hpar : w3.heap[w2.heap.size]? = some (.cells #[.slice (some ⟨g, 0, none⟩) 2 cap, .int .i64 0] 81 (0, 0)) := by rw [← hw3]; exact heap_alloc_new w2 _
  have hb3 : Below w2.heap.size w2 w3 := by rw [← hw3]; exact (Below.refl _ w2).alloc (Nat.le_refl _) _
  have HT3 := Lib.hid (HT2.out.below hb3 hg2)
  have HB3 := Lib.hid (HB2.out.trans (hb3.mono HB2.out.size))
  have HPAR := Lib.hid hpar
  have HF3 : Hid (F.answers w3.tape) := Lib.hid (by rw [HB3.out.tape]; exact HF.out)
  have hsz2 := HB2.out.size
  clear hw3 hpar hb3 HT2 HB2 HF
  go_wp2_with fail
  refine (zzParse F w2.heap.size g cap 58 [58] w3 HF3.out HPAR.out HT3.out hg2 hsz).mono ?_
  rintro e w4 ⟨⟨hA, hcc⟩, hb4⟩
  have HB4 := Lib.hid (HB3.out.trans (hb4.mono hsz2))
  obtain rfl := ans1 hA
  clear hA hb4 HB3 HPAR HT3 HF3
  go_wp2_with fail
  refine (zzCurr _ 1 _ hcc).mono ?_
  rintro e w5 ⟨rfl, rfl⟩
  go_wp2
  go_ret
  exact ⟨rfl, HB4.out⟩

set_option maxHeartbeats 1600000 in
set_option maxRecDepth 100000 in
theorem walk_2 (F : Interp) (w : World) (hF : F.answers w.tape) (h : (⟨#[58, 58, 58]⟩ : ByteArray).size ≤ maxLen) :
    Calls Tryf.prog 5 #[.string ⟨#[58, 58, 58]⟩] w fun e w' => e = .returned (.bool true) ∧ Below w.heap.size w w' := by
  have HF := Lib.hid hF
  have HP := Lib.hid (poBytes ⟨#[58, 58, 58]⟩ w h)
  have t0 : ((⟨#[58, 58, 58]⟩ : ByteArray).toList == [58]) = false := by decide +kernel
  have t1 : ((⟨#[58, 58, 58]⟩ : ByteArray).toList == [58, 58]) = false := by decide +kernel
  have t2 : ((⟨#[58, 58, 58]⟩ : ByteArray).toList == [58, 58, 58]) = true := by decide +kernel
  have t3 : ((⟨#[58, 58, 58]⟩ : ByteArray).toList == [43, 58]) = false := by decide +kernel
  have t4 : ((⟨#[58, 58, 58]⟩ : ByteArray).toList == [43, 58, 58]) = false := by decide +kernel
  have t5 : ((⟨#[58, 58, 58]⟩ : ByteArray).toList == [43, 58, 58, 58]) = false := by decide +kernel
  clear hF h
  go_enter Tryf.func5, Tryf.ntmps5
  go_wp2_with fail
  refine HP.out.mono ?_
  rintro e w' ⟨⟨b, rfl, hb⟩, rfl⟩
  cases b with
  | false =>
    go_wp2
    go_ret
    exact ⟨rfl, Below.refl _ _⟩
  | true =>
  have hsz : [58, 58].length ≤ 1048576 := by
    decide
  clear hb HP
  go_wp2_with fail
  refine (tokAppend (.slice none 0 0) 0 [] 12 _ w.heap.size w ⟨rfl, .inl ⟨rfl, rfl⟩⟩ (Nat.le_refl _) (by omega)).mono ?_
  rintro e w1 ⟨⟨g1, c1, rfl, ho1⟩, hb1⟩
  have HO1 := Lib.hid ho1
  have HB1 := Lib.hid hb1
  clear ho1 hb1
  go_wp2_with fail
  refine (tokAppend _ 1 _ 36 _ w.heap.size w1 HO1.out HB1.out.size (by omega)).mono ?_
  rintro e w2 ⟨⟨g, cap, rfl, ho2⟩, hb2⟩
  have HT2 : Hid (OpTok w2 g ⟨#[58, 58, 58]⟩) := Lib.hid (opTok_of (ys := tokVals 36 ⟨#[]⟩) (by simpa using ho2))
  have hg2 : g < w2.heap.size := World.block_lt_of_cell? w2 ⟨g, 0, none⟩ (HT2.out 0 _ rfl)
  have HB2 := Lib.hid (HB1.out.trans hb2)
  clear ho2 hb2 HO1 HB1
  go_wp2_with fail
  refine (zzMakePar _ _ _ w2).mono ?_
  rintro e w3 ⟨rfl, hw3⟩
  have hpar : w3.heap[w2.heap.size]? = some (.cells #[.slice (some ⟨g, 0, none⟩) 2 cap, .int .i64 0] 81 (0, 0)) := by rw [← hw3]; exact heap_alloc_new w2 _
  have hb3 : Below w2.heap.size w2 w3 := by rw [← hw3]; exact (Below.refl _ w2).alloc (Nat.le_refl _) _
  have HT3 := Lib.hid (HT2.out.below hb3 hg2)
  have HB3 := Lib.hid (HB2.out.trans (hb3.mono HB2.out.size))
  have HPAR := Lib.hid hpar
  have HF3 : Hid (F.answers w3.tape) := Lib.hid (by rw [HB3.out.tape]; exact HF.out)
  have hsz2 := HB2.out.size
  clear hw3 hpar hb3 HT2 HB2 HF
  go_wp2_with fail
  refine (zzParse F w2.heap.size g cap 58 [58, 58] w3 HF3.out HPAR.out HT3.out hg2 hsz).mono ?_
  rintro e w4 ⟨⟨hA, hcc⟩, hb4⟩
  have HB4 := Lib.hid (HB3.out.trans (hb4.mono hsz2))
  obtain rfl := ans2 hA
  clear hA hb4 HB3 HPAR HT3 HF3
  go_wp2_with fail
  refine (zzCurr _ 1 _ hcc).mono ?_
  rintro e w5 ⟨rfl, rfl⟩
  go_wp2
  go_ret
  exact ⟨rfl, HB4.out⟩

set_option maxHeartbeats 1600000 in
set_option maxRecDepth 100000 in
theorem walk_3 (F : Interp) (w : World) (hF : F.answers w.tape) (h : (⟨#[43, 58]⟩ : ByteArray).size ≤ maxLen) :
    Calls Tryf.prog 5 #[.string ⟨#[43, 58]⟩] w fun e w' => e = .returned (.bool true) ∧ Below w.heap.size w w' := by
  have HF := Lib.hid hF
  have HP := Lib.hid (poBytes ⟨#[43, 58]⟩ w h)
  have t0 : ((⟨#[43, 58]⟩ : ByteArray).toList == [58]) = false := by decide +kernel
  have t1 : ((⟨#[43, 58]⟩ : ByteArray).toList == [58, 58]) = false := by decide +kernel
  have t2 : ((⟨#[43, 58]⟩ : ByteArray).toList == [58, 58, 58]) = false := by decide +kernel
  have t3 : ((⟨#[43, 58]⟩ : ByteArray).toList == [43, 58]) = true := by decide +kernel
  have t4 : ((⟨#[43, 58]⟩ : ByteArray).toList == [43, 58, 58]) = false := by decide +kernel
  have t5 : ((⟨#[43, 58]⟩ : ByteArray).toList == [43, 58, 58, 58]) = false := by decide +kernel
  clear hF h
  go_enter Tryf.func5, Tryf.ntmps5
  go_wp2_with fail
  refine HP.out.mono ?_
  rintro e w' ⟨⟨b, rfl, hb⟩, rfl⟩
  cases b with
  | false =>
    go_wp2
    go_ret
    exact ⟨rfl, Below.refl _ _⟩
  | true =>
  have hsz : [58].length ≤ 1048576 := by
    decide
  clear hb HP
  go_wp2_with fail
  refine (tokAppend (.slice none 0 0) 0 [] 12 _ w.heap.size w ⟨rfl, .inl ⟨rfl, rfl⟩⟩ (Nat.le_refl _) (by omega)).mono ?_
  rintro e w1 ⟨⟨g1, c1, rfl, ho1⟩, hb1⟩
  have HO1 := Lib.hid ho1
  have HB1 := Lib.hid hb1
  clear ho1 hb1
  go_wp2_with fail
  refine (tokAppend _ 1 _ 36 _ w.heap.size w1 HO1.out HB1.out.size (by omega)).mono ?_
  rintro e w2 ⟨⟨g, cap, rfl, ho2⟩, hb2⟩
  have HT2 : Hid (OpTok w2 g ⟨#[43, 58]⟩) := Lib.hid (opTok_of (ys := tokVals 36 ⟨#[]⟩) (by simpa using ho2))
  have hg2 : g < w2.heap.size := World.block_lt_of_cell? w2 ⟨g, 0, none⟩ (HT2.out 0 _ rfl)
  have HB2 := Lib.hid (HB1.out.trans hb2)
  clear ho2 hb2 HO1 HB1
  go_wp2_with fail
  refine (zzMakePar _ _ _ w2).mono ?_
  rintro e w3 ⟨rfl, hw3⟩
  have hpar : w3.heap[w2.heap.size]? = some (.cells #[.slice (some ⟨g, 0, none⟩) 2 cap, .int .i64 0] 81 (0, 0)) := by rw [← hw3]; exact heap_alloc_new w2 _
  have hb3 : Below w2.heap.size w2 w3 := by rw [← hw3]; exact (Below.refl _ w2).alloc (Nat.le_refl _) _
  have HT3 := Lib.hid (HT2.out.below hb3 hg2)
  have HB3 := Lib.hid (HB2.out.trans (hb3.mono HB2.out.size))
  have HPAR := Lib.hid hpar
  have HF3 : Hid (F.answers w3.tape) := Lib.hid (by rw [HB3.out.tape]; exact HF.out)
  have hsz2 := HB2.out.size
  clear hw3 hpar hb3 HT2 HB2 HF
  go_wp2_with fail
  refine (zzParse F w2.heap.size g cap 43 [58] w3 HF3.out HPAR.out HT3.out hg2 hsz).mono ?_
  rintro e w4 ⟨⟨hA, hcc⟩, hb4⟩
  have HB4 := Lib.hid (HB3.out.trans (hb4.mono hsz2))
  obtain rfl := ans3 hA
  clear hA hb4 HB3 HPAR HT3 HF3
  go_wp2_with fail
  refine (zzCurr _ 1 _ hcc).mono ?_
  rintro e w5 ⟨rfl, rfl⟩
  go_wp2
  go_ret
  exact ⟨rfl, HB4.out⟩

set_option maxHeartbeats 1600000 in
set_option maxRecDepth 100000 in
theorem walk_4 (F : Interp) (w : World) (hF : F.answers w.tape) (h : (⟨#[43, 58, 58]⟩ : ByteArray).size ≤ maxLen) :
    Calls Tryf.prog 5 #[.string ⟨#[43, 58, 58]⟩] w fun e w' => e = .returned (.bool true) ∧ Below w.heap.size w w' := by
  have HF := Lib.hid hF
  have HP := Lib.hid (poBytes ⟨#[43, 58, 58]⟩ w h)
  have t0 : ((⟨#[43, 58, 58]⟩ : ByteArray).toList == [58]) = false := by decide +kernel
  have t1 : ((⟨#[43, 58, 58]⟩ : ByteArray).toList == [58, 58]) = false := by decide +kernel
  have t2 : ((⟨#[43, 58, 58]⟩ : ByteArray).toList == [58, 58, 58]) = false := by decide +kernel
  have t3 : ((⟨#[43, 58, 58]⟩ : ByteArray).toList == [43, 58]) = false := by decide +kernel
  have t4 : ((⟨#[43, 58, 58]⟩ : ByteArray).toList == [43, 58, 58]) = true := by decide +kernel
  have t5 : ((⟨#[43, 58, 58]⟩ : ByteArray).toList == [43, 58, 58, 58]) = false := by decide +kernel
  clear hF h
  go_enter Tryf.func5, Tryf.ntmps5
  go_wp2_with fail
  refine HP.out.mono ?_
  rintro e w' ⟨⟨b, rfl, hb⟩, rfl⟩
  cases b with
  | false =>
    go_wp2
    go_ret
    exact ⟨rfl, Below.refl _ _⟩
  | true =>
  have hsz : [58, 58].length ≤ 1048576 := by
    decide
  clear hb HP
  go_wp2_with fail
  refine (tokAppend (.slice none 0 0) 0 [] 12 _ w.heap.size w ⟨rfl, .inl ⟨rfl, rfl⟩⟩ (Nat.le_refl _) (by omega)).mono ?_
  rintro e w1 ⟨⟨g1, c1, rfl, ho1⟩, hb1⟩
  have HO1 := Lib.hid ho1
  have HB1 := Lib.hid hb1
  clear ho1 hb1
  go_wp2_with fail
  refine (tokAppend _ 1 _ 36 _ w.heap.size w1 HO1.out HB1.out.size (by omega)).mono ?_
  rintro e w2 ⟨⟨g, cap, rfl, ho2⟩, hb2⟩
  have HT2 : Hid (OpTok w2 g ⟨#[43, 58, 58]⟩) := Lib.hid (opTok_of (ys := tokVals 36 ⟨#[]⟩) (by simpa using ho2))
  have hg2 : g < w2.heap.size := World.block_lt_of_cell? w2 ⟨g, 0, none⟩ (HT2.out 0 _ rfl)
  have HB2 := Lib.hid (HB1.out.trans hb2)
  clear ho2 hb2 HO1 HB1
  go_wp2_with fail
  refine (zzMakePar _ _ _ w2).mono ?_
  rintro e w3 ⟨rfl, hw3⟩
  have hpar : w3.heap[w2.heap.size]? = some (.cells #[.slice (some ⟨g, 0, none⟩) 2 cap, .int .i64 0] 81 (0, 0)) := by rw [← hw3]; exact heap_alloc_new w2 _
  have hb3 : Below w2.heap.size w2 w3 := by rw [← hw3]; exact (Below.refl _ w2).alloc (Nat.le_refl _) _
  have HT3 := Lib.hid (HT2.out.below hb3 hg2)
  have HB3 := Lib.hid (HB2.out.trans (hb3.mono HB2.out.size))
  have HPAR := Lib.hid hpar
  have HF3 : Hid (F.answers w3.tape) := Lib.hid (by rw [HB3.out.tape]; exact HF.out)
  have hsz2 := HB2.out.size
  clear hw3 hpar hb3 HT2 HB2 HF
  go_wp2_with fail
  refine (zzParse F w2.heap.size g cap 43 [58, 58] w3 HF3.out HPAR.out HT3.out hg2 hsz).mono ?_
  rintro e w4 ⟨⟨hA, hcc⟩, hb4⟩
  have HB4 := Lib.hid (HB3.out.trans (hb4.mono hsz2))
  obtain rfl := ans4 hA
  clear hA hb4 HB3 HPAR HT3 HF3
  go_wp2_with fail
  refine (zzCurr _ 1 _ hcc).mono ?_
  rintro e w5 ⟨rfl, rfl⟩
  go_wp2
  go_ret
  exact ⟨rfl, HB4.out⟩

set_option maxHeartbeats 1600000 in
set_option maxRecDepth 100000 in
theorem walk_5 (F : Interp) (w : World) (hF : F.answers w.tape) (h : (⟨#[43, 58, 58, 58]⟩ : ByteArray).size ≤ maxLen) :
    Calls Tryf.prog 5 #[.string ⟨#[43, 58, 58, 58]⟩] w fun e w' => e = .returned (.bool true) ∧ Below w.heap.size w w' := by
  have HF := Lib.hid hF
  have HP := Lib.hid (poBytes ⟨#[43, 58, 58, 58]⟩ w h)
  have t0 : ((⟨#[43, 58, 58, 58]⟩ : ByteArray).toList == [58]) = false := by decide +kernel
  have t1 : ((⟨#[43, 58, 58, 58]⟩ : ByteArray).toList == [58, 58]) = false := by decide +kernel
  have t2 : ((⟨#[43, 58, 58, 58]⟩ : ByteArray).toList == [58, 58, 58]) = false := by decide +kernel
  have t3 : ((⟨#[43, 58, 58, 58]⟩ : ByteArray).toList == [43, 58]) = false := by decide +kernel
  have t4 : ((⟨#[43, 58, 58, 58]⟩ : ByteArray).toList == [43, 58, 58]) = false := by decide +kernel
  have t5 : ((⟨#[43, 58, 58, 58]⟩ : ByteArray).toList == [43, 58, 58, 58]) = true := by decide +kernel
  clear hF h
  go_enter Tryf.func5, Tryf.ntmps5
  go_wp2_with fail
  refine HP.out.mono ?_
  rintro e w' ⟨⟨b, rfl, hb⟩, rfl⟩
  cases b with
  | false =>
    go_wp2
    go_ret
    exact ⟨rfl, Below.refl _ _⟩
  | true =>
  have hsz : [58, 58, 58].length ≤ 1048576 := by
    decide
  clear hb HP
  go_wp2_with fail
  refine (tokAppend (.slice none 0 0) 0 [] 12 _ w.heap.size w ⟨rfl, .inl ⟨rfl, rfl⟩⟩ (Nat.le_refl _) (by omega)).mono ?_
  rintro e w1 ⟨⟨g1, c1, rfl, ho1⟩, hb1⟩
  have HO1 := Lib.hid ho1
  have HB1 := Lib.hid hb1
  clear ho1 hb1
  go_wp2_with fail
  refine (tokAppend _ 1 _ 36 _ w.heap.size w1 HO1.out HB1.out.size (by omega)).mono ?_
  rintro e w2 ⟨⟨g, cap, rfl, ho2⟩, hb2⟩
  have HT2 : Hid (OpTok w2 g ⟨#[43, 58, 58, 58]⟩) := Lib.hid (opTok_of (ys := tokVals 36 ⟨#[]⟩) (by simpa using ho2))
  have hg2 : g < w2.heap.size := World.block_lt_of_cell? w2 ⟨g, 0, none⟩ (HT2.out 0 _ rfl)
  have HB2 := Lib.hid (HB1.out.trans hb2)
  clear ho2 hb2 HO1 HB1
  go_wp2_with fail
  refine (zzMakePar _ _ _ w2).mono ?_
  rintro e w3 ⟨rfl, hw3⟩
  have hpar : w3.heap[w2.heap.size]? = some (.cells #[.slice (some ⟨g, 0, none⟩) 2 cap, .int .i64 0] 81 (0, 0)) := by rw [← hw3]; exact heap_alloc_new w2 _
  have hb3 : Below w2.heap.size w2 w3 := by rw [← hw3]; exact (Below.refl _ w2).alloc (Nat.le_refl _) _
  have HT3 := Lib.hid (HT2.out.below hb3 hg2)
  have HB3 := Lib.hid (HB2.out.trans (hb3.mono HB2.out.size))
  have HPAR := Lib.hid hpar
  have HF3 : Hid (F.answers w3.tape) := Lib.hid (by rw [HB3.out.tape]; exact HF.out)
  have hsz2 := HB2.out.size
  clear hw3 hpar hb3 HT2 HB2 HF
  go_wp2_with fail
  refine (zzParse F w2.heap.size g cap 43 [58, 58, 58] w3 HF3.out HPAR.out HT3.out hg2 hsz).mono ?_
  rintro e w4 ⟨⟨hA, hcc⟩, hb4⟩
  have HB4 := Lib.hid (HB3.out.trans (hb4.mono hsz2))
  obtain rfl := ans5 hA
  clear hA hb4 HB3 HPAR HT3 HF3
  go_wp2_with fail
  refine (zzCurr _ 1 _ hcc).mono ?_
  rintro e w5 ⟨rfl, rfl⟩
  go_wp2
  go_ret
  exact ⟨rfl, HB4.out⟩

set_option maxHeartbeats 1600000 in
set_option maxRecDepth 100000 in
theorem walk_nc (F : Interp) (op : ByteArray) (c : UInt8) (r : List UInt8) (w : World) (hF : F.answers w.tape) (h : op.size ≤ maxLen) (t0 : (op.toList == [58]) = false) (t1 : (op.toList == [58, 58]) = false) (t2 : (op.toList == [58, 58, 58]) = false) (t3 : (op.toList == [43, 58]) = false) (t4 : (op.toList == [43, 58, 58]) = false) (t5 : (op.toList == [43, 58, 58, 58]) = false) (s1 : 1 ≤ op.size) (hop : op = ⟨(c :: r).toArray⟩) (HN : Hid (∀ e, Ans (c :: r) e → ∃ p hh v, e = .returned (.tuple #[.slice none 0 0, .bool p, .int .i64 hh, .iface 111 v]))) :
    Calls Tryf.prog 5 #[.string op] w fun e w' => e = .returned (.bool true) ∧ Below w.heap.size w w' := by
  have HF := Lib.hid hF
  have HP := Lib.hid (poBytes op w h)
  have HOP := Lib.hid hop
  have hsr : Hid (op.size = r.length + 1) := Lib.hid (by rw [hop]; rfl)
  clear hop
  clear hF h
  go_enter Tryf.func5, Tryf.ntmps5
  go_wp2_with fail
  refine HP.out.mono ?_
  rintro e w' ⟨⟨b, rfl, hb⟩, rfl⟩
  cases b with
  | false =>
    go_wp2
    go_ret
    exact ⟨rfl, Below.refl _ _⟩
  | true =>
  have hsz : r.length ≤ 1048576 := by
    have h0 : op.size ≤ 1048576 := hb rfl
    have h1 := hsr.out
    omega
  have s2 : op.size ≤ 1048576 := hb rfl
  clear hb HP
  go_wp2_with fail
  refine (tokAppend (.slice none 0 0) 0 [] 12 _ w.heap.size w ⟨rfl, .inl ⟨rfl, rfl⟩⟩ (Nat.le_refl _) (by omega)).mono ?_
  rintro e w1 ⟨⟨g1, c1, rfl, ho1⟩, hb1⟩
  have HO1 := Lib.hid ho1
  have HB1 := Lib.hid hb1
  clear ho1 hb1
  go_wp2_with fail
  refine (tokAppend _ 1 _ 36 _ w.heap.size w1 HO1.out HB1.out.size (by omega)).mono ?_
  rintro e w2 ⟨⟨g, cap, rfl, ho2⟩, hb2⟩
  have HT2 : Hid (OpTok w2 g op) := Lib.hid (opTok_of (ys := tokVals 36 ⟨#[]⟩) (by simpa using ho2))
  have hg2 : g < w2.heap.size := World.block_lt_of_cell? w2 ⟨g, 0, none⟩ (HT2.out 0 _ rfl)
  have HB2 := Lib.hid (HB1.out.trans hb2)
  clear ho2 hb2 HO1 HB1
  go_wp2_with fail
  refine (zzMakePar _ _ _ w2).mono ?_
  rintro e w3 ⟨rfl, hw3⟩
  have hpar : w3.heap[w2.heap.size]? = some (.cells #[.slice (some ⟨g, 0, none⟩) 2 cap, .int .i64 0] 81 (0, 0)) := by rw [← hw3]; exact heap_alloc_new w2 _
  have hb3 : Below w2.heap.size w2 w3 := by rw [← hw3]; exact (Below.refl _ w2).alloc (Nat.le_refl _) _
  have HT3 := Lib.hid (HT2.out.below hb3 hg2)
  have HB3 := Lib.hid (HB2.out.trans (hb3.mono HB2.out.size))
  have HPAR := Lib.hid hpar
  have HF3 : Hid (F.answers w3.tape) := Lib.hid (by rw [HB3.out.tape]; exact HF.out)
  have hsz2 := HB2.out.size
  clear hw3 hpar hb3 HT2 HB2 HF
  go_wp2_with fail
  refine (zzParse F w2.heap.size g cap c r w3 HF3.out HPAR.out (by rw [← HOP.out]; exact HT3.out) hg2 hsz).mono ?_
  rintro e w4 ⟨⟨hA, hcc⟩, hb4⟩
  have HB4 := Lib.hid (HB3.out.trans (hb4.mono hsz2))
  obtain ⟨pp, hh, v, rfl⟩ := HN.out _ hA
  clear hA hb4 HB3 HPAR HT3 HF3
  go_wp2_with fail
  refine (zzCurr _ 1 _ hcc).mono ?_
  rintro e w5 ⟨rfl, rfl⟩
  go_wp2
  go_ret
  exact ⟨rfl, HB4.out⟩

theorem walk_n (F : Interp) (c : UInt8) (r : List UInt8) (w : World) (hF : F.answers w.tape) (h : (⟨(c :: r).toArray⟩ : ByteArray).size ≤ maxLen) (n0 : c :: r ≠ [58]) (n1 : c :: r ≠ [58, 58]) (n2 : c :: r ≠ [58, 58, 58]) (n3 : c :: r ≠ [43, 58]) (n4 : c :: r ≠ [43, 58, 58]) (n5 : c :: r ≠ [43, 58, 58, 58]) :
    Calls Tryf.prog 5 #[.string ⟨(c :: r).toArray⟩] w fun e w' => e = .returned (.bool true) ∧ Below w.heap.size w w' :=
  walk_nc F _ c r w hF h (ne_text n0) (ne_text n1) (ne_text n2) (ne_text n3) (ne_text n4) (ne_text n5) (Nat.succ_le_succ (Nat.zero_le _)) rfl (Lib.hid (fun _e hA => ansN hA n0 n1 n2 n3 n4 n5))

set_option maxRecDepth 100000 in
theorem walk (F : Interp) (op : ByteArray) (w : World) (hF : F.answers w.tape) (h : op.size ≤ maxLen) :
    Calls Tryf.prog 5 #[.string op] w fun e w' => e = .returned (.bool true) ∧ Below w.heap.size w w' := by
  obtain ⟨⟨l⟩⟩ := op
  match l with
  | [] =>
    have HP := Lib.hid (poBytes ⟨#[]⟩ w h)
    clear hF h
    go_enter Tryf.func5, Tryf.ntmps5
    go_wp2_with fail
    refine HP.out.mono ?_
    rintro e w' ⟨⟨b, rfl, hb⟩, rfl⟩
    cases b <;> (go_wp2; go_ret; exact ⟨rfl, Below.refl _ _⟩)
  | c :: r =>
    by_cases n0 : c :: r = [58]
    · rw [n0] at h ⊢
      exact walk_0 F w hF h
    by_cases n1 : c :: r = [58, 58]
    · rw [n1] at h ⊢
      exact walk_1 F w hF h
    by_cases n2 : c :: r = [58, 58, 58]
    · rw [n2] at h ⊢
      exact walk_2 F w hF h
    by_cases n3 : c :: r = [43, 58]
    · rw [n3] at h ⊢
      exact walk_3 F w hF h
    by_cases n4 : c :: r = [43, 58, 58]
    · rw [n4] at h ⊢
      exact walk_4 F w hF h
    by_cases n5 : c :: r = [43, 58, 58, 58]
    · rw [n5] at h ⊢
      exact walk_5 F w hF h
    exact walk_n F c r w hF h n0 n1 n2 n3 n4 n5

end Go.Proofs.YtgdccdhkknbahaaFmt.fnParseObjectAssignmentOpCaseTable
