/-
  GetSnippet: the bytes of the text between two places.
-/
import Derived.Test.YtmieljdnfjpheaaDoorSnipA
import Derived.Lib.BufferRune
namespace Go.Proofs.YtmieljdnfjpheaaDoor
open Go Go.RowKit Go.Shelf

/-- How far the buffer reaches at the head of line q's round. -/
def spos (s : ByteArray) (bl offB el offE q : Nat) : Nat := if q ≤ bl then offB else if q ≤ el then lstart s (q - 1) else offE

/-- What GetSnippet was handed, put in order. -/
structure SnipArgs (s T : ByteArray) (bl bc el ec offB offE : Nat) : Prop where
  lines : TLines s T
  h1 : 1 ≤ bl
  h2 : bl ≤ el
  h3 : el ≤ (srcLines s).length
  h4 : 1 ≤ bc
  h5 : bc ≤ llen s (bl - 1)
  h6 : 1 ≤ ec
  h7 : ec ≤ llen s (el - 1) + 1
  hB : offB = lstart s (bl - 1) + bc - 1
  hE : offE = lstart s (el - 1) + ec - 1

theorem SnipArgs.fit {s T : ByteArray} {bl bc el ec offB offE : Nat} (h : SnipArgs s T bl bc el ec offB offE) {q : Nat} (h1 : bl ≤ q) (h2 : q ≤ el) :
    1 ≤ tcol bl bc q ∧ tcol bl bc q ≤ llen s (q - 1) ∧ tend s el ec q ≤ llen s (q - 1) + 1 ∧ lstart s (q - 1) + llen s (q - 1) ≤ T.size ∧ lstart s q = lstart s (q - 1) + llen s (q - 1) ∧ offB ≤ lstart s (q - 1) + tcol bl bc q - 1 ∧ spos s bl offB el offE q = lstart s (q - 1) + tcol bl bc q - 1 := by
  have hb := h.h1
  have he := h.h3
  have hn := lst_next (s := s) (k := q - 1) (by omega)
  rw [show q - 1 + 1 = q by omega] at hn
  have hle := lst_le h.lines q
  have hpos := llen_pos (s := s) (k := q - 1) (by omega)
  have h4 := h.h4
  have h5 := h.h5
  have h7 := h.h7
  have hB := h.hB
  have e3 : tend s el ec q ≤ llen s (q - 1) + 1 := by
    unfold tend
    by_cases e : el = q
    · rw [if_pos e, ← e]; exact h7
    · rw [if_neg e]; omega
  by_cases hq : bl = q
  · subst hq
    have e1 : tcol bl bc bl = bc := by unfold tcol; rw [if_pos rfl]
    have e2 : spos s bl offB el offE bl = offB := by unfold spos; rw [if_pos (Nat.le_refl _)]
    rw [e1, e2]
    exact ⟨h4, h5, e3, by omega, hn, by omega, hB⟩
  · have e1 : tcol bl bc q = 1 := by unfold tcol; rw [if_neg hq]
    have e2 : spos s bl offB el offE q = lstart s (q - 1) := by unfold spos; rw [if_neg (by omega), if_pos h2]
    rw [e1, e2]
    have hm := lst_mono (s := s) bl (q - 1 - bl) (by omega)
    rw [show bl + (q - 1 - bl) = q - 1 by omega] at hm
    have hn2 := lst_next (s := s) (k := bl - 1) (by omega)
    rw [show bl - 1 + 1 = bl by omega] at hn2
    exact ⟨by omega, by omega, e3, by omega, hn, by omega, by omega⟩
/-- The buffer behind a line. -/
theorem SnipArgs.next {s T : ByteArray} {bl bc el ec offB offE : Nat} (_h : SnipArgs s T bl bc el ec offB offE) {q : Nat} (h1 : bl ≤ q) (h2 : q < el) : spos s bl offB el offE (q + 1) = lstart s q := by
  unfold spos
  rw [if_neg (by omega), if_pos (by omega), Nat.add_sub_cancel]
theorem SnipArgs.last {s T : ByteArray} {bl bc el ec offB offE : Nat} (h : SnipArgs s T bl bc el ec offB offE) {c : Nat} (h1 : tcol bl bc el ≤ c) (h2 : c ≤ max (tcol bl bc el) ec) (h3 : ec ≤ c) : seg T offB (lstart s (el - 1) + c - 1) = seg T offB offE ∧ spos s bl offB el offE (el + 1) = offE := by
  have hf := h.fit h.h2 (Nat.le_refl _)
  have hE := h.hE
  have h6 := h.h6
  have hle := h.h2
  refine ⟨?_, by unfold spos; rw [if_neg (by omega), if_neg (by omega)]⟩
  by_cases hc : c = ec
  · rw [hc, ← hE]
  · have hc2 : c = tcol bl bc el := by omega
    have : bl = el := by
      unfold tcol at hc2 h1 h2
      by_cases e : bl = el
      · exact e
      · rw [if_neg e] at hc2 h1 h2
        omega
    subst this
    have e3 : tcol bl bc bl = bc := by unfold tcol; rw [if_pos rfl]
    have hB := h.hB
    rw [e3] at hc2
    rw [seg_none T (show lstart s (bl - 1) + c - 1 ≤ offB by omega), seg_none T (show offE ≤ offB by omega)]

theorem line_str {s T : ByteArray} (h : TLines s T) {k j : Nat} (hk : k < (srcLines s).length) (hj : j < llen s k) : ∃ t : ByteArray, t = ⟨((srcLines s)[k]).toArray⟩ ∧ t.size = llen s k ∧ ∀ hix : j < t.size, (t[j]'hix).toNat = byteAt T (lstart s k + j) := by
  refine ⟨_, rfl, line_size hk, fun hix => ?_⟩
  rw [(line_byte h hk hj).2]
  rfl

theorem byteCells_snoc (l : List UInt8) (b : UInt8) : Lib.byteCells l ++ [.int .u8 (b.toNat : Int)] = Lib.byteCells (l ++ [b]) := by
  unfold Lib.byteCells
  rw [List.map_append]
  rfl

set_option maxHeartbeats 3200000 in
set_option maxRecDepth 100000 in
theorem getSnippet (s T : ByteArray) (w : World) (B N : Nat) (hS : SrcAt w B N s) (sp : Option Addr) (fn : ByteArray) (bl bc el ec offB offE : Nat) (hA : SnipArgs s T bl bc el ec offB offE) (hTs : T.size ≤ 1000000000) :
    Calls Tryd.prog 16 #[.pointer sp, .agg #[.pointer (some ⟨N, 0, none⟩), .string fn, .int .i64 bl, .int .i64 bc, .int .i64 el, .int .i64 ec]] w fun e w' => e = .returned (.string ⟨(seg T offB offE).toArray⟩) ∧ Below w.heap.size w w' := by
  have hNlt := hS.lt
  have h1 := hA.h1
  have h2 := hA.h2
  have h3 := hA.h3
  have hnn : (srcLines s).length ≤ 1000000000 := by
    have := nlc_lst hA.lines (srcLines s).length (Nat.le_refl _)
    have := nlc_le T (lstart s (srcLines s).length)
    have := lst_le hA.lines (srcLines s).length
    omega
  have hbl0 : ((bl : Int) == 0) = false := beq_eq_false_iff_ne.2 (by omega)
  have HA := Lib.hid hA
  have HS := Lib.hid hS
  clear hA hS
  have hab : Below w.heap.size w ((w.alloc (.cells #[.pointer (some ⟨N, 0, none⟩), .string fn, .int .i64 bl, .int .i64 bc, .int .i64 el, .int .i64 ec] 37)).alloc (.cells #[.slice none 0 0, .int .i64 0, .int .i8 0] 49)) := ((Below.refl _ w).alloc (Nat.le_refl _) _).alloc (by simp) _
  have hfb : Lib.IsBuffer 49 5 (w.heap.size + 1) (w.heap.size + 1) [] ((w.alloc (.cells #[.pointer (some ⟨N, 0, none⟩), .string fn, .int .i64 bl, .int .i64 bc, .int .i64 el, .int .i64 ec] 37)).alloc (.cells #[.slice none 0 0, .int .i64 0, .int .i8 0] 49)) := by
    have := Lib.fresh_isBuffer 49 5 (w.alloc (.cells #[.pointer (some ⟨N, 0, none⟩), .string fn, .int .i64 bl, .int .i64 bc, .int .i64 el, .int .i64 ec] 37))
    simpa using this
  have hbx : ((w.alloc (.cells #[.pointer (some ⟨N, 0, none⟩), .string fn, .int .i64 bl, .int .i64 bc, .int .i64 el, .int .i64 ec] 37)).alloc (.cells #[.slice none 0 0, .int .i64 0, .int .i8 0] 49)).heap[w.heap.size]? = some (.cells #[.pointer (some ⟨N, 0, none⟩), .string fn, .int .i64 bl, .int .i64 bc, .int .i64 el, .int .i64 ec] 37 (0, 0)) := by
    rw [Below.heap_alloc _ _ _ (by simp)]
    exact heap_alloc_new w _
  have HFB := Lib.hid hfb
  have HBX := Lib.hid hbx
  have HAB := Lib.hid hab
  clear hfb hbx hab
  go_enter Tryd.func16, Tryd.ntmps16
  go_wp2
  generalize (w.alloc (.cells #[.pointer (some ⟨N, 0, none⟩), .string fn, .int .i64 bl, .int .i64 bc, .int .i64 el, .int .i64 ec] 37)).alloc (.cells #[.slice none 0 0, .int .i64 0, .int .i8 0] 49) = W1 at HFB HBX HAB
  have hlt1 : w.heap.size < W1.heap.size := (Array.getElem?_eq_some_iff.1 HBX.out).1
  have hlt2 : w.heap.size + 1 < W1.heap.size := HFB.out.lt
  have HS1 := Lib.hid (show SrcAt W1 B N s from HS.out.below HAB.out)
  go_loopw [6] (fun i wr => ∃ q : Nat, bl ≤ q ∧ q ≤ el + 1 ∧ i = .int .i64 q ∧ Hid (Lib.IsBuffer 49 5 (w.heap.size + 1) (w.heap.size + 1) (Lib.byteCells (seg T offB (spos s bl offB el offE q))) wr) ∧ Below (w.heap.size + 1) W1 wr) (fun i _ => el + 1 - (intOf i).toNat)
  case atStart =>
    refine ⟨bl, Nat.le_refl _, by omega, rfl, ?_, Below.refl _ _⟩
    have e : seg T offB (spos s bl offB el offE bl) = [] := by
      unfold spos
      rw [if_pos (Nat.le_refl _)]
      exact seg_none T (Nat.le_refl _)
    rw [e]
    exact HFB
  case round =>
    obtain ⟨q, hq1, hq2, rfl, HBq, hbq⟩ := hrel
    have hszq := hbq.size
    have HBXq := Lib.hid (show wr.heap[w.heap.size]? = some (.cells #[.pointer (some ⟨N, 0, none⟩), .string fn, .int .i64 bl, .int .i64 bc, .int .i64 el, .int .i64 ec] 37 (0, 0)) from (hbq.block _ (by omega)).trans HBX.out)
    have HBwq : Hid (Below w.heap.size w wr) := Lib.hid (HAB.out.trans (hbq.mono (by omega)))
    have HSq := Lib.hid (show SrcAt wr B N s from HS.out.below HBwq.out)
    have c0 : wr.cell? ⟨w.heap.size, 0, none⟩ = some (.pointer (some ⟨N, 0, none⟩)) := (cell_of_row wr _ 0 _ _ _ HBXq.out).trans rfl
    have c1 : wr.cell? ⟨w.heap.size, 1, none⟩ = some (.string fn) := (cell_of_row wr _ 1 _ _ _ HBXq.out).trans rfl
    have c2 : wr.cell? ⟨w.heap.size, 2, none⟩ = some (.int .i64 bl) := (cell_of_row wr _ 2 _ _ _ HBXq.out).trans rfl
    have c3 : wr.cell? ⟨w.heap.size, 3, none⟩ = some (.int .i64 bc) := (cell_of_row wr _ 3 _ _ _ HBXq.out).trans rfl
    have c4 : wr.cell? ⟨w.heap.size, 4, none⟩ = some (.int .i64 el) := (cell_of_row wr _ 4 _ _ _ HBXq.out).trans rfl
    have c5 : wr.cell? ⟨w.heap.size, 5, none⟩ = some (.int .i64 ec) := (cell_of_row wr _ 5 _ _ _ HBXq.out).trans rfl
    by_cases hle : q ≤ el
    · obtain ⟨f1, f2, f3, f4, f5, f6, f7⟩ := HA.out.fit hq1 hle
      go_wp2_with fail
      refine (trim s wr B N HSq.out fn bl bc el ec q hq1 hle (by omega) (by omega) (by omega) (by omega)).mono ?_
      rintro e w2 ⟨rfl, hb2⟩
      obtain ⟨wo, rfl⟩ : ∃ wo : World, wo = wr := ⟨_, rfl⟩
      have hsz2 := hb2.size
      have hB2 := isBuffer_grown HBq.out (grown_of_below (row := none) hb2) (fun g e => by cases e)
      have hB3 := Lib.IsBuffer.alloc hB2 (.cells #[.pointer (some ⟨N, 0, none⟩), .string fn, .int .i64 q, .int .i64 (tcol bl bc q : Nat), .int .i64 q, .int .i64 (tend s el ec q : Nat)] 37)
      have hM3 := heap_alloc_new w2 (.cells #[.pointer (some ⟨N, 0, none⟩), .string fn, .int .i64 q, .int .i64 (tcol bl bc q : Nat), .int .i64 q, .int .i64 (tend s el ec q : Nat)] 37)
      have hb3 : Below (w.heap.size + 1) W1 (w2.alloc (.cells #[.pointer (some ⟨N, 0, none⟩), .string fn, .int .i64 q, .int .i64 (tcol bl bc q : Nat), .int .i64 q, .int .i64 (tend s el ec q : Nat)] 37)) := (hbq.trans (hb2.mono (by omega))).alloc (by omega) _
      have HB3 := Lib.hid hB3
      have HM3 := Lib.hid hM3
      have HBB3 := Lib.hid hb3
      have hMb : w.heap.size + 1 < w2.heap.size := by omega
      clear hB2 hB3 hM3 hb3 hb2 c0 c1 c2 c3 c4 c5 HBq HBXq HBwq HSq hbq
      rw [f7] at HB3
      generalize hC0 : tcol bl bc q = C0 at f1 f2 f6 HB3 HM3 HBB3
      generalize hC1 : tend s el ec q = C1 at f3 HB3 HM3 HBB3
      have HC0 := Lib.hid hC0
      have HC1 := Lib.hid hC1
      clear hC0 hC1 f7
      go_wp2
      generalize w2.alloc (.cells #[.pointer (some ⟨N, 0, none⟩), .string fn, .int .i64 q, .int .i64 (C0 : Nat), .int .i64 q, .int .i64 (C1 : Nat)] 37) = W3 at HB3 HM3 HBB3
      generalize w2.heap.size = M at HM3 hMb
      go_loopw [8] (fun j wr => ∃ c : Nat, C0 ≤ c ∧ c ≤ max C0 C1 ∧ j = .int .i64 c ∧ Hid (Lib.IsBuffer 49 5 (w.heap.size + 1) (w.heap.size + 1) (Lib.byteCells (seg T offB (lstart s (q - 1) + c - 1))) wr) ∧ Below (w.heap.size + 1) W1 wr ∧ Hid (wr.heap[M]? = some (.cells #[.pointer (some ⟨N, 0, none⟩), .string fn, .int .i64 q, .int .i64 (C0 : Nat), .int .i64 q, .int .i64 (C1 : Nat)] 37 (0, 0)))) (fun j _ => C1 - (intOf j).toNat)
      case atStart => exact ⟨C0, Nat.le_refl _, by omega, rfl, HB3, HBB3.out, HM3⟩
      case round =>
        obtain ⟨c, hc1, hc2, rfl, HBc, hbc, HMc⟩ := hrel
        have hszc := hbc.size
        have HBXc := Lib.hid (show wr.heap[w.heap.size]? = some (.cells #[.pointer (some ⟨N, 0, none⟩), .string fn, .int .i64 bl, .int .i64 bc, .int .i64 el, .int .i64 ec] 37 (0, 0)) from (hbc.block _ (by omega)).trans HBX.out)
        have HBwc : Hid (Below w.heap.size w wr) := Lib.hid (HAB.out.trans (hbc.mono (by omega)))
        have hSc : SrcAt wr B N s := HS.out.below HBwc.out
        have c0 : wr.cell? ⟨w.heap.size, 0, none⟩ = some (.pointer (some ⟨N, 0, none⟩)) := (cell_of_row wr _ 0 _ _ _ HBXc.out).trans rfl
        have c4 : wr.cell? ⟨w.heap.size, 4, none⟩ = some (.int .i64 el) := (cell_of_row wr _ 4 _ _ _ HBXc.out).trans rfl
        have m5 : wr.cell? ⟨M, 5, none⟩ = some (.int .i64 C1) := (cell_of_row wr _ 5 _ _ _ HMc.out).trans rfl
        have hlim : (Lib.byteCells (seg T offB (lstart s (q - 1) + c - 1))).length + 1 ≤ 140737488355328 := by rw [Lib.byteCells_length]; have := seg_length T offB (lstart s (q - 1) + c - 1); omega
        have HLIM := Lib.hid hlim
        clear hlim
        by_cases hcc : c < C1
        · obtain ⟨g, cap, hglt, hn1, hck⟩ := hSc.lines
          have hcl := hck (q - 1) (by omega)
          obtain ⟨t, ht, hsz, hbv0⟩ := line_str HA.out.lines (k := q - 1) (j := c - 1) (by omega) (by omega)
          rw [← ht] at hcl
          have hix : c - 1 < t.size := by omega
          have hbv := hbv0 hix
          have hbyte := line_byte HA.out.lines (k := q - 1) (j := c - 1) (by omega) (by omega)
          have hps : lstart s (q - 1) + (c - 1) < T.size := hbyte.1
          have hsn := seg_snoc T (a := offB) (b := lstart s (q - 1) + (c - 1)) (by omega) hps
          have hbb := byte_of_get T _ hps
          have hnew : Lib.byteCells (seg T offB (lstart s (q - 1) + c - 1)) ++ [.int .u8 ((t[c - 1]'hix).toNat : Int)] = Lib.byteCells (seg T offB (lstart s (q - 1) + (c + 1) - 1)) := by
            rw [show lstart s (q - 1) + (c + 1) - 1 = lstart s (q - 1) + (c - 1) + 1 by omega, hsn, ← byteCells_snoc, show lstart s (q - 1) + c - 1 = lstart s (q - 1) + (c - 1) by omega, hbb, hbv]
          have HNEW := Lib.hid hnew
          have q3 : (0 : Int) ≤ (q : Int) - 1 := by omega
          have q4 : (q : Int) - 1 < ((srcLines s).length : Int) := by omega
          have q5 : (0 : Int) ≤ (c : Int) - 1 := by omega
          have q6 : (c : Int) - 1 < (t.size : Int) := by omega
          clear hck hsz hbyte hbv hbv0 ht hps hsn hbb hnew hSc
          go_wp2_with fail
          refine (Tryd.Buffer_WriteByte_k (w.heap.size + 1) (w.heap.size + 1) _ _ _ HBc.out (by omega) (Lib.byteCells_one _) HLIM.out).mono ?_
          rintro e w4 ⟨rfl, hB4, hb4, hk4⟩
          rw [HNEW.out] at hB4
          have hM4 := hk4 M _ HMc.out (fun e1 => by cases e1; omega) (fun c2 fz2 e2 => by cases e2)
          have HB4 := Lib.hid hB4
          have HM4 := Lib.hid hM4
          clear hB4 hM4 hk4
          go_wp2
          go_roundw
          case rel => exact ⟨c + 1, by omega, by omega, by go_num, HB4, hbc.trans hb4, HM4⟩
          case measure => first | (simp [intOf]; done) | (simp [intOf]; omega)
        · clear hSc
          by_cases hqe : q = el
          · subst hqe
            have e4 : C1 = ec := by rw [← HC1.out]; unfold tend; rw [if_pos rfl]
            obtain ⟨l1, l2⟩ := HA.out.last (c := c) (by rw [HC0.out]; exact hc1) (by rw [HC0.out, ← e4]; exact hc2) (by omega)
            have L1 := Lib.hid l1
            have L2 := Lib.hid l2
            clear e4 l1 l2
            go_wp2
            go_roundw
            case rel => exact ⟨q + 1, by omega, by omega, by go_num, by rw [L2.out, ← L1.out]; exact HBc, hbc⟩
            case measure => first | (simp [intOf]; done) | (simp [intOf]; omega)
          · have hne : ((q : Int) != (el : Int)) = true := bne_iff_ne.2 (by omega)
            have e4 : C1 = llen s (q - 1) := by rw [← HC1.out]; unfold tend; rw [if_neg (by omega)]
            have hcl : c = llen s (q - 1) := by omega
            have hps : lstart s (q - 1) + (llen s (q - 1) - 1) < T.size := by omega
            have hnl := (line_last HA.out.lines (k := q - 1) (j := llen s (q - 1) - 1) (by omega) (by omega)).2 (by omega)
            have hsn := seg_snoc T (a := offB) (b := lstart s (q - 1) + (llen s (q - 1) - 1)) (by omega) hps
            have hbb := byte_of_get T _ hps
            have hnew : Lib.byteCells (seg T offB (lstart s (q - 1) + c - 1)) ++ [.int .u8 10] = Lib.byteCells (seg T offB (spos s bl offB el offE (q + 1))) := by
              rw [HA.out.next hq1 (by omega), f5, show lstart s (q - 1) + llen s (q - 1) = lstart s (q - 1) + (llen s (q - 1) - 1) + 1 by omega, hsn, ← byteCells_snoc, hbb, hnl, hcl, show lstart s (q - 1) + llen s (q - 1) - 1 = lstart s (q - 1) + (llen s (q - 1) - 1) by omega]
              rfl
            have HNEW := Lib.hid hnew
            clear e4 hcl hps hnl hsn hbb hnew
            go_wp2_with fail
            refine (Tryd.Buffer_WriteByte_k (w.heap.size + 1) (w.heap.size + 1) _ _ _ HBc.out (by omega) (Lib.byteCells_one _) HLIM.out).mono ?_
            rintro e w4 ⟨rfl, hB4, hb4, hk4⟩
            rw [HNEW.out] at hB4
            have HB4 := Lib.hid hB4
            clear hB4 hk4
            go_wp2
            go_roundw
            case rel => exact ⟨q + 1, by omega, by omega, by go_num, HB4, hbc.trans hb4⟩
            case measure => first | (simp [intOf]; done) | (simp [intOf]; omega)
    · obtain rfl : q = el + 1 := by omega
      have e5 : spos s bl offB el offE (el + 1) = offE := by unfold spos; rw [if_neg (by omega), if_neg (by omega)]
      rw [e5] at HBq
      have hle2 : decide ((el : Int) + 1 ≤ (el : Int)) = false := decide_eq_false (by omega)
      clear e5
      go_wp2_with fail
      refine (Tryd.Buffer_String (w.heap.size + 1) (w.heap.size + 1) _ _ HBq.out).mono ?_
      rintro e w5 ⟨rfl, n5, rfl⟩
      go_wp2
      go_ret
      exact ⟨rfl, drewN_below HBwq.out _⟩

end Go.Proofs.YtmieljdnfjpheaaDoor
