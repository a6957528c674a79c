/-
  zzLineStart, zzLineLen, trimToLine, GetSnippet.
-/
import Derived.Test.YtmieljdnfjpheaaDoorSnipP
import Derived.Test.YtmieljdnfjpheaaDoorBuildSource
import Derived.Laws.ResultCell
import Derived.Laws.OwnMore
import Derived.Deep.AppendLies
namespace Go.Proofs.YtmieljdnfjpheaaDoor
open Go Go.RowKit Go.Shelf

set_option maxHeartbeats 800000 in
theorem lineStart {s T : ByteArray} (h : TLines s T) (hT : T.size ≤ 1099511627775) (k : Nat) (hk : k ≤ (srcLines s).length) (z : Int) (hz : z = (k : Int) + 1) (w : World) :
    Calls Tryd.prog 17 #[.string T, .int .i64 z] w fun e w' => e = .returned (.int .i64 (lstart s k : Int)) ∧ w = w' := by
  have hnn := nlc_le T T.size
  rcases Nat.eq_zero_or_pos k with h0 | h0
  · subst h0
    have hz1 : z ≤ 1 := by omega
    clear hz
    go_enter Tryd.func17, Tryd.ntmps17
    go_wp2
    go_ret
    exact ⟨rfl, rfl⟩
  obtain ⟨j, rfl⟩ : ∃ j, k = j + 1 := ⟨k - 1, by omega⟩
  obtain ⟨hE1, hE2⟩ := nl_ahead h hk
  have hE3 := lst_le h (j + 1)
  have hE4 := nlc_lst h (j + 1) hk
  have HB := Lib.hid (fun p hp => nlc_before h (k := j) (p := p) hk hp)
  generalize hE : lstart s (j + 1) = E at hE1 hE2 hE3 hE4 HB
  have HE2 := Lib.hid hE2
  have HE4 := Lib.hid hE4
  have hz1 : ¬ z ≤ 1 := by omega
  have hz2 : z - 1 = (j : Int) + 1 := by omega
  have HZ := Lib.hid hz
  have hzl : (2 : Int) ≤ z := by omega
  have hjl : j ≤ 1099511627775 := by
    have := nlc_le T E
    omega
  have hzu : z ≤ 1099511627777 := by omega
  clear hE hE2 hE4 hz hz2 hnn
  go_enter Tryd.func17, Tryd.ntmps17
  go_wp2
  go_loop [5, 6] (fun c i => ∃ p : Nat, p < E ∧ i = .int .i64 p ∧ c = .int .i64 (nlc T p : Int)) (fun _ i => E - (intOf i).toNat)
  case atStart => exact ⟨0, by omega, rfl, rfl⟩
  case round =>
    obtain ⟨p, hp, rfl, rfl⟩ := hrel
    have hps : p < T.size := by omega
    have hb0 := byte_of_get T p hps
    have hn := HB.out p hp
    by_cases h10 : byteAt T p = 10
    · have e1 := nlc_nl h10
      have hB : (((T[p]'hps).toNat : Int) == 10) = true := beq_iff_eq.2 (by omega)
      by_cases hlast : p + 1 = E
      · have hq : ((nlc T p : Int) + 1 == z - 1) = true := beq_iff_eq.2 (by
          have a1 := HE4.out
          rw [← hlast, e1] at a1
          have := HZ.out
          omega)
        have HL := Lib.hid hlast
        clear e1 h10 hb0 hlast
        go_wp2
        go_ret
        rw [← HL.out]
        exact ⟨by go_num, rfl⟩
      · have hq : ((nlc T p : Int) + 1 == z - 1) = false := beq_eq_false_iff_ne.2 (by
          have a1 := HB.out (p + 1) (by omega)
          rw [e1] at a1
          have := HZ.out
          omega)
        have E1 := Lib.hid e1
        clear e1 h10 hb0
        go_wp2
        go_round
        case rel => exact ⟨p + 1, by omega, by go_num, by rw [E1.out]; go_num⟩
        case measure => simp [intOf]; omega
    · have e1 := nlc_no h10
      have hB : (((T[p]'hps).toNat : Int) == 10) = false := beq_eq_false_iff_ne.2 (by omega)
      have hlast : p + 1 ≠ E := fun e2 => h10 (by have := HE2.out; rw [← e2, Nat.add_sub_cancel] at this; exact this)
      have hp2 : p + 1 < E := by omega
      have E1 := Lib.hid e1
      clear e1 h10 hb0 hlast
      go_wp2
      go_round
      case rel => exact ⟨p + 1, hp2, by go_num, by rw [E1.out]⟩
      case measure => simp [intOf]; omega

theorem lineLen {s T : ByteArray} (h : TLines s T) (hT : T.size ≤ 1099511627775) (k : Nat) (hk : k < (srcLines s).length) (z : Int) (hz : z = (k : Int) + 1) (w : World) :
    Calls Tryd.prog 14 #[.string T, .int .i64 z] w fun e w' => e = .returned (.int .i64 (llen s k : Int)) ∧ w = w' := by
  have h1 := lst_le h (k + 1)
  have h2 := lst_next hk
  have h3 := lst_le h k
  have hk2 : k ≤ 1099511627776 := by
    have := nlc_lst h k (by omega)
    have := nlc_le T (lstart s k)
    omega
  have H2 := Lib.hid h2
  have HZ := Lib.hid hz
  have hz0 : 1 ≤ z := by omega
  have hz1 : z ≤ 1099511627778 := by omega
  clear h2 hz
  go_enter Tryd.func14, Tryd.ntmps14
  go_wp2_with fail
  refine (lineStart h hT (k + 1) hk _ (by have := HZ.out; omega) _).mono ?_
  rintro e w' ⟨rfl, rfl⟩
  go_wp2_with fail
  refine (lineStart h hT k (by omega) _ (by have := HZ.out; omega) _).mono ?_
  rintro e w' ⟨rfl, rfl⟩
  have h4 : (lstart s (k + 1) : Int) - lstart s k = llen s k := by have := H2.out; omega
  have H4 := Lib.hid h4
  clear h4
  go_wp2
  go_ret
  exact ⟨by rw [H4.out]; rfl, rfl⟩

/-- A Source in memory: its lines. -/
def SrcAt (w : World) (B N : Nat) (s : ByteArray) : Prop := ∃ d g cap, w.heap[N]? = some (.cells #[.string d, .slice (some ⟨g, 0, none⟩) (srcLines s).length cap] 41 (0, 0)) ∧ w.ownsRow B 9 1 (.slice (some ⟨g, 0, none⟩) (srcLines s).length cap) (srcLines s).length ((srcLines s).map strV)
theorem SrcAt.below {w w' : World} {B N : Nat} {s : ByteArray} (h : SrcAt w B N s) (hb : Below w.heap.size w w') : SrcAt w' B N s := by
  obtain ⟨d, g, cap, h1, h2⟩ := h
  refine ⟨d, g, cap, (hb.block N (Array.getElem?_eq_some_iff.1 h1).1).trans h1, ownsRow_same h2 fun g' hg' => ?_⟩
  obtain ⟨c, fz, hc⟩ := Lib.ownsRow_kind h2 g' hg'
  exact hb.block g' (Array.getElem?_eq_some_iff.1 hc).1
theorem SrcAt.lt {w : World} {B N : Nat} {s : ByteArray} (h : SrcAt w B N s) : N < w.heap.size := by
  obtain ⟨d, g, cap, h1, h2⟩ := h
  exact (Array.getElem?_eq_some_iff.1 h1).1
theorem SrcAt.lines {w : World} {B N : Nat} {s : ByteArray} (h : SrcAt w B N s) : ∃ g cap, g < w.heap.size ∧ w.cell? ⟨N, 1, none⟩ = some (.slice (some ⟨g, 0, none⟩) (srcLines s).length cap) ∧ ∀ k (hk : k < (srcLines s).length), w.cell? ⟨g, k, none⟩ = some (.string ⟨((srcLines s)[k]).toArray⟩) := by
  obtain ⟨d, g, cap, h1, h2⟩ := h
  refine ⟨g, cap, ?_, (cell_of_row w N 1 _ _ _ h1).trans rfl, fun k hk => ?_⟩
  · obtain ⟨c, fz, hc⟩ := Lib.ownsRow_kind h2 g rfl
    exact (Array.getElem?_eq_some_iff.1 hc).1
  · rw [h2.cellAt k (by omega), List.getElem?_map, List.getElem?_eq_getElem hk]
    rfl

/-- trimToLine's columns. -/
def tcol (bl bc line : Nat) : Nat := if bl = line then bc else 1
def tend (s : ByteArray) (el ec line : Nat) : Nat := if el = line then ec else llen s (line - 1)
theorem line_size {s : ByteArray} {k : Nat} (hk : k < (srcLines s).length) : (⟨((srcLines s)[k]).toArray⟩ : ByteArray).size = llen s k := by
  rw [llen_eq hk]
  exact List.size_toArray

set_option maxHeartbeats 800000 in
set_option maxRecDepth 100000 in
theorem trim_ee (s : ByteArray) (w : World) (B N : Nat) (hS : SrcAt w B N s) (fn : ByteArray) (bl bc el ec line : Nat) (hbl : bl = line) (hel : el = line) (h3 : 1 ≤ line) (h4 : line ≤ (srcLines s).length) (_hn : (srcLines s).length ≤ 1099511627775) (hbig : el ≤ 1099511627775) :
    Calls Tryd.prog 29 #[.agg #[.pointer (some ⟨N, 0, none⟩), .string fn, .int .i64 bl, .int .i64 bc, .int .i64 el, .int .i64 ec], .int .i64 line] w fun e w' => e = .returned (.agg #[.pointer (some ⟨N, 0, none⟩), .string fn, .int .i64 line, .int .i64 (tcol bl bc line : Nat), .int .i64 line, .int .i64 (tend s el ec line : Nat)]) ∧ Below w.heap.size w w' := by
  have hNlt := hS.lt
  obtain ⟨g, cap, hglt, hc1, hck⟩ := hS.lines
  have hcl := hck (line - 1) (by omega)
  have hsz := line_size (s := s) (k := line - 1) (by omega)
  generalize hL : (⟨((srcLines s)[line - 1]'(by omega)).toArray⟩ : ByteArray) = t at hcl hsz
  clear hck hS hL
  subst hbl
  subst hel
  have e1 : tcol el bc el = bc := by unfold tcol; rw [if_pos rfl]
  have e2 : tend s el ec el = ec := by unfold tend; rw [if_pos rfl]
  rw [e1, e2]
  clear e1 e2
  clear hsz
  go_enter Tryd.func29, Tryd.ntmps29
  go_wp2
  exact bodyPost_ret (v := .agg #[.pointer (some ⟨N, 0, none⟩), .string fn, .int .i64 el, .int .i64 (bc : Nat), .int .i64 el, .int .i64 (ec : Nat)]) (by simp [results, Tryd.results29, go_sem]) rfl ⟨rfl, ((Below.refl _ _).alloc (Nat.le_refl _) _).alloc (by simp) _⟩

set_option maxHeartbeats 800000 in
set_option maxRecDepth 100000 in
theorem trim_en (s : ByteArray) (w : World) (B N : Nat) (hS : SrcAt w B N s) (fn : ByteArray) (bl bc el ec line : Nat) (hbl : bl = line) (hel : line < el) (h3 : 1 ≤ line) (h4 : line ≤ (srcLines s).length) (hn : (srcLines s).length ≤ 1099511627775) (_hbig : el ≤ 1099511627775) :
    Calls Tryd.prog 29 #[.agg #[.pointer (some ⟨N, 0, none⟩), .string fn, .int .i64 bl, .int .i64 bc, .int .i64 el, .int .i64 ec], .int .i64 line] w fun e w' => e = .returned (.agg #[.pointer (some ⟨N, 0, none⟩), .string fn, .int .i64 line, .int .i64 (tcol bl bc line : Nat), .int .i64 line, .int .i64 (tend s el ec line : Nat)]) ∧ Below w.heap.size w w' := by
  have hNlt := hS.lt
  obtain ⟨g, cap, hglt, hc1, hck⟩ := hS.lines
  have hcl := hck (line - 1) (by omega)
  have hsz := line_size (s := s) (k := line - 1) (by omega)
  generalize hL : (⟨((srcLines s)[line - 1]'(by omega)).toArray⟩ : ByteArray) = t at hcl hsz
  clear hck hS hL
  subst hbl
  have e1 : tcol bl bc bl = bc := by unfold tcol; rw [if_pos rfl]
  have e2 : tend s el ec bl = (llen s (bl - 1)) := by unfold tend; rw [if_neg (by omega)]
  rw [e1, e2]
  clear e1 e2
  rw [← hsz]
  clear hsz
  have q2 : (((el : Nat) : Int) != ((bl : Nat) : Int)) = true := bne_iff_ne.2 (by omega)
  have q3 : (0 : Int) ≤ (bl : Int) - 1 := by omega
  have q4 : (bl : Int) - 1 < ((srcLines s).length : Int) := by omega
  go_enter Tryd.func29, Tryd.ntmps29
  go_wp2
  exact bodyPost_ret (v := .agg #[.pointer (some ⟨N, 0, none⟩), .string fn, .int .i64 bl, .int .i64 (bc : Nat), .int .i64 bl, .int .i64 (t.size : Nat)]) (by simp [results, Tryd.results29, go_sem]) rfl ⟨rfl, ((Below.refl _ _).alloc (Nat.le_refl _) _).alloc (by simp) _⟩

set_option maxHeartbeats 800000 in
set_option maxRecDepth 100000 in
theorem trim_ne (s : ByteArray) (w : World) (B N : Nat) (hS : SrcAt w B N s) (fn : ByteArray) (bl bc el ec line : Nat) (hbl : bl < line) (hel : el = line) (h3 : 1 ≤ line) (h4 : line ≤ (srcLines s).length) (_hn : (srcLines s).length ≤ 1099511627775) (hbig : el ≤ 1099511627775) :
    Calls Tryd.prog 29 #[.agg #[.pointer (some ⟨N, 0, none⟩), .string fn, .int .i64 bl, .int .i64 bc, .int .i64 el, .int .i64 ec], .int .i64 line] w fun e w' => e = .returned (.agg #[.pointer (some ⟨N, 0, none⟩), .string fn, .int .i64 line, .int .i64 (tcol bl bc line : Nat), .int .i64 line, .int .i64 (tend s el ec line : Nat)]) ∧ Below w.heap.size w w' := by
  have hNlt := hS.lt
  obtain ⟨g, cap, hglt, hc1, hck⟩ := hS.lines
  have hcl := hck (line - 1) (by omega)
  have hsz := line_size (s := s) (k := line - 1) (by omega)
  generalize hL : (⟨((srcLines s)[line - 1]'(by omega)).toArray⟩ : ByteArray) = t at hcl hsz
  clear hck hS hL
  subst hel
  have e1 : tcol bl bc el = 1 := by unfold tcol; rw [if_neg (by omega)]
  have e2 : tend s el ec el = ec := by unfold tend; rw [if_pos rfl]
  rw [e1, e2]
  clear e1 e2
  have q1 : (((bl : Nat) : Int) != ((el : Nat) : Int)) = true := bne_iff_ne.2 (by omega)
  clear hsz
  go_enter Tryd.func29, Tryd.ntmps29
  go_wp2
  exact bodyPost_ret (v := .agg #[.pointer (some ⟨N, 0, none⟩), .string fn, .int .i64 el, .int .i64 (1 : Nat), .int .i64 el, .int .i64 (ec : Nat)]) (by simp [results, Tryd.results29, go_sem]) rfl ⟨rfl, ((Below.refl _ _).alloc (Nat.le_refl _) _).alloc (by simp) _⟩

set_option maxHeartbeats 800000 in
set_option maxRecDepth 100000 in
theorem trim_nn (s : ByteArray) (w : World) (B N : Nat) (hS : SrcAt w B N s) (fn : ByteArray) (bl bc el ec line : Nat) (hbl : bl < line) (hel : line < el) (h3 : 1 ≤ line) (h4 : line ≤ (srcLines s).length) (_hn : (srcLines s).length ≤ 1099511627775) (hbig : el ≤ 1099511627775) :
    Calls Tryd.prog 29 #[.agg #[.pointer (some ⟨N, 0, none⟩), .string fn, .int .i64 bl, .int .i64 bc, .int .i64 el, .int .i64 ec], .int .i64 line] w fun e w' => e = .returned (.agg #[.pointer (some ⟨N, 0, none⟩), .string fn, .int .i64 line, .int .i64 (tcol bl bc line : Nat), .int .i64 line, .int .i64 (tend s el ec line : Nat)]) ∧ Below w.heap.size w w' := by
  have hNlt := hS.lt
  obtain ⟨g, cap, hglt, hc1, hck⟩ := hS.lines
  have hcl := hck (line - 1) (by omega)
  have hsz := line_size (s := s) (k := line - 1) (by omega)
  generalize hL : (⟨((srcLines s)[line - 1]'(by omega)).toArray⟩ : ByteArray) = t at hcl hsz
  clear hck hS hL
  have e1 : tcol bl bc line = 1 := by unfold tcol; rw [if_neg (by omega)]
  have e2 : tend s el ec line = (llen s (line - 1)) := by unfold tend; rw [if_neg (by omega)]
  rw [e1, e2]
  clear e1 e2
  rw [← hsz]
  clear hsz
  have q1 : (((bl : Nat) : Int) != ((line : Nat) : Int)) = true := bne_iff_ne.2 (by omega)
  have q2 : (((el : Nat) : Int) != ((line : Nat) : Int)) = true := bne_iff_ne.2 (by omega)
  have q3 : (0 : Int) ≤ (line : Int) - 1 := by omega
  have q4 : (line : Int) - 1 < ((srcLines s).length : Int) := by omega
  go_enter Tryd.func29, Tryd.ntmps29
  go_wp2
  exact bodyPost_ret (v := .agg #[.pointer (some ⟨N, 0, none⟩), .string fn, .int .i64 line, .int .i64 (1 : Nat), .int .i64 line, .int .i64 (t.size : Nat)]) (by simp [results, Tryd.results29, go_sem]) rfl ⟨rfl, ((Below.refl _ _).alloc (Nat.le_refl _) _).alloc (by simp) _⟩

theorem trim (s : ByteArray) (w : World) (B N : Nat) (hS : SrcAt w B N s) (fn : ByteArray) (bl bc el ec line : Nat) (hbl : bl ≤ line) (hel : line ≤ el) (h3 : 1 ≤ line) (h4 : line ≤ (srcLines s).length) (hn : (srcLines s).length ≤ 1099511627775) (hbig : el ≤ 1099511627775) :
    Calls Tryd.prog 29 #[.agg #[.pointer (some ⟨N, 0, none⟩), .string fn, .int .i64 bl, .int .i64 bc, .int .i64 el, .int .i64 ec], .int .i64 line] w fun e w' => e = .returned (.agg #[.pointer (some ⟨N, 0, none⟩), .string fn, .int .i64 line, .int .i64 (tcol bl bc line : Nat), .int .i64 line, .int .i64 (tend s el ec line : Nat)]) ∧ Below w.heap.size w w' := by
  rcases Nat.lt_or_ge bl line with h1 | h1
  · rcases Nat.lt_or_ge line el with h2 | h2
    · exact trim_nn s w B N hS fn bl bc el ec line h1 h2 h3 h4 hn hbig
    · exact trim_ne s w B N hS fn bl bc el ec line h1 (by omega) h3 h4 hn hbig
  · rcases Nat.lt_or_ge line el with h2 | h2
    · exact trim_en s w B N hS fn bl bc el ec line (by omega) h2 h3 h4 hn hbig
    · exact trim_ee s w B N hS fn bl bc el ec line (by omega) (by omega) h3 h4 hn hbig

end Go.Proofs.YtmieljdnfjpheaaDoor
