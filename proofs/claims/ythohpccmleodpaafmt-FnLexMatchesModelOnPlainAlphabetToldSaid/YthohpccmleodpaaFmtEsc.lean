/-
  strconv.QuoteRuneToASCII hands back some text, and leaves what lay there before.
-/
import Derived.Test.YthohpccmleodpaaFmtShelf
import Derived.Test.YthohpccmleodpaaFmtMem
import Derived.Lib.BufSteps
import Derived.Lib.QuoteHex
import Derived.LoopN
namespace Go.Proofs.YthohpccmleodpaaFmt
open Go Go.RowKit Go.Shelf

theorem infoU8 : (Tryf.prog.info? 5).map (fun i => (i.zero, i.size, i.bytes)) = some (some (.int .u8 0), 1, 1) := by kernel_rfl

def U8s (xs : List Value) : Prop := ∀ x ∈ xs, ∃ z, x = .int .u8 z
theorem U8s.app1 {xs : List Value} {c : Int} (h : U8s xs) : U8s (xs ++ [.int .u8 c]) := fun x hx => by
  rcases List.mem_append.1 hx with h1 | h1
  · exact h x h1
  · exact ⟨c, List.mem_singleton.1 h1⟩
theorem U8s.appS {xs : List Value} {s : ByteArray} (h : U8s xs) : U8s (xs ++ Lib.strCells s) := fun x hx => by
  rcases List.mem_append.1 hx with h1 | h1
  · exact h x h1
  · unfold Lib.strCells at h1
    obtain ⟨b, _, rfl⟩ := List.mem_map.1 h1
    exact ⟨_, rfl⟩
def EscPost (B n : Nat) (W0 : World) (e : Ending) (w' : World) : Prop := ∃ v' n' xs', e = .returned v' ∧ Lib.OwnBuf B 5 v' n' xs' W0 w' ∧ n' ≤ n + 10 ∧ U8s xs'

set_option maxHeartbeats 4000000 in
set_option maxRecDepth 1000000 in
/-- The quote itself or a backslash. -/
theorem esc_quoted (B : Nat) (v : Value) (n : Nat) (xs : List Value) (r : Int) (W0 w : World) (hb : Lib.OwnBuf B 5 v n xs W0 w) (hlen : n ≤ 1000000) (hU : U8s xs) (hq : r = 39 ∨ r = 92) :
    Calls Tryf.prog 76 #[v, .int .i32 r, .int .u8 39, .bool true, .bool false] w (EscPost B n W0) := by
  obtain ⟨i0, hi, hz0, hz1, hz2⟩ := info_parts infoU8
  have HU := Lib.hid hU
  clear hU
  have hw8 : IntKind.u8.wrap r = r := by rcases hq with rfl | rfl <;> rfl
  go_enter Tryf.func76, Tryf.ntmps76
  rcases hq with rfl | rfl
  all_goals (
    go_wp2_with (at_builtin; first
      | (refine Lib.wpList_append_byte rfl _ _ 73 rfl B 5 i0 Tryf.underlying73 hi hz0 hz1 hz2 _ _ _ rfl W0 _ _ (by assumption) rfl (by first | omega | (simp only [Lib.size_two]; omega)) ?_; intro _ _ hb)
      | (refine Lib.wpList_append_text rfl _ _ 73 9 rfl B 5 i0 Tryf.underlying73 Tryf.underlying9 hi hz0 hz1 hz2 _ _ _ rfl W0 (by assumption) _ rfl (by first | omega | (simp only [Lib.size_two]; omega)) ?_; intro _ _ hb))
    go_ret
    exact ⟨_, _, _, rfl, hb, by first | omega | (simp only [Lib.size_two]; omega), by repeat (first | exact HU.out | refine U8s.app1 ?_ | refine U8s.appS ?_)⟩)

set_option maxHeartbeats 4000000 in
set_option maxRecDepth 1000000 in
/-- Printable, below 0x80. -/
theorem esc_plain (B : Nat) (v : Value) (n : Nat) (xs : List Value) (r : Int) (W0 w : World) (hb : Lib.OwnBuf B 5 v n xs W0 w) (hlen : n ≤ 1000000) (hU : U8s xs) (h0 : 32 ≤ r) (h1 : r ≤ 126) (hq1 : r ≠ 39) (hq2 : r ≠ 92) :
    Calls Tryf.prog 76 #[v, .int .i32 r, .int .u8 39, .bool true, .bool false] w (EscPost B n W0) := by
  obtain ⟨i0, hi, hz0, hz1, hz2⟩ := info_parts infoU8
  have HU := Lib.hid hU
  clear hU
  have HP : Hid (Lib.isPrintLatin r = true) := Lib.hid (by simp [Lib.isPrintLatin]; omega)
  obtain ⟨k, hk⟩ := Int.eq_ofNat_of_zero_le (show 0 ≤ r by omega)
  have hw8 : IntKind.u8.wrap r = r := by
    have e : r % 256 = r := Int.emod_eq_of_lt (by omega) (by omega)
    simp [IntKind.wrap, IntKind.bits, IntKind.signed, e]
  clear hk
  go_enter Tryf.func76, Tryf.ntmps76
  go_wp2_with (first | (go_at_call 79; refine (Tryf.strconv_IsPrint_latin r _ (by omega)).mono ?_; rw [HP.out]; rintro e w1 ⟨rfl, rfl⟩) | (at_builtin; first
      | (refine Lib.wpList_append_byte rfl _ _ 73 rfl B 5 i0 Tryf.underlying73 hi hz0 hz1 hz2 _ _ _ rfl W0 _ _ (by assumption) rfl (by first | omega | (simp only [Lib.size_two]; omega)) ?_; intro _ _ hb)
      | (refine Lib.wpList_append_text rfl _ _ 73 9 rfl B 5 i0 Tryf.underlying73 Tryf.underlying9 hi hz0 hz1 hz2 _ _ _ rfl W0 (by assumption) _ rfl (by first | omega | (simp only [Lib.size_two]; omega)) ?_; intro _ _ hb)))
  all_goals (
    go_ret
    exact ⟨_, _, _, rfl, hb, by first | omega | (simp only [Lib.size_two]; omega), by repeat (first | exact HU.out | refine U8s.app1 ?_ | refine U8s.appS ?_)⟩)

set_option maxHeartbeats 4000000 in
set_option maxRecDepth 1000000 in
/-- A control character with a letter. -/
theorem esc_named (B : Nat) (v : Value) (n : Nat) (xs : List Value) (r : Int) (W0 w : World) (hb : Lib.OwnBuf B 5 v n xs W0 w) (hlen : n ≤ 1000000) (hU : U8s xs) (hn : r = 7 ∨ r = 8 ∨ r = 12 ∨ r = 10 ∨ r = 13 ∨ r = 9 ∨ r = 11) :
    Calls Tryf.prog 76 #[v, .int .i32 r, .int .u8 39, .bool true, .bool false] w (EscPost B n W0) := by
  obtain ⟨i0, hi, hz0, hz1, hz2⟩ := info_parts infoU8
  have HU := Lib.hid hU
  clear hU
  have HP : Hid (Lib.isPrintLatin r = false) := Lib.hid (by rcases hn with rfl | rfl | rfl | rfl | rfl | rfl | rfl <;> rfl)
  go_enter Tryf.func76, Tryf.ntmps76
  rcases hn with rfl | rfl | rfl | rfl | rfl | rfl | rfl
  all_goals (
    go_wp2_with (first | (go_at_call 79; refine (Tryf.strconv_IsPrint_latin _ _ (by omega)).mono ?_; rw [HP.out]; rintro e w1 ⟨rfl, rfl⟩) | (at_builtin; first
      | (refine Lib.wpList_append_byte rfl _ _ 73 rfl B 5 i0 Tryf.underlying73 hi hz0 hz1 hz2 _ _ _ rfl W0 _ _ (by assumption) rfl (by first | omega | (simp only [Lib.size_two]; omega)) ?_; intro _ _ hb)
      | (refine Lib.wpList_append_text rfl _ _ 73 9 rfl B 5 i0 Tryf.underlying73 Tryf.underlying9 hi hz0 hz1 hz2 _ _ _ rfl W0 (by assumption) _ rfl (by first | omega | (simp only [Lib.size_two]; omega)) ?_; intro _ _ hb)))
    go_ret
    exact ⟨_, _, _, rfl, hb, by first | omega | (simp only [Lib.size_two]; omega), by repeat (first | exact HU.out | refine U8s.app1 ?_ | refine U8s.appS ?_)⟩)

set_option maxHeartbeats 4000000 in
set_option maxRecDepth 1000000 in
/-- A control character without a letter. -/
theorem esc_hex (B : Nat) (v : Value) (n : Nat) (xs : List Value) (r : Int) (W0 w : World) (hb : Lib.OwnBuf B 5 v n xs W0 w) (hlen : n ≤ 1000000) (hU : U8s xs) (h0 : 0 ≤ r) (hx : r < 32 ∨ r = 127) (hn : ¬ (r = 7 ∨ r = 8 ∨ r = 12 ∨ r = 10 ∨ r = 13 ∨ r = 9 ∨ r = 11)) :
    Calls Tryf.prog 76 #[v, .int .i32 r, .int .u8 39, .bool true, .bool false] w (EscPost B n W0) := by
  obtain ⟨i0, hi, hz0, hz1, hz2⟩ := info_parts infoU8
  have HU := Lib.hid hU
  clear hU
  have HP : Hid (Lib.isPrintLatin r = false) := Lib.hid (by simp [Lib.isPrintLatin]; omega)
  obtain ⟨k, rfl⟩ := Int.eq_ofNat_of_zero_le h0
  have hk : k < 128 := by omega
  have hw8 : IntKind.u8.wrap (k : Int) = (k : Int) := by
    have e : (k : Int) % 256 = k := Int.emod_eq_of_lt (by omega) (by omega)
    simp [IntKind.wrap, IntKind.bits, IntKind.signed, e]
  have e7 : ((k : Int) == 7) = false := beq_eq_false_iff_ne.2 (by omega)
  have e8 : ((k : Int) == 8) = false := beq_eq_false_iff_ne.2 (by omega)
  have e9 : ((k : Int) == 9) = false := beq_eq_false_iff_ne.2 (by omega)
  have e10 : ((k : Int) == 10) = false := beq_eq_false_iff_ne.2 (by omega)
  have e11 : ((k : Int) == 11) = false := beq_eq_false_iff_ne.2 (by omega)
  have e12 : ((k : Int) == 12) = false := beq_eq_false_iff_ne.2 (by omega)
  have e13 : ((k : Int) == 13) = false := beq_eq_false_iff_ne.2 (by omega)
  go_enter Tryf.func76, Tryf.ntmps76
  go_wp2_with (first | (go_at_call 79; refine (Tryf.strconv_IsPrint_latin _ _ (by omega)).mono ?_; rw [HP.out]; rintro e w1 ⟨rfl, rfl⟩) | (at_builtin; first
      | (refine Lib.wpList_append_byte rfl _ _ 73 rfl B 5 i0 Tryf.underlying73 hi hz0 hz1 hz2 _ _ _ rfl W0 _ _ (by assumption) rfl (by first | omega | (simp only [Lib.size_two]; omega)) ?_; intro _ _ hb)
      | (refine Lib.wpList_append_text rfl _ _ 73 9 rfl B 5 i0 Tryf.underlying73 Tryf.underlying9 hi hz0 hz1 hz2 _ _ _ rfl W0 (by assumption) _ rfl (by first | omega | (simp only [Lib.size_two]; omega)) ?_; intro _ _ hb)))
  all_goals (
    go_ret
    exact ⟨_, _, _, rfl, hb, by first | omega | (simp only [Lib.size_two]; omega), by repeat (first | exact HU.out | refine U8s.app1 ?_ | refine U8s.appS ?_)⟩)

set_option maxHeartbeats 4000000 in
set_option maxRecDepth 1000000 in
/-- From 0x80 on, below 0x10000. -/
theorem esc_u4 (B : Nat) (v : Value) (n : Nat) (xs : List Value) (r : Int) (W0 w : World) (hb : Lib.OwnBuf B 5 v n xs W0 w) (hlen : n ≤ 1000000) (hU : U8s xs) (h80 : 128 ≤ r) (hlt : r < 65536) (hv : Lib.validRune r = true) :
    Calls Tryf.prog 76 #[v, .int .i32 r, .int .u8 39, .bool true, .bool false] w (EscPost B n W0) := by
  obtain ⟨i0, hi, hz0, hz1, hz2⟩ := info_parts infoU8
  have HU := Lib.hid hU
  clear hU
  have HV := Lib.hid hv
  clear hv
  have hq1 : r ≠ 39 := by omega
  have hq2 : r ≠ 92 := by omega
  obtain ⟨k, hk⟩ := Int.eq_ofNat_of_zero_le (show 0 ≤ r by omega)
  have hk31 : k < 2147483648 := by omega
  obtain ⟨d0, hd0⟩ : ∃ d, d = k / 4096 % 16 := ⟨_, rfl⟩
  have hD0 : bits .and .i32 (r / 4096) 15 = (d0 : Int) := by
    have e := Lib.and15_shift r k hk hk31 4096
    rw [hd0]
    simpa using e
  have hL0 : d0 < 16 := by omega
  have hL0' : (d0 : Int) < 16 := by omega
  clear hd0
  obtain ⟨d1, hd1⟩ : ∃ d, d = k / 256 % 16 := ⟨_, rfl⟩
  have hD1 : bits .and .i32 (r / 256) 15 = (d1 : Int) := by
    have e := Lib.and15_shift r k hk hk31 256
    rw [hd1]
    simpa using e
  have hL1 : d1 < 16 := by omega
  have hL1' : (d1 : Int) < 16 := by omega
  clear hd1
  obtain ⟨d2, hd2⟩ : ∃ d, d = k / 16 % 16 := ⟨_, rfl⟩
  have hD2 : bits .and .i32 (r / 16) 15 = (d2 : Int) := by
    have e := Lib.and15_shift r k hk hk31 16
    rw [hd2]
    simpa using e
  have hL2 : d2 < 16 := by omega
  have hL2' : (d2 : Int) < 16 := by omega
  clear hd2
  obtain ⟨d3, hd3⟩ : ∃ d, d = k / 1 % 16 := ⟨_, rfl⟩
  have hD3 : bits .and .i32 (r) 15 = (d3 : Int) := by
    have e := Lib.and15_shift r k hk hk31 1
    rw [hd3]
    simpa using e
  have hL3 : d3 < 16 := by omega
  have hL3' : (d3 : Int) < 16 := by omega
  clear hd3
  clear hk hk31
  go_enter Tryf.func76, Tryf.ntmps76
  go_wp2_with (first | (go_at_call 72; refine (Tryf.utf8_ValidRune r _).mono ?_; rw [HV.out]; rintro e w1 ⟨rfl, rfl⟩) | (at_builtin; first
      | (refine Lib.wpList_append_byte rfl _ _ 73 rfl B 5 i0 Tryf.underlying73 hi hz0 hz1 hz2 _ _ _ rfl W0 _ _ (by assumption) rfl (by first | omega | (simp only [Lib.size_two]; omega)) ?_; intro _ _ hb)
      | (refine Lib.wpList_append_text rfl _ _ 73 9 rfl B 5 i0 Tryf.underlying73 Tryf.underlying9 hi hz0 hz1 hz2 _ _ _ rfl W0 (by assumption) _ rfl (by first | omega | (simp only [Lib.size_two]; omega)) ?_; intro _ _ hb)))
  refine wp_loop_rounds 5 ?_
  rw [rounds_succ]
  go_wp2_with (at_builtin; first
      | (refine Lib.wpList_append_byte rfl _ _ 73 rfl B 5 i0 Tryf.underlying73 hi hz0 hz1 hz2 _ _ _ rfl W0 _ _ (by assumption) rfl (by first | omega | (simp only [Lib.size_two]; omega)) ?_; intro _ _ hb)
      | (refine Lib.wpList_append_text rfl _ _ 73 9 rfl B 5 i0 Tryf.underlying73 Tryf.underlying9 hi hz0 hz1 hz2 _ _ _ rfl W0 (by assumption) _ rfl (by first | omega | (simp only [Lib.size_two]; omega)) ?_; intro _ _ hb))
  rw [rounds_succ]
  go_wp2_with (at_builtin; first
      | (refine Lib.wpList_append_byte rfl _ _ 73 rfl B 5 i0 Tryf.underlying73 hi hz0 hz1 hz2 _ _ _ rfl W0 _ _ (by assumption) rfl (by first | omega | (simp only [Lib.size_two]; omega)) ?_; intro _ _ hb)
      | (refine Lib.wpList_append_text rfl _ _ 73 9 rfl B 5 i0 Tryf.underlying73 Tryf.underlying9 hi hz0 hz1 hz2 _ _ _ rfl W0 (by assumption) _ rfl (by first | omega | (simp only [Lib.size_two]; omega)) ?_; intro _ _ hb))
  rw [rounds_succ]
  go_wp2_with (at_builtin; first
      | (refine Lib.wpList_append_byte rfl _ _ 73 rfl B 5 i0 Tryf.underlying73 hi hz0 hz1 hz2 _ _ _ rfl W0 _ _ (by assumption) rfl (by first | omega | (simp only [Lib.size_two]; omega)) ?_; intro _ _ hb)
      | (refine Lib.wpList_append_text rfl _ _ 73 9 rfl B 5 i0 Tryf.underlying73 Tryf.underlying9 hi hz0 hz1 hz2 _ _ _ rfl W0 (by assumption) _ rfl (by first | omega | (simp only [Lib.size_two]; omega)) ?_; intro _ _ hb))
  rw [rounds_succ]
  go_wp2_with (at_builtin; first
      | (refine Lib.wpList_append_byte rfl _ _ 73 rfl B 5 i0 Tryf.underlying73 hi hz0 hz1 hz2 _ _ _ rfl W0 _ _ (by assumption) rfl (by first | omega | (simp only [Lib.size_two]; omega)) ?_; intro _ _ hb)
      | (refine Lib.wpList_append_text rfl _ _ 73 9 rfl B 5 i0 Tryf.underlying73 Tryf.underlying9 hi hz0 hz1 hz2 _ _ _ rfl W0 (by assumption) _ rfl (by first | omega | (simp only [Lib.size_two]; omega)) ?_; intro _ _ hb))
  rw [rounds_succ]
  go_wp2_with (at_builtin; first
      | (refine Lib.wpList_append_byte rfl _ _ 73 rfl B 5 i0 Tryf.underlying73 hi hz0 hz1 hz2 _ _ _ rfl W0 _ _ (by assumption) rfl (by first | omega | (simp only [Lib.size_two]; omega)) ?_; intro _ _ hb)
      | (refine Lib.wpList_append_text rfl _ _ 73 9 rfl B 5 i0 Tryf.underlying73 Tryf.underlying9 hi hz0 hz1 hz2 _ _ _ rfl W0 (by assumption) _ rfl (by first | omega | (simp only [Lib.size_two]; omega)) ?_; intro _ _ hb))
  go_ret
  exact ⟨_, _, _, rfl, hb, by first | omega | (simp only [Lib.size_two]; omega), by repeat (first | exact HU.out | refine U8s.app1 ?_ | refine U8s.appS ?_)⟩

set_option maxHeartbeats 4000000 in
set_option maxRecDepth 1000000 in
/-- From 0x10000 on. -/
theorem esc_u8 (B : Nat) (v : Value) (n : Nat) (xs : List Value) (r : Int) (W0 w : World) (hb : Lib.OwnBuf B 5 v n xs W0 w) (hlen : n ≤ 1000000) (hU : U8s xs) (h80 : 65536 ≤ r) (hle : r ≤ 1114111) (hv : Lib.validRune r = true) :
    Calls Tryf.prog 76 #[v, .int .i32 r, .int .u8 39, .bool true, .bool false] w (EscPost B n W0) := by
  obtain ⟨i0, hi, hz0, hz1, hz2⟩ := info_parts infoU8
  have HU := Lib.hid hU
  clear hU
  have HV := Lib.hid hv
  clear hv
  have hq1 : r ≠ 39 := by omega
  have hq2 : r ≠ 92 := by omega
  obtain ⟨k, hk⟩ := Int.eq_ofNat_of_zero_le (show 0 ≤ r by omega)
  have hk31 : k < 2147483648 := by omega
  obtain ⟨d0, hd0⟩ : ∃ d, d = k / 268435456 % 16 := ⟨_, rfl⟩
  have hD0 : bits .and .i32 (r / 268435456) 15 = (d0 : Int) := by
    have e := Lib.and15_shift r k hk hk31 268435456
    rw [hd0]
    simpa using e
  have hL0 : d0 < 16 := by omega
  have hL0' : (d0 : Int) < 16 := by omega
  clear hd0
  obtain ⟨d1, hd1⟩ : ∃ d, d = k / 16777216 % 16 := ⟨_, rfl⟩
  have hD1 : bits .and .i32 (r / 16777216) 15 = (d1 : Int) := by
    have e := Lib.and15_shift r k hk hk31 16777216
    rw [hd1]
    simpa using e
  have hL1 : d1 < 16 := by omega
  have hL1' : (d1 : Int) < 16 := by omega
  clear hd1
  obtain ⟨d2, hd2⟩ : ∃ d, d = k / 1048576 % 16 := ⟨_, rfl⟩
  have hD2 : bits .and .i32 (r / 1048576) 15 = (d2 : Int) := by
    have e := Lib.and15_shift r k hk hk31 1048576
    rw [hd2]
    simpa using e
  have hL2 : d2 < 16 := by omega
  have hL2' : (d2 : Int) < 16 := by omega
  clear hd2
  obtain ⟨d3, hd3⟩ : ∃ d, d = k / 65536 % 16 := ⟨_, rfl⟩
  have hD3 : bits .and .i32 (r / 65536) 15 = (d3 : Int) := by
    have e := Lib.and15_shift r k hk hk31 65536
    rw [hd3]
    simpa using e
  have hL3 : d3 < 16 := by omega
  have hL3' : (d3 : Int) < 16 := by omega
  clear hd3
  obtain ⟨d4, hd4⟩ : ∃ d, d = k / 4096 % 16 := ⟨_, rfl⟩
  have hD4 : bits .and .i32 (r / 4096) 15 = (d4 : Int) := by
    have e := Lib.and15_shift r k hk hk31 4096
    rw [hd4]
    simpa using e
  have hL4 : d4 < 16 := by omega
  have hL4' : (d4 : Int) < 16 := by omega
  clear hd4
  obtain ⟨d5, hd5⟩ : ∃ d, d = k / 256 % 16 := ⟨_, rfl⟩
  have hD5 : bits .and .i32 (r / 256) 15 = (d5 : Int) := by
    have e := Lib.and15_shift r k hk hk31 256
    rw [hd5]
    simpa using e
  have hL5 : d5 < 16 := by omega
  have hL5' : (d5 : Int) < 16 := by omega
  clear hd5
  obtain ⟨d6, hd6⟩ : ∃ d, d = k / 16 % 16 := ⟨_, rfl⟩
  have hD6 : bits .and .i32 (r / 16) 15 = (d6 : Int) := by
    have e := Lib.and15_shift r k hk hk31 16
    rw [hd6]
    simpa using e
  have hL6 : d6 < 16 := by omega
  have hL6' : (d6 : Int) < 16 := by omega
  clear hd6
  obtain ⟨d7, hd7⟩ : ∃ d, d = k / 1 % 16 := ⟨_, rfl⟩
  have hD7 : bits .and .i32 (r) 15 = (d7 : Int) := by
    have e := Lib.and15_shift r k hk hk31 1
    rw [hd7]
    simpa using e
  have hL7 : d7 < 16 := by omega
  have hL7' : (d7 : Int) < 16 := by omega
  clear hd7
  clear hk hk31
  go_enter Tryf.func76, Tryf.ntmps76
  go_wp2_with (first | (go_at_call 72; refine (Tryf.utf8_ValidRune r _).mono ?_; rw [HV.out]; rintro e w1 ⟨rfl, rfl⟩) | (at_builtin; first
      | (refine Lib.wpList_append_byte rfl _ _ 73 rfl B 5 i0 Tryf.underlying73 hi hz0 hz1 hz2 _ _ _ rfl W0 _ _ (by assumption) rfl (by first | omega | (simp only [Lib.size_two]; omega)) ?_; intro _ _ hb)
      | (refine Lib.wpList_append_text rfl _ _ 73 9 rfl B 5 i0 Tryf.underlying73 Tryf.underlying9 hi hz0 hz1 hz2 _ _ _ rfl W0 (by assumption) _ rfl (by first | omega | (simp only [Lib.size_two]; omega)) ?_; intro _ _ hb)))
  refine wp_loop_rounds 9 ?_
  rw [rounds_succ]
  go_wp2_with (at_builtin; first
      | (refine Lib.wpList_append_byte rfl _ _ 73 rfl B 5 i0 Tryf.underlying73 hi hz0 hz1 hz2 _ _ _ rfl W0 _ _ (by assumption) rfl (by first | omega | (simp only [Lib.size_two]; omega)) ?_; intro _ _ hb)
      | (refine Lib.wpList_append_text rfl _ _ 73 9 rfl B 5 i0 Tryf.underlying73 Tryf.underlying9 hi hz0 hz1 hz2 _ _ _ rfl W0 (by assumption) _ rfl (by first | omega | (simp only [Lib.size_two]; omega)) ?_; intro _ _ hb))
  rw [rounds_succ]
  go_wp2_with (at_builtin; first
      | (refine Lib.wpList_append_byte rfl _ _ 73 rfl B 5 i0 Tryf.underlying73 hi hz0 hz1 hz2 _ _ _ rfl W0 _ _ (by assumption) rfl (by first | omega | (simp only [Lib.size_two]; omega)) ?_; intro _ _ hb)
      | (refine Lib.wpList_append_text rfl _ _ 73 9 rfl B 5 i0 Tryf.underlying73 Tryf.underlying9 hi hz0 hz1 hz2 _ _ _ rfl W0 (by assumption) _ rfl (by first | omega | (simp only [Lib.size_two]; omega)) ?_; intro _ _ hb))
  rw [rounds_succ]
  go_wp2_with (at_builtin; first
      | (refine Lib.wpList_append_byte rfl _ _ 73 rfl B 5 i0 Tryf.underlying73 hi hz0 hz1 hz2 _ _ _ rfl W0 _ _ (by assumption) rfl (by first | omega | (simp only [Lib.size_two]; omega)) ?_; intro _ _ hb)
      | (refine Lib.wpList_append_text rfl _ _ 73 9 rfl B 5 i0 Tryf.underlying73 Tryf.underlying9 hi hz0 hz1 hz2 _ _ _ rfl W0 (by assumption) _ rfl (by first | omega | (simp only [Lib.size_two]; omega)) ?_; intro _ _ hb))
  rw [rounds_succ]
  go_wp2_with (at_builtin; first
      | (refine Lib.wpList_append_byte rfl _ _ 73 rfl B 5 i0 Tryf.underlying73 hi hz0 hz1 hz2 _ _ _ rfl W0 _ _ (by assumption) rfl (by first | omega | (simp only [Lib.size_two]; omega)) ?_; intro _ _ hb)
      | (refine Lib.wpList_append_text rfl _ _ 73 9 rfl B 5 i0 Tryf.underlying73 Tryf.underlying9 hi hz0 hz1 hz2 _ _ _ rfl W0 (by assumption) _ rfl (by first | omega | (simp only [Lib.size_two]; omega)) ?_; intro _ _ hb))
  rw [rounds_succ]
  go_wp2_with (at_builtin; first
      | (refine Lib.wpList_append_byte rfl _ _ 73 rfl B 5 i0 Tryf.underlying73 hi hz0 hz1 hz2 _ _ _ rfl W0 _ _ (by assumption) rfl (by first | omega | (simp only [Lib.size_two]; omega)) ?_; intro _ _ hb)
      | (refine Lib.wpList_append_text rfl _ _ 73 9 rfl B 5 i0 Tryf.underlying73 Tryf.underlying9 hi hz0 hz1 hz2 _ _ _ rfl W0 (by assumption) _ rfl (by first | omega | (simp only [Lib.size_two]; omega)) ?_; intro _ _ hb))
  rw [rounds_succ]
  go_wp2_with (at_builtin; first
      | (refine Lib.wpList_append_byte rfl _ _ 73 rfl B 5 i0 Tryf.underlying73 hi hz0 hz1 hz2 _ _ _ rfl W0 _ _ (by assumption) rfl (by first | omega | (simp only [Lib.size_two]; omega)) ?_; intro _ _ hb)
      | (refine Lib.wpList_append_text rfl _ _ 73 9 rfl B 5 i0 Tryf.underlying73 Tryf.underlying9 hi hz0 hz1 hz2 _ _ _ rfl W0 (by assumption) _ rfl (by first | omega | (simp only [Lib.size_two]; omega)) ?_; intro _ _ hb))
  rw [rounds_succ]
  go_wp2_with (at_builtin; first
      | (refine Lib.wpList_append_byte rfl _ _ 73 rfl B 5 i0 Tryf.underlying73 hi hz0 hz1 hz2 _ _ _ rfl W0 _ _ (by assumption) rfl (by first | omega | (simp only [Lib.size_two]; omega)) ?_; intro _ _ hb)
      | (refine Lib.wpList_append_text rfl _ _ 73 9 rfl B 5 i0 Tryf.underlying73 Tryf.underlying9 hi hz0 hz1 hz2 _ _ _ rfl W0 (by assumption) _ rfl (by first | omega | (simp only [Lib.size_two]; omega)) ?_; intro _ _ hb))
  rw [rounds_succ]
  go_wp2_with (at_builtin; first
      | (refine Lib.wpList_append_byte rfl _ _ 73 rfl B 5 i0 Tryf.underlying73 hi hz0 hz1 hz2 _ _ _ rfl W0 _ _ (by assumption) rfl (by first | omega | (simp only [Lib.size_two]; omega)) ?_; intro _ _ hb)
      | (refine Lib.wpList_append_text rfl _ _ 73 9 rfl B 5 i0 Tryf.underlying73 Tryf.underlying9 hi hz0 hz1 hz2 _ _ _ rfl W0 (by assumption) _ rfl (by first | omega | (simp only [Lib.size_two]; omega)) ?_; intro _ _ hb))
  rw [rounds_succ]
  go_wp2_with (at_builtin; first
      | (refine Lib.wpList_append_byte rfl _ _ 73 rfl B 5 i0 Tryf.underlying73 hi hz0 hz1 hz2 _ _ _ rfl W0 _ _ (by assumption) rfl (by first | omega | (simp only [Lib.size_two]; omega)) ?_; intro _ _ hb)
      | (refine Lib.wpList_append_text rfl _ _ 73 9 rfl B 5 i0 Tryf.underlying73 Tryf.underlying9 hi hz0 hz1 hz2 _ _ _ rfl W0 (by assumption) _ rfl (by first | omega | (simp only [Lib.size_two]; omega)) ?_; intro _ _ hb))
  go_ret
  exact ⟨_, _, _, rfl, hb, by first | omega | (simp only [Lib.size_two]; omega), by repeat (first | exact HU.out | refine U8s.app1 ?_ | refine U8s.appS ?_)⟩

theorem esc (B : Nat) (v : Value) (n : Nat) (xs : List Value) (r : Int) (W0 w : World) (hb : Lib.OwnBuf B 5 v n xs W0 w) (hlen : n ≤ 1000000) (hU : U8s xs) (hv : Lib.validRune r = true) :
    Calls Tryf.prog 76 #[v, .int .i32 r, .int .u8 39, .bool true, .bool false] w (EscPost B n W0) := by
  have hr : 0 ≤ r ∧ r ≤ 1114111 := by
    have := hv
    simp [Lib.validRune] at this
    omega
  by_cases hq : r = 39 ∨ r = 92
  · exact esc_quoted B v n xs r W0 w hb hlen hU hq
  by_cases hp : 32 ≤ r ∧ r ≤ 126
  · exact esc_plain B v n xs r W0 w hb hlen hU hp.1 hp.2 (by omega) (by omega)
  by_cases hn : r = 7 ∨ r = 8 ∨ r = 12 ∨ r = 10 ∨ r = 13 ∨ r = 9 ∨ r = 11
  · exact esc_named B v n xs r W0 w hb hlen hU hn
  by_cases hx : r < 32 ∨ r = 127
  · exact esc_hex B v n xs r W0 w hb hlen hU hr.1 hx hn
  by_cases hlt : r < 65536
  · exact esc_u4 B v n xs r W0 w hb hlen hU (by omega) hlt hv
  · exact esc_u8 B v n xs r W0 w hb hlen hU (by omega) hr.2 hv

set_option maxHeartbeats 1600000 in
set_option maxRecDepth 1000000 in
theorem quotedRune (r : Int) (w : World) : Calls Tryf.prog 68 #[.slice none 0 0, .int .i32 r, .int .u8 39, .bool true, .bool false] w fun e w' => ∃ v' n' xs', e = .returned v' ∧ Lib.OwnBuf w.heap.size 5 v' n' xs' w w' ∧ 0 < n' ∧ U8s xs' := by
  obtain ⟨i0, hi, hz0, hz1, hz2⟩ := info_parts infoU8
  have hb : Lib.OwnBuf w.heap.size 5 (.slice none 0 0) 0 [] w w := ⟨World.ownsRowF_nil _ _ _ _, Below.refl _ _, Nat.le_refl _⟩
  have HU : Hid (U8s []) := Lib.hid (fun x hx => by cases hx)
  cases hv : Lib.validRune r
  · have HV := Lib.hid hv
    clear hv
    go_enter Tryf.func68, Tryf.ntmps68
    go_wp2_with (first | (at_builtin; first
      | (refine Lib.wpList_append_byte rfl _ _ 73 rfl w.heap.size 5 i0 Tryf.underlying73 hi hz0 hz1 hz2 _ _ _ rfl w _ _ (by assumption) rfl (by first | omega | (simp only [Lib.size_two]; omega)) ?_; intro _ _ hb)
      | (refine Lib.wpList_append_text rfl _ _ 73 9 rfl w.heap.size 5 i0 Tryf.underlying73 Tryf.underlying9 hi hz0 hz1 hz2 _ _ _ rfl w (by assumption) _ rfl (by first | omega | (simp only [Lib.size_two]; omega)) ?_; intro _ _ hb)) | (go_at_call 72; refine (Tryf.utf8_ValidRune r _).mono ?_; rw [HV.out]; rintro e w1 ⟨rfl, rfl⟩) | (go_at_call 76; refine (esc _ _ _ _ _ _ _ (by assumption) (by omega) (by exact HU.out.app1) (by rfl)).mono ?_; rintro e w2 ⟨v2, n2, xs2, rfl, hb2, hn2, hu2⟩; have HU2 := Lib.hid hu2; clear hu2 hb))
    go_ret
    exact ⟨_, _, _, rfl, hb, by omega, HU2.out.app1⟩
  · have HV := Lib.hid hv
    clear hv
    go_enter Tryf.func68, Tryf.ntmps68
    go_wp2_with (first | (at_builtin; first
      | (refine Lib.wpList_append_byte rfl _ _ 73 rfl w.heap.size 5 i0 Tryf.underlying73 hi hz0 hz1 hz2 _ _ _ rfl w _ _ (by assumption) rfl (by first | omega | (simp only [Lib.size_two]; omega)) ?_; intro _ _ hb)
      | (refine Lib.wpList_append_text rfl _ _ 73 9 rfl w.heap.size 5 i0 Tryf.underlying73 Tryf.underlying9 hi hz0 hz1 hz2 _ _ _ rfl w (by assumption) _ rfl (by first | omega | (simp only [Lib.size_two]; omega)) ?_; intro _ _ hb)) | (go_at_call 72; refine (Tryf.utf8_ValidRune r _).mono ?_; rw [HV.out]; rintro e w1 ⟨rfl, rfl⟩) | (go_at_call 76; refine (esc _ _ _ _ _ _ _ (by assumption) (by omega) (by exact HU.out.app1) (by exact HV.out)).mono ?_; rintro e w2 ⟨v2, n2, xs2, rfl, hb2, hn2, hu2⟩; have HU2 := Lib.hid hu2; clear hu2 hb))
    go_ret
    exact ⟨_, _, _, rfl, hb, by omega, HU2.out.app1⟩

theorem u8s_nums : ∀ {xs : List Value}, U8s xs → ∃ zs : List Int, xs = zs.map (Value.int .u8)
  | [], _ => ⟨[], rfl⟩
  | x :: xs, h => by
    obtain ⟨z, rfl⟩ := h x List.mem_cons_self
    obtain ⟨zs, rfl⟩ := u8s_nums (xs := xs) (fun y hy => h y (List.mem_cons_of_mem _ hy))
    exact ⟨z :: zs, rfl⟩

def SomeText (B : Nat) (w : World) (e : Ending) (w' : World) : Prop := (∃ t, e = .returned (.string t)) ∧ Below B w w'
set_option maxHeartbeats 800000 in
set_option maxRecDepth 100000 in
theorem quoteWith (r : Int) (w : World) : Calls Tryf.prog 53 #[.int .i32 r, .int .u8 39, .bool true, .bool false] w (SomeText w.heap.size w) := by
  go_enter Tryf.func53, Tryf.ntmps53
  go_wp2_with fail
  refine (quotedRune r _).mono ?_
  rintro e w2 ⟨v2, n2, xs2, rfl, hb2, hn2, hu2⟩
  obtain ⟨zs, rfl⟩ := u8s_nums hu2
  have hlen : zs.length = n2 := by
    have := hb2.1.1
    simpa using this
  obtain ⟨g, cap, rfl⟩ : ∃ g cap, v2 = .slice (some ⟨g, 0, none⟩) n2 cap := by
    rcases hb2.1.2 with ⟨_, h⟩ | ⟨g, cap, cur, fz, h, _⟩
    · omega
    · exact ⟨g, cap, h⟩
  have hcv := run_convert_bytes_arg (P := Tryf.prog) w2 73 5 Tryf.underlying73 Tryf.underlying5 g 0 n2 cap zs hlen (fun i hi => by
    have := hb2.1.cells (g := g) rfl i (.int .u8 (zs.getD i 0)) (by simp [List.getD, List.getElem?_eq_getElem (show i < zs.length by omega)])
    by_cases h0 : i = 0
    · subst h0
      simpa [Addr.add] using this
    · simpa [Addr.add, h0] using this) 9 Tryf.underlying9
  have HB := Lib.hid hb2.2.1
  clear hb2 hu2
  go_wp2
  go_ret
  exact ⟨⟨_, rfl⟩, HB.out⟩

set_option maxRecDepth 100000 in
theorem quoteRune (r : Int) (w : World) : Calls Tryf.prog 31 #[.int .i32 r] w (SomeText w.heap.size w) := by
  go_enter Tryf.func31, Tryf.ntmps31
  go_wp2_with (go_at_call 53; refine (quoteWith r _).mono ?_; rintro e w1 ⟨⟨t, rfl⟩, hb⟩)
  go_ret
  exact ⟨⟨_, rfl⟩, hb⟩

end Go.Proofs.YthohpccmleodpaaFmt
