/-
  The bounds on the arguments' lengths; strsBytes; the shims that emit a whole token and read its fodder.
-/
import Derived.Test.YtkciiihffnimpaaFmtFod
import Derived.Test.YtkciiihffnimpaaFmtCopyS
namespace Go.Proofs.YtkciiihffnimpaaFmt
open Go Go.RowKit Go.Shelf

theorem StrsAt.size {w : World} {B : Nat} {v : Value} {zs : List ByteArray} (_ : StrsAt w B v zs) : True := trivial

set_option maxRecDepth 100000 in
theorem strsBytes (a : Option Addr) (n c : Nat) (zs : List ByteArray) (w : World) (hi : StrsAt w w.heap.size (.slice a n c) zs) (hl : zs.length = n) (hn : n ≤ 1048576) (hsz : ∀ i, i < n → (zs.getD i ByteArray.empty).size ≤ 1048576) :
    Calls Tryf.prog 6 #[.slice a n c] w fun e w' => (∃ S : Nat, e = .returned (.int .i64 S) ∧ S ≤ 1099520016384) ∧ w = w' := by
  have HI := Lib.hid hi
  have HL := Lib.hid hl
  have HS := Lib.hid hsz
  clear hi hl hsz
  go_enter Tryf.func6, Tryf.ntmps6
  go_wp2
  go_loop [3, 4] (fun sm i => ∃ q S : Nat, q ≤ n ∧ i = .int .i64 q ∧ sm = .int .i64 S ∧ S ≤ 8 * n + 1048576 * q) (fun _ i => n - (intOf i).toNat)
  case atStart => exact ⟨0, 8 * n, Nat.zero_le _, rfl, by go_num, by omega⟩
  case round =>
    obtain ⟨q, S, hq, rfl, rfl, hS⟩ := hrel
    by_cases hlt : q < n
    · obtain ⟨b, off, rfl, hb, hcc⟩ := HI.out.cell (k := q) (by rw [HL.out]; exact hlt)
      have hc1 := hcc q (by rw [HL.out]; exact hlt)
      have hs1 := HS.out q hlt
      generalize zs.getD q ByteArray.empty = t at hc1 hs1
      clear hcc
      go_wp2
      go_round
      case rel => exact ⟨q + 1, S + t.size, by omega, by go_num, by go_num, by omega⟩
      case measure => simp [intOf]; omega
    · obtain rfl : q = n := by omega
      go_wp2
      go_ret
      exact ⟨⟨S, rfl, by omega⟩, rfl⟩

def BPost (P : Prop) (w : World) (e : Ending) (w' : World) : Prop := (∃ b : Bool, e = .returned (.bool b) ∧ (b = true → P)) ∧ w = w'
theorem BPost.no {P : Prop} (w : World) : BPost P w (.returned (.bool false)) w := ⟨⟨false, rfl, fun h => (by cases h)⟩, rfl⟩

def FullB (s da si st : ByteArray) (n : Nat) (zs : List ByteArray) : Prop := s.size ≤ 1048576 ∧ da.size ≤ 1048576 ∧ si.size ≤ 1048576 ∧ st.size ≤ 1048576 ∧ n ≤ 1048576 ∧ ∀ i, i < n → (zs.getD i ByteArray.empty).size ≤ 1048576

theorem zzEmitFull (a : Nat) (L : LexSt) (k : Int) (data si st : ByteArray) (B n : Nat) (xs : List Value) (w : World) (h : LexAt w a L) (p : Option Addr) (hp : L.src = .pointer p) (fp : Option Addr) (fn fc : Nat) (hf : L.fod = .slice fp fn fc)
    (hown : w.ownsRow B 68 11 L.toks n xs) (hne : L.toks.ownBlock ≠ some a) (hB : B ≤ w.heap.size) (hn : n ≤ 1000000000000) (hb1 : L.bn ≤ 1099511627776) (hs0 : 0 ≤ L.ls) (hs1 : L.ls ≤ L.bn) :
    Calls Tryf.prog 21 #[.pointer (some ⟨a, 0, none⟩), .int .i64 k, .string data, .string si, .string st] w (Emitted w a L B n xs data si st k) := by
  have H := Lib.hid (emitFullToken a L k data si st B n xs w h p hp fp fn fc hf hown hne hB hn hb1 hs0 hs1)
  clear h hown hp hf
  go_enter Tryf.func21, Tryf.ntmps21
  go_wp2_with fail
  refine H.out.mono ?_
  rintro e w1 ⟨rfl, H1⟩
  have HH1 := Lib.hid H1
  clear H1
  go_wp2
  go_end0
  exact ⟨rfl, HH1.out⟩

set_option maxRecDepth 100000 in
theorem zzTokFodAt (a g n cap i : Nat) (z y : Int) (hz : z = i) (L : LexSt) (w : World) (h : LexAt w a L) (hL : L.toks = .slice (some ⟨g, 0, none⟩) n cap) (hi : i < n) (_hn : n ≤ 1000000000) (gf fn fc j : Nat) (hy : y = j) (hj : j < fn) (_hfn : fn ≤ 1000000000)
    (hrow : w.cell? ⟨g, i * 11, none⟩ = some (.slice (some ⟨gf, 0, none⟩) fn fc)) (p : Option Addr) (m c : Nat) (k bl ind : Int)
    (hfod : ∀ r, r < 4 → w.cell? ⟨gf, j * 4 + r, none⟩ = (fodCells (.slice p m c) k bl ind)[r]?) :
    Calls Tryf.prog 23 #[.pointer (some ⟨a, 0, none⟩), .int .i64 z, .int .i64 y] w fun e w' => e = .returned (.tuple #[.int .i64 k, .int .i64 bl, .int .i64 ind, .slice p m c]) ∧ Below w.heap.size w w' := by
  subst hz hy
  have c4 : w.cell? ⟨a, 4, none⟩ = some (.slice (some ⟨g, 0, none⟩) n cap) := (h.cell 4).trans (by rw [← hL]; rfl)
  have r0 := hfod 0 (by omega)
  have r1 := hfod 1 (by omega)
  have r2 := hfod 2 (by omega)
  have r3 := hfod 3 (by omega)
  simp only [fodCells, List.getElem?_cons_zero, List.getElem?_cons_succ, Nat.add_zero] at r0 r1 r2 r3
  have q0 : (0 : Int) ≤ (i : Int) := Int.natCast_nonneg _
  have q1 : (i : Int) < (n : Int) := by omega
  have q2 : (0 : Int) ≤ (j : Int) := Int.natCast_nonneg _
  have q3 : (j : Int) < (fn : Int) := by omega
  clear hfod h
  go_enter Tryf.func23, Tryf.ntmps23
  go_wp2_with fail
  go_quiet (fail)
  go_wp2
  exact bodyPost_ret (v := .tuple #[.int .i64 k, .int .i64 bl, .int .i64 ind, .slice p m c]) (by simp [results, Tryf.results23, go_sem]) rfl ⟨rfl, drewN_below ((Below.refl _ w).alloc (Nat.le_refl _) _) _⟩

end Go.Proofs.YtkciiihffnimpaaFmt
