/-
  FnEmitFullTokenHandsOverFodderOnce: the bound on the arguments' lengths; the shim that hands a token over, with the block of the new fodder.
-/
import Derived.Test.YtkciiihffnimpaaFmtHoA
namespace Go.Proofs.YtkciiihffnimpaaFmt
open Go Go.RowKit Go.Shelf

theorem zzEmitFullM (a : Nat) (L : LexSt) (k : Int) (data si st : ByteArray) (B n : Nat) (xs : List Value) (w : World) (h : LexAt w a L) (p : Option Addr) (hp : L.src = .pointer p) (fp : Option Addr) (fn fc : Nat) (hf : L.fod = .slice fp fn fc)
    (hown : w.ownsRow B 68 11 L.toks n xs) (hne : L.toks.ownBlock ≠ some a) (hB : B ≤ w.heap.size) (hn : n ≤ 1000000000000) (hb1 : L.bn ≤ 1099511627776) (hs0 : 0 ≤ L.ls) (hs1 : L.ls ≤ L.bn) :
    Calls Tryf.prog 21 #[.pointer (some ⟨a, 0, none⟩), .int .i64 k, .string data, .string si, .string st] w (EmittedM w a L B n xs data si st k) := by
  have H := Lib.hid (emitFullTokenM a L k data si st B n xs w h p hp fp fn fc hf hown hne hB hn hb1 hs0 hs1)
  clear h hown hp hf
  go_enter Tryf.func21, Tryf.ntmps21
  go_wp2_with fail
  refine H.out.mono ?_
  rintro e w1 ⟨rfl, H1⟩
  have HH1 := Lib.hid H1
  clear H1
  go_wp2
  go_end0
  exact ⟨rfl, HH1.out⟩

def HoB (s : ByteArray) (n1 n : Nat) (zs : List ByteArray) : Prop := s.size ≤ 1048576 ∧ n1 ≤ 1048576 ∧ n ≤ 1048576 ∧ ∀ i, i < n → (zs.getD i ByteArray.empty).size ≤ 1048576

set_option maxHeartbeats 1600000 in
set_option maxRecDepth 100000 in
theorem zzBytesHo (s : ByteArray) (a1 a : Option Addr) (n1 c1 n c : Nat) (zs : List ByteArray) (w : World) (hi : StrsAt w w.heap.size (.slice a n c) zs) (hl : zs.length = n) (h0 : s.size ≤ maxLen) (h1 : n1 ≤ maxLen) (hn : n ≤ maxLen) (hz : ∀ i, i < n → (zs.getD i ByteArray.empty).size ≤ maxLen) :
    Calls Tryf.prog 20 #[.string s, .slice a1 n1 c1, .slice a n c] w (BPost (HoB s n1 n zs) w) := by
  unfold maxLen at hn h0 h1 hz
  have HI := Lib.hid hi
  have HL := Lib.hid hl
  have HZ := Lib.hid hz
  clear hi hl hz
  by_cases q0 : 1048576 < s.size
  · clear HI HL HZ
    go_enter Tryf.func20, Tryf.ntmps20
    go_wp2
    all_goals go_ret
    all_goals exact BPost.no w
  have p0 : s.size ≤ 1048576 := by omega
  by_cases q1 : 1048576 < n1
  · clear HI HL HZ
    go_enter Tryf.func20, Tryf.ntmps20
    go_wp2
    all_goals go_ret
    all_goals exact BPost.no w
  have p1 : n1 ≤ 1048576 := by omega
  by_cases q01 : 1048576 < s.size + n1
  · clear HI HL HZ
    go_enter Tryf.func20, Tryf.ntmps20
    go_wp2
    all_goals go_ret
    all_goals exact BPost.no w
  have p01 : s.size + n1 ≤ 1048576 := by omega
  by_cases q2 : 1048576 < n
  · clear HI HL HZ
    go_enter Tryf.func20, Tryf.ntmps20
    go_wp2
    all_goals go_ret
    all_goals exact BPost.no w
  have p2 : n ≤ 1048576 := by omega
  by_cases q02 : 1048576 < s.size + n1 + n
  · clear HI HL HZ
    go_enter Tryf.func20, Tryf.ntmps20
    go_wp2
    all_goals go_ret
    all_goals exact BPost.no w
  have p02 : s.size + n1 + n ≤ 1048576 := by omega
  go_enter Tryf.func20, Tryf.ntmps20
  go_wp2
  go_loop [7, 8] (fun z i => ∃ q S : Nat, q ≤ n ∧ i = .int .i64 q ∧ z = .int .i64 S ∧ S ≤ 1048576 ∧ Hid (∀ i, i < q → (zs.getD i ByteArray.empty).size ≤ 1048576)) (fun _ i => n - (intOf i).toNat)
  case atStart => exact ⟨0, s.size + n1 + n, Nat.zero_le _, rfl, by go_num, by omega, Lib.hid (fun i hi => absurd hi (by omega))⟩
  case round =>
    obtain ⟨q, S, hq, rfl, rfl, hS, HQ⟩ := hrel
    by_cases hlt : q < n
    · obtain ⟨b, off, rfl, hb, hcc⟩ := HI.out.cell (k := q) (by rw [HL.out]; exact hlt)
      have hc1 := hcc q (by rw [HL.out]; exact hlt)
      have hs1 := HZ.out q hlt
      have hnx : (zs.getD q ByteArray.empty).size ≤ 1048576 → ∀ i, i < q + 1 → (zs.getD i ByteArray.empty).size ≤ 1048576 := fun h i hi => by
        by_cases hiq : i < q
        · exact HQ.out i hiq
        · obtain rfl : i = q := by omega
          exact h
      have HNX := Lib.hid hnx
      generalize zs.getD q ByteArray.empty = t at hc1 hs1 HNX
      clear hcc hnx
      by_cases u1 : 1048576 < t.size
      · go_wp2
        all_goals go_ret
        all_goals exact BPost.no w
      have u2 : t.size ≤ 1048576 := by omega
      by_cases u3 : 1048576 < S + t.size
      · go_wp2
        all_goals go_ret
        all_goals exact BPost.no w
      have u4 : S + t.size ≤ 1048576 := by omega
      go_wp2
      go_round
      case rel => exact ⟨q + 1, S + t.size, by omega, by go_num, by go_num, u4, Lib.hid (HNX.out u2)⟩
      case measure => simp [intOf]; omega
    · obtain rfl : q = n := by omega
      go_wp2
      go_ret
      exact ⟨⟨true, rfl, fun _ => ⟨p0, p1, p2, HQ.out⟩⟩, rfl⟩

end Go.Proofs.YtkciiihffnimpaaFmt
