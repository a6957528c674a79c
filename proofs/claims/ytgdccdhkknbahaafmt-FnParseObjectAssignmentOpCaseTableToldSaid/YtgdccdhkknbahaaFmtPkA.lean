/-
  Sums of lengths and looks over kinds (n008_34).
-/
import Derived.Test.YtgdccdhkknbahaaFmtInts
import Derived.Test.YtgdccdhkknbahaaFmtStrs
import Derived.IntWalk
import Derived.Deep.QuietTactic
import Derived.BigQuiet
namespace Go.Proofs.YtgdccdhkknbahaaFmt
open Go Go.RowKit

def BPost (P : Prop) (w : World) (e : Ending) (w' : World) : Prop := (∃ b : Bool, e = .returned (.bool b) ∧ (b = true → P)) ∧ w = w'
theorem BPost.no {P : Prop} (w : World) : BPost P w (.returned (.bool false)) w := ⟨⟨false, rfl, fun h => (by cases h)⟩, rfl⟩

def PkFits (n m : Nat) (zs : List ByteArray) : Prop := n + m ≤ 1048576 ∧ ∀ i, i < m → (zs.getD i ByteArray.empty).size ≤ 1048576
set_option maxRecDepth 100000 in
theorem pkBytes (ka : Option Addr) (n kc : Nat) (cur : Int) (a : Option Addr) (m c : Nat) (zs : List ByteArray) (w : World) (hi : StrsAt w w.heap.size (.slice a m c) zs) (hl : zs.length = m) (hn : n ≤ maxLen) (hm : m ≤ maxLen) (hz : ∀ i, i < m → (zs.getD i ByteArray.empty).size ≤ maxLen) :
    Calls Tryf.prog 19 #[.slice ka n kc, .slice a m c, .int .i64 cur] w fun e w' => BPost (PkFits n m zs) w e w' := by
  unfold maxLen at hn hm hz
  by_cases q1 : 1048576 < n
  · clear hi hl hz
    go_enter Tryf.func19, Tryf.ntmps19
    go_wp2
    all_goals go_ret
    all_goals exact BPost.no w
  by_cases q2 : 1048576 < m
  · clear hi hl hz
    go_enter Tryf.func19, Tryf.ntmps19
    go_wp2
    all_goals go_ret
    all_goals exact BPost.no w
  by_cases q3 : 1048576 < n + m
  · clear hi hl hz
    go_enter Tryf.func19, Tryf.ntmps19
    go_wp2
    all_goals go_ret
    all_goals exact BPost.no w
  have HI := Lib.hid hi
  have HL := Lib.hid hl
  have HZ := Lib.hid hz
  clear hi hl hz
  go_enter Tryf.func19, Tryf.ntmps19
  go_wp2
  go_loop [7, 8] (fun sm i => ∃ q S : Nat, q ≤ m ∧ i = .int .i64 q ∧ sm = .int .i64 S ∧ S ≤ 1048576 ∧ Hid (∀ j, j < q → (zs.getD j ByteArray.empty).size ≤ 1048576)) (fun _ i => m - (intOf i).toNat)
  case atStart => exact ⟨0, n + m, Nat.zero_le _, rfl, by go_num, by omega, Lib.hid (fun j hj => by omega)⟩
  case round =>
    obtain ⟨q, S, hq, rfl, rfl, hS, HJ⟩ := hrel
    by_cases hlt : q < m
    · obtain ⟨b, off, rfl, hb, hcc⟩ := HI.out.cell (k := q) (by rw [HL.out]; exact hlt)
      have hc1 := hcc q (by rw [HL.out]; exact hlt)
      have hs1 := HZ.out q hlt
      have hrec : (zs.getD q ByteArray.empty).size ≤ 1048576 → Hid (∀ j, j < q + 1 → (zs.getD j ByteArray.empty).size ≤ 1048576) := fun h => Lib.hid (fun j hj => by
        by_cases e : j = q
        · rw [e]; exact h
        · exact HJ.out j (by omega))
      have HR := Lib.hid hrec
      clear hrec
      generalize zs.getD q ByteArray.empty = t at hc1 hs1 HR
      clear hcc
      by_cases hS1 : 1048576 < t.size
      · go_wp2
        all_goals go_ret
        all_goals exact BPost.no w
      by_cases hS2 : 1048576 < S + t.size
      · go_wp2
        all_goals go_ret
        all_goals exact BPost.no w
      go_wp2
      go_round
      case rel => exact ⟨q + 1, S + t.size, by omega, by go_num, by go_num, by omega, HR.out (by omega)⟩
      case measure => simp [intOf]; omega
    · obtain rfl : q = m := by omega
      go_wp2
      go_ret
      exact ⟨⟨true, rfl, fun _ => ⟨by omega, HJ.out⟩⟩, rfl⟩

def SomeNat (w : World) (e : Ending) (w' : World) : Prop := (∃ S : Nat, e = .returned (.int .i64 S) ∧ S ≤ 100000000) ∧ w = w'
set_option maxRecDepth 100000 in
theorem pkSum (ka : Option Addr) (n kc : Nat) (a : Option Addr) (m c : Nat) (zs : List ByteArray) (w : World) (hi : StrsAt w w.heap.size (.slice a m c) zs) (hl : zs.length = m) (hn : n ≤ 1048576) (hm : m ≤ 1048576) (hz : ∀ i, i < m → (zs.getD i ByteArray.empty).size ≤ 1048576) :
    Calls Tryf.prog 20 #[.slice ka n kc, .slice a m c] w fun e w' => SomeNat w e w' := by
  have HI := Lib.hid hi
  have HL := Lib.hid hl
  have HZ := Lib.hid hz
  clear hi hl hz
  go_enter Tryf.func20, Tryf.ntmps20
  go_wp2
  go_loop [5, 6] (fun sm i => ∃ q S : Nat, q ≤ m ∧ i = .int .i64 q ∧ sm = .int .i64 S ∧ S ≤ 20000000) (fun _ i => m - (intOf i).toNat)
  case atStart => exact ⟨0, 8 * n + 8 * m, Nat.zero_le _, rfl, by go_num, by omega⟩
  case round =>
    obtain ⟨q, S, hq, rfl, rfl, hS⟩ := hrel
    by_cases hlt : q < m
    · obtain ⟨b, off, rfl, hb, hcc⟩ := HI.out.cell (k := q) (by rw [HL.out]; exact hlt)
      have hc1 := hcc q (by rw [HL.out]; exact hlt)
      have hs1 := HZ.out q hlt
      generalize zs.getD q ByteArray.empty = t at hc1 hs1
      clear hcc
      by_cases hS2 : 1048576 < S + t.size
      · go_wp2
        all_goals go_ret
        all_goals exact ⟨⟨S + t.size, by go_num, by omega⟩, rfl⟩
      go_wp2
      go_round
      case rel => exact ⟨q + 1, S + t.size, by omega, by go_num, by go_num, by omega⟩
      case measure => simp [intOf]; omega
    · obtain rfl : q = m := by omega
      go_wp2
      go_ret
      exact ⟨⟨S, rfl, by omega⟩, rfl⟩

set_option maxRecDepth 100000 in
theorem pkKinds (ka : Option Addr) (n kc : Nat) (ks : List Int) (B : Nat) (w : World) (hi : IntsAt w B (.slice ka n kc) ks) (hl : ks.length = n) (hn : n ≤ 1048576) :
    Calls Tryf.prog 22 #[.slice ka n kc, .int .i64 36] w fun e w' => BPost True w e w' := by
  have HI := Lib.hid hi
  have HL := Lib.hid hl
  clear hi hl
  go_enter Tryf.func22, Tryf.ntmps22
  go_wp2
  go_loop [5] (fun i => ∃ q : Nat, q ≤ n ∧ i = .int .i64 q) (fun i => n - (intOf i).toNat)
  case atStart => exact ⟨0, Nat.zero_le _, rfl⟩
  case round =>
    obtain ⟨q, hq, rfl⟩ := hrel
    by_cases hlt : q < n
    · obtain ⟨b, off, rfl, hb, hcc⟩ := HI.out.cell (k := q) (by rw [HL.out]; exact hlt)
      have hc1 := hcc q (by rw [HL.out]; exact hlt)
      generalize ks.getD q 0 = z at hc1
      clear hcc
      by_cases h1 : z < 0
      · go_wp2
        all_goals go_ret
        all_goals exact BPost.no w
      by_cases h2 : 36 < z
      · go_wp2
        all_goals go_ret
        all_goals exact BPost.no w
      go_wp2
      go_round
      case rel => exact ⟨q + 1, by omega, by go_num⟩
      case measure => simp [intOf]; omega
    · obtain rfl : q = n := by omega
      go_wp2
      go_ret
      exact ⟨⟨true, rfl, fun _ => trivial⟩, rfl⟩

end Go.Proofs.YtgdccdhkknbahaaFmt
