/-
  n008_147: the bound on the arguments' bytes, sizes, modes, contexts, lists compared.
-/
import Derived.Test.YtegabjiaekfmbaaFmtArB
import Derived.IntWalk
import Derived.Deep.QuietTactic
import Derived.BigQuiet
import Derived.Laws.Bits64
namespace Go.Proofs.YtegabjiaekfmbaaFmt
open Go Go.RowKit

def BPost (P : Prop) (w : World) (e : Ending) (w' : World) : Prop := (∃ b : Bool, e = .returned (.bool b) ∧ (b = true → P)) ∧ w = w'
theorem BPost.no {P : Prop} (w : World) : BPost P w (.returned (.bool false)) w := ⟨⟨false, rfl, fun h => (by cases h)⟩, rfl⟩
namespace Arr
def Fits (n m : Nat) (zs fz : List ByteArray) (cx : ByteArray) : Prop := n + m + cx.size ≤ 1048576 ∧ (∀ i, i < n → (zs.getD i ByteArray.empty).size ≤ 1048576) ∧ ∀ i, i < m → (fz.getD i ByteArray.empty).size ≤ 1048576
set_option maxHeartbeats 1600000 in
set_option maxRecDepth 100000 in
theorem bytes1 (a : Option Addr) (n c : Nat) (zs : List ByteArray) (fa : Option Addr) (m fc : Nat) (fz : List ByteArray) (cx : ByteArray) (b1 b2 b3 : Bool) (fm : Int) (b4 : Bool) (w : World) (hi : StrsAt w w.heap.size (.slice a n c) zs) (hl : zs.length = n) (hn : n ≤ maxLen) (hm : m ≤ maxLen) (hz : ∀ i, i < n → (zs.getD i ByteArray.empty).size ≤ maxLen)
    (hfi : StrsAt w w.heap.size (.slice fa m fc) fz) (hfl : fz.length = m) (hfz : ∀ i, i < m → (fz.getD i ByteArray.empty).size ≤ maxLen) (hcx : cx.size ≤ maxLen) :
    Calls Tryf.prog 8 #[.slice a n c, .slice fa m fc, .string cx, .bool b1, .bool b2, .bool b3, .int .i64 fm, .bool b4] w fun e w' => BPost (Fits n m zs fz cx) w e w' := by
  unfold maxLen at hn hm hz hfz hcx
  by_cases q1 : 1048576 < n
  · clear hi hl hz hfi hfl hfz
    go_enter Tryf.func8, Tryf.ntmps8
    go_wp2
    all_goals go_ret
    all_goals exact BPost.no w
  have HI := Lib.hid hi
  have HL := Lib.hid hl
  have HZ := Lib.hid hz
  have HFI := Lib.hid hfi
  have HFL := Lib.hid hfl
  have HFZ := Lib.hid hfz
  clear hi hl hz hfi hfl hfz
  go_enter Tryf.func8, Tryf.ntmps8
  go_wp2
  go_loop [17, 18] (fun sm i => ∃ q S : Nat, q ≤ n ∧ i = .int .i64 q ∧ sm = .int .i64 S ∧ S ≤ 1048576 ∧ n ≤ S ∧ Hid (∀ j, j < q → (zs.getD j ByteArray.empty).size ≤ 1048576)) (fun _ i => n - (intOf i).toNat)
  case atStart => exact ⟨0, n, Nat.zero_le _, rfl, by go_num, by omega, by omega, Lib.hid (fun j hj => by omega)⟩
  case round =>
    obtain ⟨q, S, hq, rfl, rfl, hS, hS2, HJ18⟩ := hrel
    by_cases hlt : q < n
    · obtain ⟨b, off, rfl, hb, hcc⟩ := HI.out.cell (k := q) (by rw [HL.out]; exact hlt)
      have hc1 := hcc q (by rw [HL.out]; exact hlt)
      have hs1 := HZ.out q hlt
      have hrec : (zs.getD q ByteArray.empty).size ≤ 1048576 → Hid (∀ j, j < q + 1 → (zs.getD j ByteArray.empty).size ≤ 1048576) := fun h => Lib.hid (fun j hj => by
        by_cases e : j = q
        · rw [e]; exact h
        · exact HJ18.out j (by omega))
      have HR := Lib.hid hrec
      clear hrec
      generalize zs.getD q ByteArray.empty = t at hc1 hs1 HR
      clear hcc
      by_cases hS1 : 1048576 < t.size
      · go_wp2
        all_goals go_ret
        all_goals exact BPost.no w
      by_cases hS3 : 1048576 < S + t.size
      · go_wp2
        all_goals go_ret
        all_goals exact BPost.no w
      go_wp2
      go_round
      case rel => exact ⟨q + 1, S + t.size, by omega, by go_num, by go_num, by omega, by omega, HR.out (by omega)⟩
      case measure => simp [intOf]; omega
    · obtain rfl : q = n := by omega
      by_cases e1 : 1048576 < m
      · go_wp2
        all_goals go_ret
        all_goals exact BPost.no w
      by_cases e2 : 1048576 < S + m
      · go_wp2
        all_goals go_ret
        all_goals exact BPost.no w
      go_wp2
      go_loop [17, 19] (fun sm i => ∃ r S2 : Nat, r ≤ m ∧ i = .int .i64 r ∧ sm = .int .i64 S2 ∧ S2 ≤ 1048576 ∧ q + m ≤ S2 ∧ Hid (∀ j, j < r → (fz.getD j ByteArray.empty).size ≤ 1048576)) (fun _ i => m - (intOf i).toNat)
      case atStart => exact ⟨0, S + m, Nat.zero_le _, rfl, by go_num, by omega, by omega, Lib.hid (fun j hj => by omega)⟩
      case round =>
        obtain ⟨r, S2, hr, rfl, rfl, hS4, hS5, HJ19⟩ := hrel
        by_cases hlt2 : r < m
        · obtain ⟨b, off, rfl, hb, hcc⟩ := HFI.out.cell (k := r) (by rw [HFL.out]; exact hlt2)
          have hc1 := hcc r (by rw [HFL.out]; exact hlt2)
          have hs1 := HFZ.out r hlt2
          have hrec : (fz.getD r ByteArray.empty).size ≤ 1048576 → Hid (∀ j, j < r + 1 → (fz.getD j ByteArray.empty).size ≤ 1048576) := fun h => Lib.hid (fun j hj => by
            by_cases e : j = r
            · rw [e]; exact h
            · exact HJ19.out j (by omega))
          have HR := Lib.hid hrec
          clear hrec
          generalize fz.getD r ByteArray.empty = t at hc1 hs1 HR
          clear hcc
          by_cases hS1 : 1048576 < t.size
          · go_wp2
            all_goals go_ret
            all_goals exact BPost.no w
          by_cases hS3 : 1048576 < S2 + t.size
          · go_wp2
            all_goals go_ret
            all_goals exact BPost.no w
          go_wp2
          go_round
          case rel => exact ⟨r + 1, S2 + t.size, by omega, by go_num, by go_num, by omega, by omega, HR.out (by omega)⟩
          case measure => simp [intOf]; omega
        · obtain rfl : r = m := by omega
          by_cases e3 : 1048576 < cx.size
          · go_wp2
            all_goals go_ret
            all_goals exact BPost.no w
          by_cases e4 : 1048576 < S2 + cx.size
          · go_wp2
            all_goals go_ret
            all_goals exact BPost.no w
          go_wp2
          go_ret
          exact ⟨⟨true, rfl, fun _ => ⟨by omega, HJ18.out, HJ19.out⟩⟩, rfl⟩

set_option maxHeartbeats 1600000 in
set_option maxRecDepth 100000 in
theorem bytes2 (a : Option Addr) (n c : Nat) (zs : List ByteArray) (fa : Option Addr) (m fc : Nat) (fz : List ByteArray) (cx : ByteArray) (b1 b2 b3 : Bool) (fm : Int) (b4 : Bool) (w : World) (hi : StrsAt w w.heap.size (.slice a n c) zs) (hl : zs.length = n) (hn : n ≤ maxLen) (hm : m ≤ maxLen) (hz : ∀ i, i < n → (zs.getD i ByteArray.empty).size ≤ maxLen)
    (hfi : StrsAt w w.heap.size (.slice fa m fc) fz) (hfl : fz.length = m) (hfz : ∀ i, i < m → (fz.getD i ByteArray.empty).size ≤ maxLen) (hcx : cx.size ≤ maxLen) :
    Calls Tryf.prog 42 #[.slice a n c, .slice fa m fc, .string cx, .bool b1, .bool b2, .bool b3, .int .i64 fm, .bool b4] w fun e w' => BPost (Fits n m zs fz cx) w e w' := by
  unfold maxLen at hn hm hz hfz hcx
  by_cases q1 : 1048576 < n
  · clear hi hl hz hfi hfl hfz
    go_enter Tryf.func42, Tryf.ntmps42
    go_wp2
    all_goals go_ret
    all_goals exact BPost.no w
  have HI := Lib.hid hi
  have HL := Lib.hid hl
  have HZ := Lib.hid hz
  have HFI := Lib.hid hfi
  have HFL := Lib.hid hfl
  have HFZ := Lib.hid hfz
  clear hi hl hz hfi hfl hfz
  go_enter Tryf.func42, Tryf.ntmps42
  go_wp2
  go_loop [17, 18] (fun sm i => ∃ q S : Nat, q ≤ n ∧ i = .int .i64 q ∧ sm = .int .i64 S ∧ S ≤ 1048576 ∧ n ≤ S ∧ Hid (∀ j, j < q → (zs.getD j ByteArray.empty).size ≤ 1048576)) (fun _ i => n - (intOf i).toNat)
  case atStart => exact ⟨0, n, Nat.zero_le _, rfl, by go_num, by omega, by omega, Lib.hid (fun j hj => by omega)⟩
  case round =>
    obtain ⟨q, S, hq, rfl, rfl, hS, hS2, HJ18⟩ := hrel
    by_cases hlt : q < n
    · obtain ⟨b, off, rfl, hb, hcc⟩ := HI.out.cell (k := q) (by rw [HL.out]; exact hlt)
      have hc1 := hcc q (by rw [HL.out]; exact hlt)
      have hs1 := HZ.out q hlt
      have hrec : (zs.getD q ByteArray.empty).size ≤ 1048576 → Hid (∀ j, j < q + 1 → (zs.getD j ByteArray.empty).size ≤ 1048576) := fun h => Lib.hid (fun j hj => by
        by_cases e : j = q
        · rw [e]; exact h
        · exact HJ18.out j (by omega))
      have HR := Lib.hid hrec
      clear hrec
      generalize zs.getD q ByteArray.empty = t at hc1 hs1 HR
      clear hcc
      by_cases hS1 : 1048576 < t.size
      · go_wp2
        all_goals go_ret
        all_goals exact BPost.no w
      by_cases hS3 : 1048576 < S + t.size
      · go_wp2
        all_goals go_ret
        all_goals exact BPost.no w
      go_wp2
      go_round
      case rel => exact ⟨q + 1, S + t.size, by omega, by go_num, by go_num, by omega, by omega, HR.out (by omega)⟩
      case measure => simp [intOf]; omega
    · obtain rfl : q = n := by omega
      by_cases e1 : 1048576 < m
      · go_wp2
        all_goals go_ret
        all_goals exact BPost.no w
      by_cases e2 : 1048576 < S + m
      · go_wp2
        all_goals go_ret
        all_goals exact BPost.no w
      go_wp2
      go_loop [17, 19] (fun sm i => ∃ r S2 : Nat, r ≤ m ∧ i = .int .i64 r ∧ sm = .int .i64 S2 ∧ S2 ≤ 1048576 ∧ q + m ≤ S2 ∧ Hid (∀ j, j < r → (fz.getD j ByteArray.empty).size ≤ 1048576)) (fun _ i => m - (intOf i).toNat)
      case atStart => exact ⟨0, S + m, Nat.zero_le _, rfl, by go_num, by omega, by omega, Lib.hid (fun j hj => by omega)⟩
      case round =>
        obtain ⟨r, S2, hr, rfl, rfl, hS4, hS5, HJ19⟩ := hrel
        by_cases hlt2 : r < m
        · obtain ⟨b, off, rfl, hb, hcc⟩ := HFI.out.cell (k := r) (by rw [HFL.out]; exact hlt2)
          have hc1 := hcc r (by rw [HFL.out]; exact hlt2)
          have hs1 := HFZ.out r hlt2
          have hrec : (fz.getD r ByteArray.empty).size ≤ 1048576 → Hid (∀ j, j < r + 1 → (fz.getD j ByteArray.empty).size ≤ 1048576) := fun h => Lib.hid (fun j hj => by
            by_cases e : j = r
            · rw [e]; exact h
            · exact HJ19.out j (by omega))
          have HR := Lib.hid hrec
          clear hrec
          generalize fz.getD r ByteArray.empty = t at hc1 hs1 HR
          clear hcc
          by_cases hS1 : 1048576 < t.size
          · go_wp2
            all_goals go_ret
            all_goals exact BPost.no w
          by_cases hS3 : 1048576 < S2 + t.size
          · go_wp2
            all_goals go_ret
            all_goals exact BPost.no w
          go_wp2
          go_round
          case rel => exact ⟨r + 1, S2 + t.size, by omega, by go_num, by go_num, by omega, by omega, HR.out (by omega)⟩
          case measure => simp [intOf]; omega
        · obtain rfl : r = m := by omega
          by_cases e3 : 1048576 < cx.size
          · go_wp2
            all_goals go_ret
            all_goals exact BPost.no w
          by_cases e4 : 1048576 < S2 + cx.size
          · go_wp2
            all_goals go_ret
            all_goals exact BPost.no w
          go_wp2
          go_ret
          exact ⟨⟨true, rfl, fun _ => ⟨by omega, HJ18.out, HJ19.out⟩⟩, rfl⟩


set_option maxRecDepth 100000 in
theorem strBytes (a : Option Addr) (n c : Nat) (zs : List ByteArray) (w : World) (hi : StrsAt w w.heap.size (.slice a n c) zs) (hl : zs.length = n) (hn : n ≤ 1048576) (hsz : ∀ i, i < n → (zs.getD i ByteArray.empty).size ≤ 1048576) :
    Calls Tryf.prog 43 #[.slice a n c] w fun e w' => (∃ S : Nat, e = .returned (.int .i64 S) ∧ S ≤ 1048577) ∧ w = w' := by
  have HI := Lib.hid hi
  have HL := Lib.hid hl
  have HS := Lib.hid hsz
  clear hi hl hsz
  go_enter Tryf.func43, Tryf.ntmps43
  go_wp2
  go_loop [3, 4] (fun sm i => ∃ q S : Nat, q ≤ n ∧ i = .int .i64 q ∧ sm = .int .i64 S ∧ S ≤ 1048576) (fun _ i => n - (intOf i).toNat)
  case atStart => exact ⟨0, 0, Nat.zero_le _, rfl, rfl, by omega⟩
  case round =>
    obtain ⟨q, S, hq, rfl, rfl, hS⟩ := hrel
    by_cases hlt : q < n
    · obtain ⟨b, off, rfl, hb, hcc⟩ := HI.out.cell (k := q) (by rw [HL.out]; exact hlt)
      have hc1 := hcc q (by rw [HL.out]; exact hlt)
      have hs1 := HS.out q hlt
      generalize zs.getD q ByteArray.empty = t at hc1 hs1
      clear hcc
      by_cases hS2 : 1048576 < S + (16 + t.size)
      · go_wp2
        go_ret
        exact ⟨⟨1048577, rfl, by decide⟩, rfl⟩
      go_wp2
      go_round
      case rel => exact ⟨q + 1, S + (16 + t.size), by omega, by go_num, by go_num, by omega⟩
      case measure => simp [intOf]; omega
    · obtain rfl : q = n := by omega
      go_wp2
      go_ret
      exact ⟨⟨S, rfl, by omega⟩, rfl⟩

theorem mark (s : ByteArray) (w : World) : Calls Tryf.prog 13 #[.string s] w fun e w' => (∃ t : ByteArray, e = .returned (.string t) ∧ t.size ≤ 1) ∧ w = w' := by
  go_enter Tryf.func13, Tryf.ntmps13
  go_wp2
  · go_ret
    exact ⟨⟨_, rfl, by decide⟩, rfl⟩
  · go_ret
    exact ⟨⟨_, rfl, by decide⟩, rfl⟩

end Arr
end Go.Proofs.YtegabjiaekfmbaaFmt
