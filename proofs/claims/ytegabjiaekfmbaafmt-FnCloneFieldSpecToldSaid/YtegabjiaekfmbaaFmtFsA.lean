/-
  The bound on the arguments' bytes of FnCloneFieldSpec.
-/
import Derived.Test.YtegabjiaekfmbaaFmtFnE
import Derived.Test.YtegabjiaekfmbaaFmtIdsA
namespace Go.Proofs.YtegabjiaekfmbaaFmt.fnCloneFieldSpec
open Go Go.RowKit

def Fits (id e1 e2 e3 : ByteArray) (n : Nat) (zs : List ByteArray) : Prop := id.size + e1.size + e2.size + e3.size + n ≤ 1048576 ∧ ∀ i, i < n → (zs.getD i ByteArray.empty).size ≤ 1048576
set_option maxHeartbeats 800000 in
set_option maxRecDepth 100000 in
theorem bytesAt (kd hd : Int) (ss : Bool) (id e1 e2 e3 : ByteArray) (pr : Int) (a : Option Addr) (n c : Nat) (zs : List ByteArray) (ln : Int) (w : World) (hi : StrsAt w w.heap.size (.slice a n c) zs) (hl : zs.length = n) (hn : n ≤ maxLen) (h_id : id.size ≤ maxLen) (h_e1 : e1.size ≤ maxLen) (h_e2 : e2.size ≤ maxLen) (h_e3 : e3.size ≤ maxLen) (hz : ∀ i, i < n → (zs.getD i ByteArray.empty).size ≤ maxLen) :
    Calls Tryf.prog 19 #[.int .i64 kd, .int .i64 hd, .bool ss, .string id, .string e1, .string e2, .string e3, .int .u8 pr, .slice a n c, .int .i64 ln] w fun e w' => BPost (Fits id e1 e2 e3 n zs) w e w' := by
  unfold maxLen at hn hz h_id h_e1 h_e2 h_e3
  by_cases q0 : 1048576 < id.size
  · clear hi hl hz
    go_enter Tryf.func19, Tryf.ntmps19
    go_wp2
    all_goals go_ret
    all_goals exact BPost.no w
  by_cases q1 : 1048576 < e1.size
  · clear hi hl hz
    go_enter Tryf.func19, Tryf.ntmps19
    go_wp2
    all_goals go_ret
    all_goals exact BPost.no w
  by_cases q2 : 1048576 < id.size + e1.size
  · clear hi hl hz
    go_enter Tryf.func19, Tryf.ntmps19
    go_wp2
    all_goals go_ret
    all_goals exact BPost.no w
  by_cases q3 : 1048576 < e2.size
  · clear hi hl hz
    go_enter Tryf.func19, Tryf.ntmps19
    go_wp2
    all_goals go_ret
    all_goals exact BPost.no w
  by_cases q4 : 1048576 < id.size + e1.size + e2.size
  · clear hi hl hz
    go_enter Tryf.func19, Tryf.ntmps19
    go_wp2
    all_goals go_ret
    all_goals exact BPost.no w
  by_cases q5 : 1048576 < e3.size
  · clear hi hl hz
    go_enter Tryf.func19, Tryf.ntmps19
    go_wp2
    all_goals go_ret
    all_goals exact BPost.no w
  by_cases q6 : 1048576 < id.size + e1.size + e2.size + e3.size
  · clear hi hl hz
    go_enter Tryf.func19, Tryf.ntmps19
    go_wp2
    all_goals go_ret
    all_goals exact BPost.no w
  by_cases q7 : 1048576 < n
  · clear hi hl hz
    go_enter Tryf.func19, Tryf.ntmps19
    go_wp2
    all_goals go_ret
    all_goals exact BPost.no w
  by_cases q8 : 1048576 < id.size + e1.size + e2.size + e3.size + n
  · clear hi hl hz
    go_enter Tryf.func19, Tryf.ntmps19
    go_wp2
    all_goals go_ret
    all_goals exact BPost.no w
  have HI := Lib.hid hi
  have HL := Lib.hid hl
  have HZ := Lib.hid hz
  clear hi hl hz
  go_enter Tryf.func19, Tryf.ntmps19
  go_wp2
  go_loop [21, 22] (fun sm i => ∃ q S : Nat, q ≤ n ∧ i = .int .i64 q ∧ sm = .int .i64 S ∧ S ≤ 1048576 ∧ Hid (∀ j, j < q → (zs.getD j ByteArray.empty).size ≤ 1048576)) (fun _ i => n - (intOf i).toNat)
  case atStart => exact ⟨0, id.size + e1.size + e2.size + e3.size + n, Nat.zero_le _, rfl, by go_num, by omega, Lib.hid (fun j hj => by omega)⟩
  case round =>
    obtain ⟨q, S, hq, rfl, rfl, hS, HJ⟩ := hrel
    by_cases hlt : q < n
    · obtain ⟨b, off, rfl, hb, hcc⟩ := HI.out.cell (k := q) (by rw [HL.out]; exact hlt)
      have hc1 := hcc q (by rw [HL.out]; exact hlt)
      have hs1 := HZ.out q hlt
      have hrec : (zs.getD q ByteArray.empty).size ≤ 1048576 → Hid (∀ j, j < q + 1 → (zs.getD j ByteArray.empty).size ≤ 1048576) := fun h => Lib.hid (fun j hj => by
        by_cases e : j = q
        · rw [e]; exact h
        · exact HJ.out j (by omega))
      have HR := Lib.hid hrec
      clear hrec
      generalize zs.getD q ByteArray.empty = t at hc1 hs1 HR
      clear hcc
      by_cases hS1 : 1048576 < t.size
      · go_wp2
        all_goals go_ret
        all_goals exact BPost.no w
      by_cases hS2 : 1048576 < S + t.size
      · go_wp2
        all_goals go_ret
        all_goals exact BPost.no w
      go_wp2
      go_round
      case rel => exact ⟨q + 1, S + t.size, by omega, by go_num, by go_num, by omega, HR.out (by omega)⟩
      case measure => simp [intOf]; omega
    · obtain rfl : q = n := by omega
      go_wp2
      go_ret
      exact ⟨⟨true, rfl, fun _ => ⟨by omega, HJ.out⟩⟩, rfl⟩

end Go.Proofs.YtegabjiaekfmbaaFmt.fnCloneFieldSpec
