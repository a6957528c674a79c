/-
  The bound on the arguments' bytes of FnCloneCommaSeparatedExprsSpec.
-/
import Derived.Test.YtegabjiaekfmbaaFmtSpA
namespace Go.Proofs.YtegabjiaekfmbaaFmt.fnCloneCommaSeparatedExprsSpec
open Go Go.RowKit

def Fits (n m k : Nat) (zs fz : List ByteArray) : Prop := n + m + k ≤ 1048576 ∧ (∀ i, i < n → (zs.getD i ByteArray.empty).size ≤ 1048576) ∧ ∀ i, i < k → (fz.getD i ByteArray.empty).size ≤ 1048576
set_option maxHeartbeats 1600000 in
set_option maxRecDepth 100000 in
theorem bytesAt (a : Option Addr) (n c : Nat) (zs : List ByteArray) (pa : Option Addr) (m pc : Nat) (fa : Option Addr) (k fc : Nat) (fz : List ByteArray) (bl : Int) (w : World) (hi : StrsAt w w.heap.size (.slice a n c) zs) (hl : zs.length = n) (hn : n ≤ maxLen) (hm : m ≤ maxLen) (hk : k ≤ maxLen) (hz : ∀ i, i < n → (zs.getD i ByteArray.empty).size ≤ maxLen)
    (hfi : StrsAt w w.heap.size (.slice fa k fc) fz) (hfl : fz.length = k) (hfz : ∀ i, i < k → (fz.getD i ByteArray.empty).size ≤ maxLen) :
    Calls Tryf.prog 34 #[.slice a n c, .slice pa m pc, .slice fa k fc, .int .i64 bl] w fun e w' => BPost (Fits n m k zs fz) w e w' := by
  unfold maxLen at hn hm hk hz hfz
  by_cases q1 : 1048576 < n
  · clear hi hl hz hfi hfl hfz
    go_enter Tryf.func34, Tryf.ntmps34
    go_wp2
    all_goals go_ret
    all_goals exact BPost.no w
  have HI := Lib.hid hi
  have HL := Lib.hid hl
  have HZ := Lib.hid hz
  have HFI := Lib.hid hfi
  have HFL := Lib.hid hfl
  have HFZ := Lib.hid hfz
  clear hi hl hz hfi hfl hfz
  go_enter Tryf.func34, Tryf.ntmps34
  go_wp2
  go_loop [9, 10] (fun sm i => ∃ q S : Nat, q ≤ n ∧ i = .int .i64 q ∧ sm = .int .i64 S ∧ S ≤ 1048576 ∧ n ≤ S ∧ Hid (∀ j, j < q → (zs.getD j ByteArray.empty).size ≤ 1048576)) (fun _ i => n - (intOf i).toNat)
  case atStart => exact ⟨0, n, Nat.zero_le _, rfl, by go_num, by omega, by omega, Lib.hid (fun j hj => by omega)⟩
  case round =>
    obtain ⟨q, S, hq, rfl, rfl, hS, hS2, HJ⟩ := hrel
    by_cases hlt : q < n
    · obtain ⟨b, off, rfl, hb, hcc⟩ := HI.out.cell (k := q) (by rw [HL.out]; exact hlt)
      have hc1 := hcc q (by rw [HL.out]; exact hlt)
      have hs1 := HZ.out q hlt
      have hrec : (zs.getD q ByteArray.empty).size ≤ 1048576 → Hid (∀ j, j < q + 1 → (zs.getD j ByteArray.empty).size ≤ 1048576) := fun h => Lib.hid (fun j hj => by
        by_cases e : j = q
        · rw [e]; exact h
        · exact HJ.out j (by omega))
      have HR := Lib.hid hrec
      clear hrec
      generalize zs.getD q ByteArray.empty = t at hc1 hs1 HR
      clear hcc
      by_cases hS1 : 1048576 < t.size
      · go_wp2
        all_goals go_ret
        all_goals exact BPost.no w
      by_cases hS3 : 1048576 < S + t.size
      · go_wp2
        all_goals go_ret
        all_goals exact BPost.no w
      go_wp2
      go_round
      case rel => exact ⟨q + 1, S + t.size, by omega, by go_num, by go_num, by omega, by omega, HR.out (by omega)⟩
      case measure => simp [intOf]; omega
    · obtain rfl : q = n := by omega
      by_cases e1 : 1048576 < m
      · go_wp2
        all_goals go_ret
        all_goals exact BPost.no w
      by_cases e2 : 1048576 < S + m
      · go_wp2
        all_goals go_ret
        all_goals exact BPost.no w
      by_cases e3 : 1048576 < k
      · go_wp2
        all_goals go_ret
        all_goals exact BPost.no w
      by_cases e4 : 1048576 < S + m + k
      · go_wp2
        all_goals go_ret
        all_goals exact BPost.no w
      go_wp2
      go_loop [9, 11] (fun sm i => ∃ r S2 : Nat, r ≤ k ∧ i = .int .i64 r ∧ sm = .int .i64 S2 ∧ S2 ≤ 1048576 ∧ q + m + k ≤ S2 ∧ Hid (∀ j, j < r → (fz.getD j ByteArray.empty).size ≤ 1048576)) (fun _ i => k - (intOf i).toNat)
      case atStart => exact ⟨0, S + m + k, Nat.zero_le _, rfl, by go_num, by omega, by omega, Lib.hid (fun j hj => by omega)⟩
      case round =>
        obtain ⟨r, S2, hr, rfl, rfl, hS4, hS5, HJ2⟩ := hrel
        by_cases hlt2 : r < k
        · obtain ⟨b, off, rfl, hb, hcc⟩ := HFI.out.cell (k := r) (by rw [HFL.out]; exact hlt2)
          have hc1 := hcc r (by rw [HFL.out]; exact hlt2)
          have hs1 := HFZ.out r hlt2
          have hrec : (fz.getD r ByteArray.empty).size ≤ 1048576 → Hid (∀ j, j < r + 1 → (fz.getD j ByteArray.empty).size ≤ 1048576) := fun h => Lib.hid (fun j hj => by
            by_cases e : j = r
            · rw [e]; exact h
            · exact HJ2.out j (by omega))
          have HR := Lib.hid hrec
          clear hrec
          generalize fz.getD r ByteArray.empty = t at hc1 hs1 HR
          clear hcc
          by_cases hS1 : 1048576 < t.size
          · go_wp2
            all_goals go_ret
            all_goals exact BPost.no w
          by_cases hS3 : 1048576 < S2 + t.size
          · go_wp2
            all_goals go_ret
            all_goals exact BPost.no w
          go_wp2
          go_round
          case rel => exact ⟨r + 1, S2 + t.size, by omega, by go_num, by go_num, by omega, by omega, HR.out (by omega)⟩
          case measure => simp [intOf]; omega
        · obtain rfl : r = k := by omega
          go_wp2
          go_ret
          exact ⟨⟨true, rfl, fun _ => ⟨by omega, HJ.out, HJ2.out⟩⟩, rfl⟩

end Go.Proofs.YtegabjiaekfmbaaFmt.fnCloneCommaSeparatedExprsSpec
