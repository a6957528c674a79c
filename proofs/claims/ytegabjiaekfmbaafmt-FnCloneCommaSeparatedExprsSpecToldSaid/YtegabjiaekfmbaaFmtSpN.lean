/-
  FnCloneCommaSeparatedExprsSpec at a nil list of ids.
-/
import Derived.Test.YtegabjiaekfmbaaFmtSpC
namespace Go.Proofs.YtegabjiaekfmbaaFmt.fnCloneCommaSeparatedExprsSpec
open Go Go.RowKit

set_option maxHeartbeats 3200000 in
set_option maxRecDepth 100000 in
theorem walk_nil (pa : Option Addr) (m pc : Nat) (fa : Option Addr) (k fc : Nat) (fz : List ByteArray) (bl : Int) (w : World) (hm : m ≤ maxLen)
    (hfi : StrsAt w w.heap.size (.slice fa k fc) fz) (hfl : fz.length = k) (hk : k ≤ maxLen) (hfz : ∀ i, i < k → (fz.getD i ByteArray.empty).size ≤ maxLen) :
    Calls Tryf.prog 5 #[.slice none 0 0, .slice pa m pc, .slice fa k fc, .int .i64 bl] w fun e w' => e = .returned (.bool true) ∧ Below w.heap.size w w' := by
  obtain ⟨j0, hj0, hy0, hy1, hy2⟩ := info_parts infoVarP
  have HFI := Lib.hid hfi
  have HFL := Lib.hid hfl
  have HZ := Lib.hid (bytesAt none 0 0 [] pa m pc fa k fc fz bl w .isNil rfl (Nat.zero_le _) hm hk (fun i h => absurd h (by omega)) hfi hfl hfz)
  clear hfi hfl hfz
  unfold maxLen at hm hk
  have qn : ∀ (w : World) (a : Option Addr) (n c n' c' : Nat), (binOp .neq 22 (.slice a n c) (.slice none n' c')).run Tryf.prog w = .ok (.bool (!a.isNone)) w := fun w a n c n' c' => run_neq_slice_nil_any w _ _ a n c n' c' Tryf.underlying22
  go_enter Tryf.func5, Tryf.ntmps5
  go_wp2_with fail
  refine HZ.out.mono ?_
  rintro e w' ⟨⟨b, rfl, hb⟩, rfl⟩
  cases b with
  | false =>
    go_wp2
    go_ret
    exact ⟨rfl, Below.refl _ _⟩
  | true =>
  obtain ⟨hsum, _, hff⟩ := hb rfl
  have HFF := Lib.hid hff
  clear hb hff HZ
  by_cases e2 : 65536 < m
  · go_wp2
    go_ret
    exact ⟨rfl, Below.refl _ _⟩
  have d2 : decide (65536 < m) = false := decide_eq_false e2
  by_cases e0 : 65536 < k
  · go_wp2
    go_ret
    exact ⟨rfl, Below.refl _ _⟩
  have d0 : decide (65536 < k) = false := decide_eq_false e0
  go_wp2_with fail
  refine (strBytes none 0 0 [] w .isNil rfl (by omega) (fun i h => absurd h (by omega))).mono ?_
  rintro e w' ⟨⟨S, rfl, hS, _⟩, rfl⟩
  go_wp2_with fail
  refine (strBytes fa k fc fz w HFI.out HFL.out (by omega) HFF.out).mono ?_
  rintro e w' ⟨⟨S2, rfl, hS2, _⟩, rfl⟩
  by_cases e3 : 1048576 < S + m + S2
  · go_wp2
    go_ret
    exact ⟨rfl, Below.refl _ _⟩
  by_cases hk0 : 0 < k
  · by_cases e9 : 1048576 / (16 * (k : Int)) < 0
    · go_wp2
      all_goals go_ret
      all_goals exact ⟨rfl, Below.refl _ _⟩
    go_wp2_with (refine wpList_make_full _ rfl _ _ 30 rfl w.heap.size 57 j0 _ 1 Tryf.underlying30 hj0 hy0 hy1 .i64 .i64 _ _ 0 rfl rfl rfl rfl (by rw [hy2]; omega) (by unfold maxLen; omega) (Nat.le_refl _) ?_; intro w2 hown2 hg2; have HB2 := Lib.hid ((Below.refl w.heap.size w).grown hg2 (Nat.le_refl _) (by simp)); clear hown2 hg2)
    go_loopw [11] (fun i wr => i = .int .i64 0 ∧ Hid (Below w.heap.size w wr)) (fun _ _ => 0)
    case atStart => exact ⟨rfl, HB2⟩
    case round =>
      obtain ⟨rfl, HBR⟩ := hrel
      go_wp2_with fail
      refine (zzClone none 0 0 (fun _ => .nilIface) (fun _ => .nilIface) (fun _ => .nil) wr (fun h => absurd h (by omega)) (fun _ => rfl) (fun i h => absurd h (by omega)) (fun i h => absurd h (by omega)) (by omega)).mono ?_
      rintro e w3 ⟨g1, c1, u1, rfl, _, _, _, _, hb3⟩
      have HB3 := Lib.hid (HBR.out.trans (hb3.mono HBR.out.size))
      have qc : ∀ (w : World) (a : Option Addr) (n c n' c' : Nat), (binOp .eql 34 (.slice a n c) (.slice none n' c')).run Tryf.prog w = .ok (.bool a.isNone) w := fun w a n c n' c' => Lib.run_eql_slice_nil w _ _ a n c n' c' Tryf.underlying34
      clear hb3 HBR
      go_wp2
      go_loopw [13] (fun i wr => i = .int .i64 0 ∧ Hid (Below w.heap.size w wr)) (fun _ _ => 0)
      case atStart => exact ⟨rfl, HB3⟩
      case round =>
        obtain ⟨rfl, HBR⟩ := hrel
        go_wp2
        go_ret
        exact ⟨rfl, HBR.out⟩
  · skip
    go_wp2_with (refine wpList_make_full _ rfl _ _ 30 rfl w.heap.size 57 j0 _ 1 Tryf.underlying30 hj0 hy0 hy1 .i64 .i64 _ _ 0 rfl rfl rfl rfl (by rw [hy2]; omega) (by unfold maxLen; omega) (Nat.le_refl _) ?_; intro w2 hown2 hg2; have HB2 := Lib.hid ((Below.refl w.heap.size w).grown hg2 (Nat.le_refl _) (by simp)); clear hown2 hg2)
    go_loopw [11] (fun i wr => i = .int .i64 0 ∧ Hid (Below w.heap.size w wr)) (fun _ _ => 0)
    case atStart => exact ⟨rfl, HB2⟩
    case round =>
      obtain ⟨rfl, HBR⟩ := hrel
      go_wp2_with fail
      refine (zzClone none 0 0 (fun _ => .nilIface) (fun _ => .nilIface) (fun _ => .nil) wr (fun h => absurd h (by omega)) (fun _ => rfl) (fun i h => absurd h (by omega)) (fun i h => absurd h (by omega)) (by omega)).mono ?_
      rintro e w3 ⟨g1, c1, u1, rfl, _, _, _, _, hb3⟩
      have HB3 := Lib.hid (HBR.out.trans (hb3.mono HBR.out.size))
      have qc : ∀ (w : World) (a : Option Addr) (n c n' c' : Nat), (binOp .eql 34 (.slice a n c) (.slice none n' c')).run Tryf.prog w = .ok (.bool a.isNone) w := fun w a n c n' c' => Lib.run_eql_slice_nil w _ _ a n c n' c' Tryf.underlying34
      clear hb3 HBR
      go_wp2
      go_loopw [13] (fun i wr => i = .int .i64 0 ∧ Hid (Below w.heap.size w wr)) (fun _ _ => 0)
      case atStart => exact ⟨rfl, HB3⟩
      case round =>
        obtain ⟨rfl, HBR⟩ := hrel
        go_wp2
        go_ret
        exact ⟨rfl, HBR.out⟩
end Go.Proofs.YtegabjiaekfmbaaFmt.fnCloneCommaSeparatedExprsSpec
