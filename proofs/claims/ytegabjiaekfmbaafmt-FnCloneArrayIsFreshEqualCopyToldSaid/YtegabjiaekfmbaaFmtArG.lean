/-
  n008_147: the guard.
-/
import Derived.Test.YtegabjiaekfmbaaFmtArD
import Derived.Deep.Cut
namespace Go.Proofs.YtegabjiaekfmbaaFmt
open Go Go.RowKit
namespace Arr

def TooPost (n m : Nat) (w : World) (e : Ending) (w' : World) : Prop := (∃ b : Bool, e = .returned (.bool b) ∧ (b = false → n ≤ 65536 ∧ m ≤ 65536)) ∧ ∃ k, w' = w.drewN k
theorem TooPost.yes (n m : Nat) (w : World) (k : Nat) : TooPost n m w (.returned (.bool true)) (w.drewN k) := ⟨⟨true, rfl, fun h => by cases h⟩, k, rfl⟩
set_option maxHeartbeats 1600000 in
set_option maxRecDepth 100000 in
/-- The guard. -/
theorem tooBig (a : Option Addr) (n c : Nat) (zs : List ByteArray) (fa : Option Addr) (m fc : Nat) (fz : List ByteArray) (cx : ByteArray) (w : World) (hi : StrsAt w w.heap.size (.slice a n c) zs) (hl : zs.length = n) (hfi : StrsAt w w.heap.size (.slice fa m fc) fz) (hfl : fz.length = m) (hf : Fits n m zs fz cx) :
    Calls Tryf.prog 9 #[.slice a n c, .slice fa m fc, .string cx] w (TooPost n m w) := by
  obtain ⟨hf1, hf2, hf3⟩ := hf
  by_cases q1 : 65536 < n
  · clear hi hl hfi hfl hf2 hf3
    go_enter Tryf.func9, Tryf.ntmps9
    go_wp2
    all_goals go_ret
    all_goals exact TooPost.yes n m w 0
  by_cases q2 : 65536 < m
  · clear hi hl hfi hfl hf2 hf3
    go_enter Tryf.func9, Tryf.ntmps9
    go_wp2
    all_goals go_ret
    all_goals exact TooPost.yes n m w 0
  have q3 : ¬ 1048576 < cx.size := by omega
  have H1 := Lib.hid (strSum a n c zs w hi hl (by omega) hf2)
  have H2 := Lib.hid (strSum fa m fc fz w hfi hfl (by omega) hf3)
  have l1 := sumB_le zs n
  have l2 := sumB_le fz m
  generalize sumB zs n = S1 at H1 l1
  generalize sumB fz m = S2 at H2 l2
  clear hi hl hfi hfl hf2 hf3
  have i1 : ¬ (65536 : Int) < (n : Int) := by omega
  have i2 : ¬ (65536 : Int) < (m : Int) := by omega
  have i3 : ¬ (1048576 : Int) < (cx.size : Int) := by omega
  have d1 : decide ((65536 : Int) < (n : Int)) = false := decide_eq_false i1
  have d2 : decide ((65536 : Int) < (m : Int)) = false := decide_eq_false i2
  have d3 : decide ((1048576 : Int) < (cx.size : Int)) = false := decide_eq_false i3
  by_cases e1 : 1048576 < S1 + S2 + cx.size
  · go_enter Tryf.func9, Tryf.ntmps9
    go_wp2_with fail
    refine H1.out.mono ?_
    rintro e w' ⟨rfl, rfl⟩
    go_wp2_with fail
    refine H2.out.mono ?_
    rintro e w' ⟨rfl, rfl⟩
    go_wp2
    go_ret
    exact TooPost.yes n m _ 0
  by_cases hm0 : m = 0
  · have k1 : ¬ (0 : Int) < (m : Int) := by omega
    have k2 : decide ((0 : Int) < (m : Int)) = false := decide_eq_false k1
    have hm := Lib.hid hm0
    clear hm0
    go_enter Tryf.func9, Tryf.ntmps9
    go_wp2_with fail
    refine H1.out.mono ?_
    rintro e w' ⟨rfl, rfl⟩
    go_wp2_with fail
    refine H2.out.mono ?_
    rintro e w' ⟨rfl, rfl⟩
    go_wp2
    go_ret
    exact ⟨⟨false, rfl, fun _ => ⟨by omega, by omega⟩⟩, 0, rfl⟩
  have j1 : (0 : Int) < (m : Int) := by omega
  go_enter Tryf.func9, Tryf.ntmps9
  go_wp2_with fail
  refine H1.out.mono ?_
  rintro e w' ⟨rfl, rfl⟩
  go_wp2_with fail
  refine H2.out.mono ?_
  rintro e w' ⟨rfl, rfl⟩
  go_upto_region 5 with (fail)
  have j2 : ((m : Int) == 0) = false := beq_eq_false_iff_ne.2 (by omega)
  have j3 : ¬ (m : Int) = 0 := by omega
  obtain ⟨Qt, hQ, hQ2⟩ : ∃ Qt : Nat, Int.tdiv 1048576 (m : Int) = (Qt : Int) ∧ Qt ≤ 1048576 := ⟨1048576 / m, by rw [Int.tdiv_eq_ediv_of_nonneg (by omega)]; exact (Int.natCast_ediv 1048576 m).symm, Nat.div_le_self _ _⟩
  have hQ3 : (1048576 : Int) / (m : Int) = (Qt : Int) := by rw [← hQ, Int.tdiv_eq_ediv_of_nonneg (by omega)]
  go_wp2
  · go_ret
    exact TooPost.yes n m _ 0
  · go_ret
    exact ⟨⟨false, rfl, fun _ => ⟨by omega, by omega⟩⟩, 0, rfl⟩

end Arr
end Go.Proofs.YtegabjiaekfmbaaFmt
