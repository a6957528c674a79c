/-
  Lists of identifiers out of strings; sums of lengths; lists compared (n008_19).
-/
import Derived.Test.YtegabjiaekfmbaaFmtCloneA
import Derived.IntWalk
import Derived.Deep.QuietTactic
import Derived.BigQuiet
namespace Go.Proofs.YtegabjiaekfmbaaFmt
open Go Go.RowKit

def BPost (P : Prop) (w : World) (e : Ending) (w' : World) : Prop := (∃ b : Bool, e = .returned (.bool b) ∧ (b = true → P)) ∧ w = w'
theorem BPost.no {P : Prop} (w : World) : BPost P w (.returned (.bool false)) w := ⟨⟨false, rfl, fun h => (by cases h)⟩, rfl⟩
theorem fill_step (xs : List Value) (n k : Nat) (hz : xs.length = n) (hk : k < n) (z u : Value) (hu : xs[k]? = some u) : (xs.take k ++ List.replicate (n - k) z).set k u = xs.take (k + 1) ++ List.replicate (n - (k + 1)) z := by
  have hl : (xs.take k).length = k := by rw [List.length_take]; omega
  have hr : List.replicate (n - k) z = z :: List.replicate (n - (k + 1)) z := by
    rw [show n - k = (n - (k + 1)) + 1 by omega, List.replicate_succ]
  have hu' : xs[k]'(by omega) = u := by
    rw [List.getElem?_eq_getElem (by omega)] at hu
    exact Option.some.inj hu
  rw [List.set_append_right _ _ (by omega), hl, Nat.sub_self, hr, List.set_cons_zero, List.take_succ_eq_append_getElem (by omega), hu']
  simp

set_option maxRecDepth 100000 in
theorem mkIdents_some (A : Addr) (n cap : Nat) (zs : List ByteArray) (hz : zs.length = n) (w : World) (hc : 0 < n → ∃ b off, A = ⟨b, off, none⟩ ∧ b < w.heap.size ∧ ∀ i, i < n → w.cell? ⟨b, off + i, none⟩ = some (.string (zs.getD i ByteArray.empty))) (hn : n ≤ 1048576) :
    Calls Tryf.prog 35 #[.slice (some A) n cap] w fun e w' => e = .returned (.slice (some ⟨w.heap.size, 0, none⟩) n n) ∧ w'.ownsRow w.heap.size 51 1 (.slice (some ⟨w.heap.size, 0, none⟩) n n) n (zs.map (Value.string)) ∧ Below w.heap.size w w' := by
  obtain ⟨i0, hi, hz0, hz1, hz2⟩ := info_parts infoId
  have HC := Lib.hid hc
  have HZ : Hid ((zs.map (Value.string)).length = n) := Lib.hid (by rw [List.length_map]; exact hz)
  have HZ2 := Lib.hid hz
  clear hc hz
  have q1 : ∀ (w : World) (a : Option Addr) (n c n' c' : Nat), (binOp .eql 22 (.slice a n c) (.slice none n' c')).run Tryf.prog w = .ok (.bool a.isNone) w := fun w a n c n' c' => Lib.run_eql_slice_nil w _ _ a n c n' c' Tryf.underlying22
  go_enter Tryf.func35, Tryf.ntmps35
  go_wp2_with (refine wpList_make_full _ rfl _ _ 38 rfl w.heap.size 51 i0 (.string ⟨#[]⟩) 1 Tryf.underlying38 hi hz0 hz1 .i64 .i64 _ _ n rfl rfl rfl rfl (by rw [hz2]; omega) (by unfold maxLen; omega) (Nat.le_refl _) ?_; intro w1 hown1 hg1)
  clear q1
  have HO : Hid (w1.ownsRow w.heap.size 51 1 (.slice (some ⟨w.heap.size, 0, none⟩) n n) n ((zs.map (Value.string)).take 0 ++ List.replicate (n - 0) (.string ⟨#[]⟩))) := Lib.hid (by
    have := toList_madeCells_one (.string ⟨#[]⟩) n
    simp only [Value.cells, Nat.mul_one] at hown1
    rw [this] at hown1
    simpa using hown1)
  have hb1 : Below w.heap.size w w1 := (Below.refl _ _).grown hg1 (Nat.le_refl _) (by simp)
  clear hown1 hg1
  go_wp2
  go_loopw [4] (fun i wr => ∃ k : Nat, k ≤ n ∧ i = .int .i64 k ∧ Hid (wr.ownsRow w.heap.size 51 1 (.slice (some ⟨w.heap.size, 0, none⟩) n n) n ((zs.map (Value.string)).take k ++ List.replicate (n - k) (.string ⟨#[]⟩))) ∧ Below w.heap.size w wr) (fun i _ => n - (intOf i).toNat)
  case atStart => exact ⟨0, Nat.zero_le _, rfl, HO, hb1⟩
  case round =>
    obtain ⟨k, hk, rfl, HOw, hbw⟩ := hrel
    have hsz := hbw.size
    by_cases hlt : k < n
    · obtain ⟨b, off, rfl, hb, hcc⟩ := HC.out (by omega)
      have HCC := Lib.hid hcc
      clear hcc
      obtain ⟨z, hzz⟩ : ∃ z, z = zs.getD k ByteArray.empty := ⟨_, rfl⟩
      have hc1 : wr.cell? ⟨b, off + k, none⟩ = some (.string z) := by rw [hzz]; exact (hbw.cell (p := ⟨b, off + k, none⟩) hb).trans (HCC.out k hlt)
      have hc2 : wr.cell? ⟨w.heap.size, k, none⟩ = some (.string ⟨#[]⟩) := by
        have := HZ.out
        rw [HOw.out.cellAt k (by omega), List.getElem?_append_right (by rw [List.length_take]; omega), List.length_take, List.getElem?_replicate, if_pos (by omega)]
      have hf2 : wr.frozen? ⟨w.heap.size, k, none⟩ = false := HOw.out.frozenAt k
      have HS := HOw.out.stored k (.string z)
      rw [fill_step _ n k HZ.out hlt _ _ (by rw [List.getElem?_map, hzz]; have := HZ2.out; simp [List.getD, List.getElem?_eq_getElem (show k < zs.length by omega)])] at HS
      have HS1 := Lib.hid HS.1
      have HS2 := Lib.hid HS.2
      clear HS hzz
      go_wp2
      go_roundw
      case rel => exact ⟨k + 1, by omega, by go_num, HS1, hbw.grown HS2.out hsz (by simp)⟩
      case measure => simp [intOf]; omega
    · obtain rfl : k = n := by omega
      go_wp2
      go_ret
      refine ⟨rfl, ?_, hbw⟩
      have h1 := HOw.out
      have h2 := HZ.out
      rw [List.take_of_length_le (by omega), Nat.sub_self] at h1
      simpa using h1
theorem mkIdents_nil (w : World) :
    Calls Tryf.prog 35 #[.slice none 0 0] w fun e w' => e = .returned (.slice none 0 0) ∧ w = w' := by
  have q1 : ∀ (w : World) (a : Option Addr) (n c n' c' : Nat), (binOp .eql 22 (.slice a n c) (.slice none n' c')).run Tryf.prog w = .ok (.bool a.isNone) w := fun w a n c n' c' => Lib.run_eql_slice_nil w _ _ a n c n' c' Tryf.underlying22
  go_enter Tryf.func35, Tryf.ntmps35
  go_wp2
  go_ret
  exact ⟨rfl, rfl⟩
theorem mkIdents_any (v : Value) (zs : List ByteArray) (w : World) (h : StrsAt w w.heap.size v zs) (hn : zs.length ≤ 1048576) :
    Calls Tryf.prog 35 #[v] w fun e w' => (∃ a' c', e = .returned (.slice a' zs.length c') ∧ StrsAt w' w'.heap.size (.slice a' zs.length c') zs ∧ ∀ a n c, v = .slice a n c → a'.isNone = a.isNone) ∧ Below w.heap.size w w' := by
  cases h with
  | isNil => exact (mkIdents_nil w).mono fun e w' ⟨he, hw⟩ => ⟨⟨none, 0, he, .isNil, fun a n c h => by cases h; rfl⟩, by rw [hw]; exact Below.refl _ _⟩
  | isAt b off cap zs hb hm hc =>
    refine (mkIdents_some ⟨b, off, none⟩ zs.length cap zs rfl w (fun _ => ⟨b, off, rfl, hb, hc⟩) hn).mono fun e w' ⟨he, ho, hbw⟩ => ⟨⟨_, _, he, ?_, fun a n c h => by cases h; rfl⟩, hbw⟩
    refine .isAt w.heap.size 0 zs.length zs ?_ hm (fun i hi => ?_)
    · obtain ⟨c, fz, hc⟩ := Lib.ownsRow_kind ho w.heap.size rfl
      exact (Array.getElem?_eq_some_iff.1 hc).1
    · have := ho.cellAt i (by omega)
      rw [Nat.zero_add, this]
      simp [List.getElem?_eq_getElem hi]
  | isBare a cap => exact (mkIdents_some a 0 cap [] rfl w (fun h => by omega) hn).mono fun e w' ⟨he, ho, hbw⟩ => ⟨⟨_, _, he, .isBare _ _, fun a n c h => by cases h; rfl⟩, hbw⟩
/-- A list of identifiers that reads as the strings do: nil for nil, else in new memory. -/
theorem mkIdents (a : Option Addr) (n c : Nat) (zs : List ByteArray) (w : World) (h : StrsAt w w.heap.size (.slice a n c) zs) (hl : zs.length = n) (hn : n ≤ 1048576) :
    Calls Tryf.prog 35 #[.slice a n c] w fun e w' => (∃ a' c', e = .returned (.slice a' n c') ∧ StrsAt w' w'.heap.size (.slice a' n c') zs ∧ a'.isNone = a.isNone) ∧ Below w.heap.size w w' := by
  subst hl
  exact (mkIdents_any _ zs w h hn).mono fun e w' ⟨⟨a', c', h1, h2, h3⟩, hb⟩ => ⟨⟨a', c', h1, h2, h3 _ _ _ rfl⟩, hb⟩

set_option maxRecDepth 100000 in
theorem strBytes (a : Option Addr) (n c : Nat) (zs : List ByteArray) (w : World) (hi : StrsAt w w.heap.size (.slice a n c) zs) (hl : zs.length = n) (hn : n ≤ 1048576) (hsz : ∀ i, i < n → (zs.getD i ByteArray.empty).size ≤ 1048576) :
    Calls Tryf.prog 20 #[.slice a n c] w fun e w' => (∃ S : Nat, e = .returned (.int .i64 S) ∧ S ≤ 4194304 ∧ (S ≤ 1048576 → n ≤ 65536)) ∧ w = w' := by
  by_cases hb : 65536 < n
  · clear hi hl hsz
    go_enter Tryf.func20, Tryf.ntmps20
    go_wp2
    go_ret
    exact ⟨⟨2097152, rfl, by decide, fun h => by omega⟩, rfl⟩
  have HI := Lib.hid hi
  have HL := Lib.hid hl
  have HS := Lib.hid hsz
  clear hi hl hsz
  go_enter Tryf.func20, Tryf.ntmps20
  go_wp2
  go_loop [3, 4] (fun sm i => ∃ q S : Nat, q ≤ n ∧ i = .int .i64 q ∧ sm = .int .i64 S ∧ S ≤ 1048576) (fun _ i => n - (intOf i).toNat)
  case atStart => exact ⟨0, 16 * n, Nat.zero_le _, rfl, by go_num, by omega⟩
  case round =>
    obtain ⟨q, S, hq, rfl, rfl, hS⟩ := hrel
    by_cases hlt : q < n
    · obtain ⟨b, off, rfl, hb, hcc⟩ := HI.out.cell (k := q) (by rw [HL.out]; exact hlt)
      have hc1 := hcc q (by rw [HL.out]; exact hlt)
      have hs1 := HS.out q hlt
      generalize zs.getD q ByteArray.empty = t at hc1 hs1
      clear hcc
      by_cases hS2 : 1048576 < S + t.size
      · go_wp2
        go_ret
        exact ⟨⟨2097152, rfl, by decide, fun h => by omega⟩, rfl⟩
      go_wp2
      go_round
      case rel => exact ⟨q + 1, S + t.size, by omega, by go_num, by go_num, by omega⟩
      case measure => simp [intOf]; omega
    · obtain rfl : q = n := by omega
      go_wp2
      go_ret
      exact ⟨⟨S, rfl, by omega, fun _ => by omega⟩, rfl⟩

set_option maxHeartbeats 800000 in
set_option maxRecDepth 100000 in
theorem identsMatch (a1 a2 : Option Addr) (n c1 c2 B1 B2 : Nat) (zs : List ByteArray) (w : World) (h1 : StrsAt w B1 (.slice a1 n c1) zs) (h2 : StrsAt w B2 (.slice a2 n c2) zs) (hl : zs.length = n) (hn : n ≤ 1048576) :
    Calls Tryf.prog 40 #[.slice a1 n c1, .slice a2 n c2] w fun e w' => e = .returned (.bool true) ∧ ∃ m, w' = w.drewN m := by
  have H1 := Lib.hid h1
  have H2 := Lib.hid h2
  have HL := Lib.hid hl
  clear h1 h2 hl
  go_enter Tryf.func40, Tryf.ntmps40
  go_wp2
  go_loopw [5] (fun i wr => ∃ q m : Nat, q ≤ n ∧ i = .int .i64 q ∧ Hid (wr = w.drewN m)) (fun i _ => n - (intOf i).toNat)
  case atStart => exact ⟨0, 0, Nat.zero_le _, rfl, Lib.hid rfl⟩
  case round =>
    obtain ⟨q, m, hq, rfl, HW⟩ := hrel
    by_cases hlt : q < n
    · obtain ⟨b, off, rfl, _, hcc⟩ := H1.out.cell (k := q) (by rw [HL.out]; exact hlt)
      obtain ⟨b', off', rfl, _, hcc'⟩ := H2.out.cell (k := q) (by rw [HL.out]; exact hlt)
      have e1 : wr.cell? ⟨b, off + q, none⟩ = some (.string (zs.getD q ByteArray.empty)) := by rw [HW.out]; exact hcc q (by rw [HL.out]; exact hlt)
      have e2 : wr.cell? ⟨b', off' + q, none⟩ = some (.string (zs.getD q ByteArray.empty)) := by rw [HW.out]; exact hcc' q (by rw [HL.out]; exact hlt)
      generalize zs.getD q ByteArray.empty = t at e1 e2
      have i5 : (0 : Int) ≤ (q : Int) := Int.natCast_nonneg _
      have i6 : (q : Int) < (n : Int) := by omega
      clear hcc hcc'
      go_wp2
      go_quiet (fail)
      go_wp2
      go_roundw
      case rel => exact ⟨q + 1, _, by omega, by go_num, Lib.hid (by rw [HW.out, World.drewN_drewN])⟩
      case measure => simp [intOf]; omega
    · obtain rfl : q = n := by omega
      go_wp2
      go_ret
      exact ⟨rfl, m, HW.out⟩

end Go.Proofs.YtegabjiaekfmbaaFmt
