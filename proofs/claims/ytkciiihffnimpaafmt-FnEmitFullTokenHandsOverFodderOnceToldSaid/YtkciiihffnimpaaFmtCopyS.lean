/-
  Slices of strings that came in; the laws' copyStrs.
-/
import Derived.Test.YtkciiihffnimpaaFmtCopyI
import Derived.SliceStrings
namespace Go.Proofs.YtkciiihffnimpaaFmt
open Go Go.RowKit Go.ChangeShapes Go.WideShapes

theorem strs_at {w : World} {a : Addr} {zs : List ByteArray} (h : ∀ i, i < zs.length → w.cell? (a.add i) = some (.string (zs.getD i ByteArray.empty))) (hp : 0 < zs.length) :
    ∃ b off, a = ⟨b, off, none⟩ ∧ ∀ j, j < zs.length → w.cell? ⟨b, off + j, none⟩ = some (.string (zs.getD j ByteArray.empty)) := by
  obtain ⟨b, off, spot⟩ := a
  have hspot : spot = none := by simpa [Addr.add] using World.cell?_spot (h 0 hp)
  subst hspot
  refine ⟨b, off, rfl, fun j hj => ?_⟩
  have := h j hj
  rwa [Lib.addr_add] at this
theorem infoStrE : (Tryf.prog.info? 9).map (fun i => (i.zero, i.size, i.bytes)) = some (some (.string ⟨#[]⟩), 1, 16) := by kernel_rfl

/-- A slice value that reads as a list of strings: nil, or an address below B. -/
inductive StrsAt (w : World) (B : Nat) : Value → List ByteArray → Prop
  | isNil : StrsAt w B (.slice none 0 0) []
  | isAt (b off cap : Nat) (zs : List ByteArray) (hb : b < B) (hn : zs.length ≤ maxLen) (hc : ∀ i, i < zs.length → w.cell? ⟨b, off + i, none⟩ = some (.string (zs.getD i ByteArray.empty))) : StrsAt w B (.slice (some ⟨b, off, none⟩) zs.length cap) zs
  | isBare (a : Addr) (cap : Nat) : StrsAt w B (.slice (some a) 0 cap) []

theorem strs_open {H : Type} {enc : TypeId × Value → H} {P : Program} {w : World} {r : Reach} {b0 : Nat} {t e : TypeId} {v : Value} {d : DataW H} {p : List MemPlace} (ht : P.underlying t = some (.slice e)) (he : P.underlying e = some .string) (hc : P.cellsOf e = 1)
    (hv : Value.okWide P w r b0 t v) (h : DataW.Trod enc P w 0 (fun _ => true) true t v d p) : ∃ zs, StrsAt w w.heap.size v zs ∧ ∀ z ∈ zs, z.size ≤ maxLen := by
  obtain ⟨a0, len, cap, rfl⟩ := okWide_slice ht hv
  obtain ⟨fuel, hf⟩ := h
  rcases open_strings ht he hc hf with ⟨hcs, hx⟩ | ⟨a, len', cap', zs, hcs, _, hl, hm, hz, hx, hcell, hwz⟩
  · simp [Value.cells] at hcs
    obtain ⟨rfl, rfl, rfl⟩ := hcs
    exact ⟨[], .isNil, by simp⟩
  · simp [Value.cells] at hcs
    obtain ⟨rfl, rfl, rfl⟩ := hcs
    simp only [if_true] at hz
    by_cases h0 : len = 0
    · subst h0
      exact ⟨[], .isBare _ _, by simp⟩
    · obtain ⟨b, off, rfl, hcc⟩ := strs_at hcell (by omega)
      have hlen : (zs.take len).length = len := by rw [List.length_take]; omega
      refine ⟨zs.take len, ?_, fun z hz' => hwz z (List.mem_of_mem_take hz')⟩
      have hb : b < w.heap.size := World.block_lt_of_cell? w ⟨b, off + 0, none⟩ (hcc 0 (by omega))
      have := StrsAt.isAt (w := w) (B := w.heap.size) b off cap (zs.take len) hb (by rw [hlen]; omega) (fun i hi => by
        rw [hlen] at hi
        rw [hcc i (by omega)]
        simp [List.getD, hi])
      rwa [hlen] at this

theorem StrsAt.len {w : World} {B : Nat} {v : Value} {zs : List ByteArray} (h : StrsAt w B v zs) : ∃ a cap, v = .slice a zs.length cap ∧ zs.length ≤ maxLen := by
  cases h with
  | isNil => exact ⟨none, 0, rfl, by simp [maxLen]⟩
  | isAt b off cap zs hb hn hc => exact ⟨_, _, rfl, hn⟩
  | isBare a cap => exact ⟨_, _, rfl, by simp [maxLen]⟩
theorem StrsAt.below {w w' : World} {B : Nat} {v : Value} {zs : List ByteArray} (h : StrsAt w B v zs) (hb : Below B w w') : StrsAt w' B v zs := by
  cases h with
  | isNil => exact .isNil
  | isAt b off cap zs hb' hn hc => exact .isAt b off cap zs hb' hn (fun i hi => (hb.cell (p := ⟨b, off + i, none⟩) hb').trans (hc i hi))
  | isBare a cap => exact .isBare a cap
theorem StrsAt.drewN {w : World} {B : Nat} {v : Value} {zs : List ByteArray} (h : StrsAt w B v zs) (n : Nat) : StrsAt (w.drewN n) B v zs := by
  cases h with
  | isNil => exact .isNil
  | isAt b off cap zs hb' hn hc => exact .isAt b off cap zs hb' hn hc
  | isBare a cap => exact .isBare a cap
theorem StrsAt.cell {w : World} {B : Nat} {a : Option Addr} {n cap : Nat} {zs : List ByteArray} (h : StrsAt w B (.slice a n cap) zs) {k : Nat} (hk : k < zs.length) : ∃ b off, a = some ⟨b, off, none⟩ ∧ b < B ∧ ∀ i, i < zs.length → w.cell? ⟨b, off + i, none⟩ = some (.string (zs.getD i ByteArray.empty)) := by
  cases h with
  | isNil => simp at hk
  | isAt b off cap zs hb' hn hc => exact ⟨b, off, rfl, hb', hc⟩
  | isBare a cap => simp at hk

set_option maxRecDepth 100000 in
theorem copyStrs_some (A : Addr) (n cap : Nat) (zs : List ByteArray) (hz : zs.length = n) (w : World) (hc : 0 < n → ∃ b off, A = ⟨b, off, none⟩ ∧ b < w.heap.size ∧ ∀ i, i < n → w.cell? ⟨b, off + i, none⟩ = some (.string (zs.getD i ByteArray.empty))) (hn : n ≤ 1048576) :
    Calls Tryf.prog 8 #[.slice (some A) n cap] w fun e w' => e = .returned (.slice (some ⟨w.heap.size, 0, none⟩) n n) ∧ w'.ownsRow w.heap.size 9 1 (.slice (some ⟨w.heap.size, 0, none⟩) n n) n (zs.map (Value.string)) ∧ Below w.heap.size w w' := by
  obtain ⟨i0, hi, hz0, hz1, hz2⟩ := info_parts infoStrE
  have HC := Lib.hid hc
  have HZ : Hid ((zs.map (Value.string)).length = n) := Lib.hid (by rw [List.length_map]; exact hz)
  have HZ2 := Lib.hid hz
  clear hc hz
  have q1 : ∀ (w : World) (a : Option Addr) (n c n' c' : Nat), (binOp .eql 23 (.slice a n c) (.slice none n' c')).run Tryf.prog w = .ok (.bool a.isNone) w := fun w a n c n' c' => Lib.run_eql_slice_nil w _ _ a n c n' c' Tryf.underlying23
  go_enter Tryf.func8, Tryf.ntmps8
  go_wp2_with (refine wpList_make_full _ rfl _ _ 23 rfl w.heap.size 9 i0 (.string ⟨#[]⟩) 1 Tryf.underlying23 hi hz0 hz1 .i64 .i64 _ _ n rfl rfl rfl rfl (by rw [hz2]; omega) (by unfold maxLen; omega) (Nat.le_refl _) ?_; intro w1 hown1 hg1)
  clear q1
  have HO : Hid (w1.ownsRow w.heap.size 9 1 (.slice (some ⟨w.heap.size, 0, none⟩) n n) n ((zs.map (Value.string)).take 0 ++ List.replicate (n - 0) (.string ⟨#[]⟩))) := Lib.hid (by
    have := toList_madeCells_one (.string ⟨#[]⟩) n
    simp only [Value.cells, Nat.mul_one] at hown1
    rw [this] at hown1
    simpa using hown1)
  have hb1 : Below w.heap.size w w1 := (Below.refl _ _).grown hg1 (Nat.le_refl _) (by simp)
  clear hown1 hg1
  go_wp2
  go_loopw [4] (fun i wr => ∃ k : Nat, k ≤ n ∧ i = .int .i64 k ∧ Hid (wr.ownsRow w.heap.size 9 1 (.slice (some ⟨w.heap.size, 0, none⟩) n n) n ((zs.map (Value.string)).take k ++ List.replicate (n - k) (.string ⟨#[]⟩))) ∧ Below w.heap.size w wr) (fun i _ => n - (intOf i).toNat)
  case atStart => exact ⟨0, Nat.zero_le _, rfl, HO, hb1⟩
  case round =>
    obtain ⟨k, hk, rfl, HOw, hbw⟩ := hrel
    have hsz := hbw.size
    by_cases hlt : k < n
    · obtain ⟨b, off, rfl, hb, hcc⟩ := HC.out (by omega)
      have HCC := Lib.hid hcc
      clear hcc
      obtain ⟨z, hzz⟩ : ∃ z, z = zs.getD k ByteArray.empty := ⟨_, rfl⟩
      have hc1 : wr.cell? ⟨b, off + k, none⟩ = some (.string z) := by rw [hzz]; exact (hbw.cell (p := ⟨b, off + k, none⟩) hb).trans (HCC.out k hlt)
      have hc2 : wr.cell? ⟨w.heap.size, k, none⟩ = some (.string ⟨#[]⟩) := by
        have := HZ.out
        rw [HOw.out.cellAt k (by omega), List.getElem?_append_right (by rw [List.length_take]; omega), List.length_take, List.getElem?_replicate, if_pos (by omega)]
      have hf2 : wr.frozen? ⟨w.heap.size, k, none⟩ = false := HOw.out.frozenAt k
      have HS := HOw.out.stored k (.string z)
      rw [fill_step _ n k HZ.out hlt _ _ (by rw [List.getElem?_map, hzz]; have := HZ2.out; simp [List.getD, List.getElem?_eq_getElem (show k < zs.length by omega)])] at HS
      have HS1 := Lib.hid HS.1
      have HS2 := Lib.hid HS.2
      clear HS hzz
      go_wp2
      go_roundw
      case rel => exact ⟨k + 1, by omega, by go_num, HS1, hbw.grown HS2.out hsz (by simp)⟩
      case measure => simp [intOf]; omega
    · obtain rfl : k = n := by omega
      go_wp2
      go_ret
      refine ⟨rfl, ?_, hbw⟩
      have h1 := HOw.out
      have h2 := HZ.out
      rw [List.take_of_length_le (by omega), Nat.sub_self] at h1
      simpa using h1

theorem copyStrs_nil (w : World) :
    Calls Tryf.prog 8 #[.slice none 0 0] w fun e w' => e = .returned (.slice none 0 0) ∧ w = w' := by
  have q1 : ∀ (w : World) (a : Option Addr) (n c n' c' : Nat), (binOp .eql 23 (.slice a n c) (.slice none n' c')).run Tryf.prog w = .ok (.bool a.isNone) w := fun w a n c n' c' => Lib.run_eql_slice_nil w _ _ a n c n' c' Tryf.underlying23
  go_enter Tryf.func8, Tryf.ntmps8
  go_wp2
  go_ret
  exact ⟨rfl, rfl⟩

/-- The copy of a slice of strings reads alike, in new memory. -/
theorem copyStrs (v : Value) (zs : List ByteArray) (w : World) (h : StrsAt w w.heap.size v zs) (hn : zs.length ≤ 1048576) :
    Calls Tryf.prog 8 #[v] w fun e w' => ∃ v', e = .returned v' ∧ StrsAt w' w'.heap.size v' zs ∧ Below w.heap.size w w' := by
  cases h with
  | isNil => exact (copyStrs_nil w).mono fun e w' ⟨he, hw⟩ => ⟨_, he, .isNil, by rw [hw]; exact Below.refl _ _⟩
  | isAt b off cap zs hb hm hc =>
    refine (copyStrs_some ⟨b, off, none⟩ zs.length cap zs rfl w (fun _ => ⟨b, off, rfl, hb, hc⟩) hn).mono fun e w' ⟨he, ho, hbw⟩ => ⟨_, he, ?_, hbw⟩
    refine .isAt w.heap.size 0 zs.length zs ?_ hm (fun i hi => ?_)
    · obtain ⟨c, fz, hc⟩ := Lib.ownsRow_kind ho w.heap.size rfl
      exact (Array.getElem?_eq_some_iff.1 hc).1
    · have := ho.cellAt i (by omega)
      rw [Nat.zero_add, this]
      simp [List.getElem?_eq_getElem hi]
  | isBare a cap => exact (copyStrs_some a 0 cap [] rfl w (fun h => by omega) hn).mono fun e w' ⟨he, ho, hbw⟩ => ⟨_, he, .isBare _ _, hbw⟩

end Go.Proofs.YtkciiihffnimpaaFmt
