/-
  Slices of strings and of bools that came in.
-/
import Derived.Test.YtpcoeakcnmeblaaFmtMem
import Derived.Test.YtpcoeakcnmeblaaFmtProg
import Derived.WalkSpells
import Derived.OpenShut
import Derived.Laws.OwnMore
import Derived.Lib.SmallJoins
import Derived.Deep.Grids
import Derived.SliceStrings
namespace Go.Proofs.YtpcoeakcnmeblaaFmt
open Go Go.RowKit Go.ChangeShapes Go.WideShapes

theorem strs_at {w : World} {a : Addr} {zs : List ByteArray} (h : ∀ i, i < zs.length → w.cell? (a.add i) = some (.string (zs.getD i ByteArray.empty))) (hp : 0 < zs.length) :
    ∃ b off, a = ⟨b, off, none⟩ ∧ ∀ j, j < zs.length → w.cell? ⟨b, off + j, none⟩ = some (.string (zs.getD j ByteArray.empty)) := by
  obtain ⟨b, off, spot⟩ := a
  have hspot : spot = none := by simpa [Addr.add] using World.cell?_spot (h 0 hp)
  subst hspot
  refine ⟨b, off, rfl, fun j hj => ?_⟩
  have := h j hj
  rwa [Lib.addr_add] at this
theorem infoStrE : (Tryf.prog.info? 9).map (fun i => (i.zero, i.size, i.bytes)) = some (some (.string ⟨#[]⟩), 1, 16) := by kernel_rfl

/-- A slice value that reads as a list of strings: nil, or an address below B. -/
inductive StrsAt (w : World) (B : Nat) : Value → List ByteArray → Prop
  | isNil : StrsAt w B (.slice none 0 0) []
  | isAt (b off cap : Nat) (zs : List ByteArray) (hb : b < B) (hn : zs.length ≤ maxLen) (hc : ∀ i, i < zs.length → w.cell? ⟨b, off + i, none⟩ = some (.string (zs.getD i ByteArray.empty))) : StrsAt w B (.slice (some ⟨b, off, none⟩) zs.length cap) zs
  | isBare (a : Addr) (cap : Nat) : StrsAt w B (.slice (some a) 0 cap) []

theorem strs_open {H : Type} {enc : TypeId × Value → H} {P : Program} {w : World} {r : Reach} {b0 : Nat} {t e : TypeId} {v : Value} {d : DataW H} {p : List MemPlace} (ht : P.underlying t = some (.slice e)) (he : P.underlying e = some .string) (hc : P.cellsOf e = 1)
    (hv : Value.okWide P w r b0 t v) (h : DataW.Trod enc P w 0 (fun _ => true) true t v d p) : ∃ zs, StrsAt w w.heap.size v zs ∧ ∀ z ∈ zs, z.size ≤ maxLen := by
  obtain ⟨a0, len, cap, rfl⟩ := okWide_slice ht hv
  obtain ⟨fuel, hf⟩ := h
  rcases open_strings ht he hc hf with ⟨hcs, hx⟩ | ⟨a, len', cap', zs, hcs, _, hl, hm, hz, hx, hcell, hwz⟩
  · simp [Value.cells] at hcs
    obtain ⟨rfl, rfl, rfl⟩ := hcs
    exact ⟨[], .isNil, by simp⟩
  · simp [Value.cells] at hcs
    obtain ⟨rfl, rfl, rfl⟩ := hcs
    simp only [if_true] at hz
    by_cases h0 : len = 0
    · subst h0
      exact ⟨[], .isBare _ _, by simp⟩
    · obtain ⟨b, off, rfl, hcc⟩ := strs_at hcell (by omega)
      have hlen : (zs.take len).length = len := by rw [List.length_take]; omega
      refine ⟨zs.take len, ?_, fun z hz' => hwz z (List.mem_of_mem_take hz')⟩
      have hb : b < w.heap.size := World.block_lt_of_cell? w ⟨b, off + 0, none⟩ (hcc 0 (by omega))
      have := StrsAt.isAt (w := w) (B := w.heap.size) b off cap (zs.take len) hb (by rw [hlen]; omega) (fun i hi => by
        rw [hlen] at hi
        rw [hcc i (by omega)]
        simp [List.getD, hi])
      rwa [hlen] at this

theorem StrsAt.len {w : World} {B : Nat} {v : Value} {zs : List ByteArray} (h : StrsAt w B v zs) : ∃ a cap, v = .slice a zs.length cap ∧ zs.length ≤ maxLen := by
  cases h with
  | isNil => exact ⟨none, 0, rfl, by simp [maxLen]⟩
  | isAt b off cap zs hb hn hc => exact ⟨_, _, rfl, hn⟩
  | isBare a cap => exact ⟨_, _, rfl, by simp [maxLen]⟩
theorem StrsAt.below {w w' : World} {B : Nat} {v : Value} {zs : List ByteArray} (h : StrsAt w B v zs) (hb : Below B w w') : StrsAt w' B v zs := by
  cases h with
  | isNil => exact .isNil
  | isAt b off cap zs hb' hn hc => exact .isAt b off cap zs hb' hn (fun i hi => (hb.cell (p := ⟨b, off + i, none⟩) hb').trans (hc i hi))
  | isBare a cap => exact .isBare a cap
theorem StrsAt.drewN {w : World} {B : Nat} {v : Value} {zs : List ByteArray} (h : StrsAt w B v zs) (n : Nat) : StrsAt (w.drewN n) B v zs := by
  cases h with
  | isNil => exact .isNil
  | isAt b off cap zs hb' hn hc => exact .isAt b off cap zs hb' hn hc
  | isBare a cap => exact .isBare a cap
theorem StrsAt.cell {w : World} {B : Nat} {a : Option Addr} {n cap : Nat} {zs : List ByteArray} (h : StrsAt w B (.slice a n cap) zs) {k : Nat} (hk : k < zs.length) : ∃ b off, a = some ⟨b, off, none⟩ ∧ b < B ∧ ∀ i, i < zs.length → w.cell? ⟨b, off + i, none⟩ = some (.string (zs.getD i ByteArray.empty)) := by
  cases h with
  | isNil => simp at hk
  | isAt b off cap zs hb' hn hc => exact ⟨b, off, rfl, hb', hc⟩
  | isBare a cap => simp at hk

/-- A slice value that reads as a row of bools. -/
inductive BoolsAt (w : World) (B : Nat) : Value → Nat → (Nat → Bool) → Prop
  | isNil (f : Nat → Bool) : BoolsAt w B (.slice none 0 0) 0 f
  | isAt (b off n cap : Nat) (f : Nat → Bool) (hb : b < B) (hn : n ≤ maxLen) (hc : ∀ i, i < n → w.cell? ⟨b, off + i, none⟩ = some (.bool (f i))) : BoolsAt w B (.slice (some ⟨b, off, none⟩) n cap) n f
  | isBare (a : Addr) (cap : Nat) (f : Nat → Bool) : BoolsAt w B (.slice (some a) 0 cap) 0 f

theorem bools_open {H : Type} {enc : TypeId × Value → H} {P : Program} {w : World} {r : Reach} {b0 : Nat} {t e : TypeId} {v : Value} {d : DataW H} {p : List MemPlace} (ht : P.underlying t = some (.slice e)) (he : P.underlying e = some .bool) (hc : P.cellsOf e = 1)
    (hv : Value.okWide P w r b0 t v) (h : DataW.Trod enc P w 0 (fun _ => true) true t v d p) : ∃ n f, BoolsAt w w.heap.size v n f := by
  obtain ⟨a0, len, cap, rfl⟩ := okWide_slice ht hv
  obtain ⟨fuel, hf⟩ := h
  rcases Deep.open_bools ht he hc hf with ⟨hcs, _⟩ | ⟨a, len', cap', f, hcs, _, hl, hm, _, hcell⟩
  · simp [Value.cells] at hcs
    obtain ⟨rfl, rfl, rfl⟩ := hcs
    exact ⟨0, fun _ => false, .isNil _⟩
  · simp [Value.cells] at hcs
    obtain ⟨rfl, rfl, rfl⟩ := hcs
    by_cases h0 : len = 0
    · subst h0
      exact ⟨0, f, .isBare _ _ _⟩
    · obtain ⟨b, off, spot⟩ := a
      have hspot : spot = none := by simpa [Addr.add] using World.cell?_spot (hcell 0 (by omega))
      subst hspot
      have hcc : ∀ i, i < len → w.cell? ⟨b, off + i, none⟩ = some (.bool (f i)) := fun i hi => by
        have := hcell i (by omega)
        rwa [Lib.addr_add] at this
      exact ⟨len, f, .isAt b off len cap f (World.block_lt_of_cell? w ⟨b, off + 0, none⟩ (hcc 0 (by omega))) (by omega) hcc⟩
theorem BoolsAt.len {w : World} {B : Nat} {v : Value} {n : Nat} {f : Nat → Bool} (h : BoolsAt w B v n f) : ∃ a cap, v = .slice a n cap ∧ n ≤ maxLen := by
  cases h with
  | isNil => exact ⟨none, 0, rfl, by simp [maxLen]⟩
  | isAt b off n cap f hb hn hc => exact ⟨_, _, rfl, hn⟩
  | isBare a cap => exact ⟨_, _, rfl, by simp [maxLen]⟩
theorem BoolsAt.below {w w' : World} {B : Nat} {v : Value} {n : Nat} {f : Nat → Bool} (h : BoolsAt w B v n f) (hb : Below B w w') : BoolsAt w' B v n f := by
  cases h with
  | isNil => exact .isNil _
  | isAt b off n cap f hb' hn hc => exact .isAt b off n cap f hb' hn (fun i hi => (hb.cell (p := ⟨b, off + i, none⟩) hb').trans (hc i hi))
  | isBare a cap => exact .isBare a cap _
theorem BoolsAt.cell {w : World} {B : Nat} {a : Option Addr} {n cap : Nat} {f : Nat → Bool} (h : BoolsAt w B (.slice a n cap) n f) {k : Nat} (hk : k < n) : ∃ b off, a = some ⟨b, off, none⟩ ∧ b < B ∧ ∀ i, i < n → w.cell? ⟨b, off + i, none⟩ = some (.bool (f i)) := by
  cases h with
  | isNil => omega
  | isAt b off n cap f hb' hn hc => exact ⟨b, off, rfl, hb', hc⟩
  | isBare a cap => omega

end Go.Proofs.YtpcoeakcnmeblaaFmt
