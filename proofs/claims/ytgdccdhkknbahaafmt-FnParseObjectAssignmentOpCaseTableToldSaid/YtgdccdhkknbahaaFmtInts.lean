/-
  Slices of integers that came in.
-/
import Derived.Test.YtgdccdhkknbahaaFmtMem
import Derived.Test.YtgdccdhkknbahaaFmtProg
import Derived.WalkKit
import Derived.WalkSpells
import Derived.OpenShut
import Derived.Laws.OwnMore
import Derived.Lib.SmallJoins
namespace Go.Proofs.YtgdccdhkknbahaaFmt
open Go Go.RowKit Go.ChangeShapes Go.WideShapes

theorem infoInt : (Tryf.prog.info? 3).map (fun i => (i.zero, i.size, i.bytes)) = some (some (.int .i64 0), 1, 8) := by kernel_rfl

/-- A slice value that reads as a list of integers: nil, or an address below B. -/
inductive IntsAt (w : World) (B : Nat) : Value → List Int → Prop
  | isNil : IntsAt w B (.slice none 0 0) []
  | isAt (b off cap : Nat) (zs : List Int) (hb : b < B) (hn : zs.length ≤ maxLen) (hc : ∀ i, i < zs.length → w.cell? ⟨b, off + i, none⟩ = some (.int .i64 (zs.getD i 0))) : IntsAt w B (.slice (some ⟨b, off, none⟩) zs.length cap) zs
  | isBare (a : Addr) (cap : Nat) : IntsAt w B (.slice (some a) 0 cap) []

theorem ints_open {H : Type} {enc : TypeId × Value → H} {P : Program} {w : World} {r : Reach} {b0 : Nat} {t e : TypeId} {v : Value} {d : DataW H} {p : List MemPlace} (ht : P.underlying t = some (.slice e)) (he : P.underlying e = some (.int .i64)) (hc : P.cellsOf e = 1)
    (hv : Value.okWide P w r b0 t v) (h : DataW.Trod enc P w 0 (fun _ => true) true t v d p) : ∃ zs, IntsAt w w.heap.size v zs ∧ ∀ z ∈ zs, (Lit.int .i64 z).wf = true := by
  obtain ⟨a0, len, cap, rfl⟩ := okWide_slice ht hv
  obtain ⟨fuel, hf⟩ := h
  rcases open_ints ht he hc hf with ⟨hcs, hx⟩ | ⟨a, len', cap', zs, hcs, _, hl, hm, hz, hx, hcell, hwz⟩
  · simp [Value.cells] at hcs
    obtain ⟨rfl, rfl, rfl⟩ := hcs
    exact ⟨[], .isNil, by simp⟩
  · simp [Value.cells] at hcs
    obtain ⟨rfl, rfl, rfl⟩ := hcs
    simp only [if_true] at hz
    by_cases h0 : len = 0
    · subst h0
      exact ⟨[], .isBare _ _, by simp⟩
    · obtain ⟨b, off, rfl, hcc⟩ := ints_at hcell (by omega)
      have hlen : (zs.take len).length = len := by rw [List.length_take]; omega
      refine ⟨zs.take len, ?_, fun z hz' => hwz z (List.mem_of_mem_take hz')⟩
      have hb : b < w.heap.size := World.block_lt_of_cell? w ⟨b, off + 0, none⟩ (hcc 0 (by omega))
      have := IntsAt.isAt (w := w) (B := w.heap.size) b off cap (zs.take len) hb (by rw [hlen]; omega) (fun i hi => by
        rw [hlen] at hi
        rw [hcc i (by omega)]
        simp [List.getD, hi])
      rwa [hlen] at this

theorem IntsAt.len {w : World} {B : Nat} {v : Value} {zs : List Int} (h : IntsAt w B v zs) : ∃ a cap, v = .slice a zs.length cap ∧ zs.length ≤ maxLen := by
  cases h with
  | isNil => exact ⟨none, 0, rfl, by simp [maxLen]⟩
  | isAt b off cap zs hb hn hc => exact ⟨_, _, rfl, hn⟩
  | isBare a cap => exact ⟨_, _, rfl, by simp [maxLen]⟩
theorem IntsAt.below {w w' : World} {B : Nat} {v : Value} {zs : List Int} (h : IntsAt w B v zs) (hb : Below B w w') : IntsAt w' B v zs := by
  cases h with
  | isNil => exact .isNil
  | isAt b off cap zs hb' hn hc => exact .isAt b off cap zs hb' hn (fun i hi => (hb.cell (p := ⟨b, off + i, none⟩) hb').trans (hc i hi))
  | isBare a cap => exact .isBare a cap
theorem IntsAt.drewN {w : World} {B : Nat} {v : Value} {zs : List Int} (h : IntsAt w B v zs) (n : Nat) : IntsAt (w.drewN n) B v zs := by
  cases h with
  | isNil => exact .isNil
  | isAt b off cap zs hb' hn hc => exact .isAt b off cap zs hb' hn hc
  | isBare a cap => exact .isBare a cap
theorem IntsAt.cell {w : World} {B : Nat} {a : Option Addr} {n cap : Nat} {zs : List Int} (h : IntsAt w B (.slice a n cap) zs) {k : Nat} (hk : k < zs.length) : ∃ b off, a = some ⟨b, off, none⟩ ∧ b < B ∧ ∀ i, i < zs.length → w.cell? ⟨b, off + i, none⟩ = some (.int .i64 (zs.getD i 0)) := by
  cases h with
  | isNil => simp at hk
  | isAt b off cap zs hb' hn hc => exact ⟨b, off, rfl, hb', hc⟩
  | isBare a cap => simp at hk


end Go.Proofs.YtgdccdhkknbahaaFmt
