/-
  A package-level table of strings, read off what the row lists: its cell holds a slice, whose cells hold the listed strings. No program is named here.
-/
import Derived.ProofKit
import Derived.SliceStrings
import Derived.LaidMore
import Derived.MakeChecks
namespace Go.Proofs.YtjbjdoahpeghpabFmt.Tab
open Go Go.RowKit Go.ChangeShapes Go.WideShapes

def strData {H : Type} (l : List (List UInt8)) : DataW H := .slice (l.map fun b => .lit (.string b)) []

theorem strs_inj {H : Type} {ss : List ByteArray} {l : List (List UInt8)} (h : (strs ss : List (DataW H)) = l.map fun b => .lit (.string b)) : ss = l.map fun b => ⟨b.toArray⟩ := by
  induction ss generalizing l with
  | nil => cases l with
    | nil => rfl
    | cons x l => simp [strs] at h
  | cons s ss ih => cases l with
    | nil => simp [strs] at h
    | cons x l =>
      simp only [strs, List.map_cons, List.cons.injEq] at h
      obtain ⟨h1, h2⟩ := h
      have h3 : s.data.toList = x := by simpa using h1
      have := ih (l := l) (by simpa [strs] using h2)
      subst this
      subst h3
      cases s
      simp

theorem cells_of_laid {P : Program} {W : World} {name : String} {g : Nat} {t e : TypeId} {l : List (List UInt8)} (hgn : P.globalNamed name = some g) (htn : (P.globals[g]?).map (·.type) = some t)
    (hut : P.underlying t = some (.slice e)) (hue : P.underlying e = some .string) (hce : P.cellsOf e = 1) {rest : List (String × DataW Unit)} (hl0 : 0 < l.length) (h : laidMet P ((name, strData l) :: rest) W) :
    ∃ b off cap, W.cell? ⟨g, 0, none⟩ = some (.slice (some ⟨b, off, none⟩) l.length cap) ∧ l.length ≤ cap ∧ ∀ i, i < l.length → W.cell? ⟨b, off + i, none⟩ = some (.string ⟨(l.getD i []).toArray⟩) := by
  obtain ⟨ps, ⟨g0, t0, cs0, f0, p0, q0, hg0, ht0, hv0, hd0, _, _⟩, _, _⟩ := h
  obtain rfl := Option.some.inj (hgn.symm.trans hg0)
  obtain rfl := Option.some.inj (htn.symm.trans ht0)
  rcases open_strings hut hue hce hd0 with ⟨_, hx⟩ | ⟨a, len, cap, ss, hcs, _, hlc, hm, hz, hx, hcell, hws⟩
  · simp [strData] at hx
  simp only [Prod.mk.injEq, strData, DataW.slice.injEq] at hx
  obtain ⟨⟨h1, h2⟩, _⟩ := hx
  have h1' := strs_inj h1.symm
  have hll : len ≤ ss.length := by rw [hz]; split <;> omega
  have hlen : len = l.length := by
    have := congrArg List.length h1'
    simp only [List.length_take, List.length_map] at this
    omega
  subst hlen
  have hcg : W.cell? ⟨g, 0, none⟩ = some (.slice (some a) l.length cap) := by
    have := World.var?_cell hg0 hv0 0
    rw [Array.eq_one_of_toList hcs] at this
    simpa using this
  have hc : ∀ i, i < l.length → W.cell? (a.add i) = some (.string ⟨(l.getD i []).toArray⟩) := by
    intro i hi
    rw [hcell i (by omega)]
    have e1 : ss.getD i ByteArray.empty = (ss.take l.length).getD i ByteArray.empty := by
      simp [List.getD, hi]
    rw [e1, h1']
    simp [List.getD, hi]
  obtain ⟨b, off, spot⟩ := a
  have hspot : spot = none := by simpa [Addr.add] using World.cell?_spot (hc 0 hl0)
  subst hspot
  exact ⟨b, off, cap, hcg, hlc, fun i hi => by rw [← Go.WideShapes.add_plain]; exact hc i hi⟩

end Go.Proofs.YtjbjdoahpeghpabFmt.Tab
