/-
  The argument of the laws on for-chains, opened (n008_165).
-/
import Derived.Test.YtpcoeakcnmeblaaFmtFrA
namespace Go.Proofs.YtpcoeakcnmeblaaFmt
open Go Go.RowKit Go.ChangeShapes Go.WideShapes Go.Deep
namespace Fr

theorem strs_trod {H : Type} {enc : TypeId × Value → H} {w : World} {n : Nat} {cs : List Value} {x : DataW H × List MemPlace} (h : DataW.trod enc Tryf.prog w 0 (fun _ => true) true n 41 cs = some x) :
    ∃ a c zs, cs = [.slice a zs.length c] ∧ StrsAt w w.heap.size (.slice a zs.length c) zs ∧ ∀ z ∈ zs, z.size ≤ maxLen := by
  rcases open_strings Tryf.underlying41 Tryf.underlying9 (by kernel_rfl) h with ⟨rfl, hx⟩ | ⟨a, len, cap, zs, rfl, _, hl, hm, hz, hx, hcell, hwz⟩
  · exact ⟨none, 0, [], rfl, .isNil, by simp⟩
  · simp only [if_true] at hz
    by_cases h0 : len = 0
    · subst h0
      exact ⟨some a, cap, [], rfl, .isBare _ _, by simp⟩
    · obtain ⟨b, off, rfl, hcc⟩ := strs_at hcell (by omega)
      have hlen : (zs.take len).length = len := by rw [List.length_take]; omega
      have hb : b < w.heap.size := World.block_lt_of_cell? w ⟨b, off + 0, none⟩ (hcc 0 (by omega))
      refine ⟨some ⟨b, off, none⟩, cap, zs.take len, by rw [hlen], ?_, fun z hz' => hwz z (List.mem_of_mem_take hz')⟩
      refine .isAt b off cap (zs.take len) hb (by rw [hlen]; omega) (fun i hi => ?_)
      rw [hlen] at hi
      rw [hcc i (by omega)]
      simp [List.getD, hi]

set_option maxRecDepth 100000 in
theorem lev_open {H : Type} {enc : TypeId × Value → H} {W : World} {b o n : Nat} {cs : List Value} {x : DataW H × List MemPlace} (hc : ∀ i, i < 4 → W.cell? ⟨b, o + i, none⟩ = cs[i]?) (hl : cs.length = 4)
    (h : DataW.trod enc Tryf.prog W 0 (fun _ => true) true n 43 cs = some x) :
    ∃ l : Lev, LevAt W W.heap.size b o l ∧ l.vn.size ≤ maxLen ∧ l.et.size ≤ maxLen ∧ l.ct.length ≤ maxLen ∧ ∀ z ∈ l.ct, z.size ≤ maxLen := by
  obtain ⟨xs, m, rfl, rfl, _, hxs, hf⟩ := DataW.trod_struct Tryf.underlying43 h
  match cs, hl with
  | [c0, c1, c2, c3], _ =>
  have f0 : DataW.trod enc Tryf.prog W 0 (fun _ => true) true m 9 (List.take (Tryf.prog.cellsOf 9) (List.drop 0 [c0, c1, c2, c3])) = xs[0]? := hf 0 _ rfl
  have f1 : DataW.trod enc Tryf.prog W 0 (fun _ => true) true m 4 (List.take (Tryf.prog.cellsOf 4) (List.drop 1 [c0, c1, c2, c3])) = xs[1]? := hf 1 _ rfl
  have f2 : DataW.trod enc Tryf.prog W 0 (fun _ => true) true m 9 (List.take (Tryf.prog.cellsOf 9) (List.drop 2 [c0, c1, c2, c3])) = xs[2]? := hf 2 _ rfl
  have f3 : DataW.trod enc Tryf.prog W 0 (fun _ => true) true m 41 (List.take (Tryf.prog.cellsOf 41) (List.drop 3 [c0, c1, c2, c3])) = xs[3]? := hf 3 _ rfl
  have z0 : Tryf.prog.cellsOf 9 = 1 := by kernel_rfl
  have z1 : Tryf.prog.cellsOf 4 = 1 := by kernel_rfl
  have z3 : Tryf.prog.cellsOf 41 = 1 := by kernel_rfl
  simp only [z0, z1, z3, List.drop, List.take] at f0 f1 f2 f3
  have hx4 : xs.length = 4 := by rw [hxs]; rfl
  rw [List.getElem?_eq_getElem (by omega)] at f0 f1 f2 f3
  obtain ⟨s0, e0, _, w0⟩ := DataW.trod_string Tryf.underlying9 f0
  obtain ⟨s1, e1, _⟩ := DataW.trod_bool Tryf.underlying4 f1
  obtain ⟨s2, e2, _, w2⟩ := DataW.trod_string Tryf.underlying9 f2
  obtain ⟨a, c, zs, e3, h3, w3⟩ := strs_trod f3
  simp only [List.cons.injEq, and_true] at e0 e1 e2 e3
  subst e0 e1 e2 e3
  obtain ⟨_, _, _, hle⟩ := h3.len
  exact ⟨⟨s0, s1, s2, zs⟩, ⟨hc 0 (by omega), hc 1 (by omega), hc 2 (by omega), a, c, hc 3 (by omega), h3⟩, w0, w2, hle, w3⟩

set_option maxRecDepth 100000 in
theorem levs_open {H : Type} {enc : TypeId × Value → H} {W : World} {r : Reach} {b0 : Nat} {v : Value} {d : DataW H} {p : List MemPlace} (hv : Value.okWide Tryf.prog W r b0 22 v) (h : DataW.Trod enc Tryf.prog W 0 (fun _ => true) true 22 v d p) :
    ∃ a n c f, v = .slice a n c ∧ LevsAt W W.heap.size a n f ∧ Wide n f := by
  obtain ⟨a0, len, cap, rfl⟩ := okWide_slice Tryf.underlying22 hv
  obtain ⟨fuel, hf⟩ := h
  rcases open_slice Tryf.underlying22 hf with ⟨hcs, _⟩ | ⟨a, len', cap', m, n, D, Pl, hcs, _, hl, hm, hmm, _, hall⟩
  · simp [Value.cells] at hcs
    obtain ⟨rfl, rfl, rfl⟩ := hcs
    exact ⟨none, 0, 0, fun _ => ⟨⟨#[]⟩, false, ⟨#[]⟩, []⟩, rfl, ⟨Nat.zero_le _, fun h => absurd h (by omega)⟩, fun i hi => absurd hi (by omega)⟩
  · simp [Value.cells] at hcs
    obtain ⟨rfl, rfl, rfl⟩ := hcs
    simp only [if_true] at hmm
    subst hmm
    have z4 : Tryf.prog.cellsOf 43 = 4 := by kernel_rfl
    rw [z4] at hall
    by_cases h0 : len = 0
    · subst h0
      exact ⟨some a, 0, _, fun _ => ⟨⟨#[]⟩, false, ⟨#[]⟩, []⟩, rfl, ⟨Nat.zero_le _, fun h => absurd h (by omega)⟩, fun i hi => absurd hi (by omega)⟩
    obtain ⟨b, off, spot⟩ := a
    have hspot : spot = none := by
      obtain ⟨cs', h1, h2⟩ := hall 0 (by omega)
      obtain ⟨_, hlen, hcell⟩ := World.cells?_some h1
      have h3 := hcell 0 (by omega)
      rw [List.getElem?_eq_getElem (by omega)] at h3
      simpa [Addr.add] using World.cell?_spot h3
    subst hspot
    have each : ∀ i, i < len → ∃ l : Lev, LevAt W W.heap.size b (off + i * 4) l ∧ l.vn.size ≤ maxLen ∧ l.et.size ≤ maxLen ∧ l.ct.length ≤ maxLen ∧ ∀ z ∈ l.ct, z.size ≤ maxLen := fun i hi => by
      obtain ⟨cs', h1, h2⟩ := hall i (by omega)
      obtain ⟨_, hlen, hcell⟩ := World.cells?_some h1
      refine lev_open (fun j hj => ?_) hlen h2
      have h3 := hcell j hj
      rw [add_add, Lib.addr_add] at h3
      rw [← h3, Nat.add_assoc]
    have : Inhabited Lev := ⟨⟨⟨#[]⟩, false, ⟨#[]⟩, []⟩⟩
    obtain ⟨f, hF⟩ := choose_lt each
    refine ⟨some ⟨b, off, none⟩, len, _, f, rfl, ⟨by omega, fun hp => ⟨b, off, rfl, ?_, fun i hi => (hF i hi).1⟩⟩, fun i hi => (hF i hi).2⟩
    exact World.block_lt_of_cell? W ⟨b, off + 0 * 4, none⟩ (hF 0 hp).1.1

end Fr
end Go.Proofs.YtpcoeakcnmeblaaFmt
