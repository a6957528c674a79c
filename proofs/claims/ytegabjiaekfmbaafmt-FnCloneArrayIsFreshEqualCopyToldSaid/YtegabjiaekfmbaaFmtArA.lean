/-
  cloneCommaSeparatedExprs over variables: each copy lies in blocks of its own.
-/
import Derived.Test.YtegabjiaekfmbaaFmtCsA
namespace Go.Proofs.YtegabjiaekfmbaaFmt
open Go Go.RowKit

def CtxIn (lo hi : Nat) (w : World) (a : Option Addr) : Option ByteArray → Prop
  | none => a = none
  | some t => ∃ q, lo ≤ q ∧ q < hi ∧ a = some ⟨q, 0, none⟩ ∧ w.heap[q]? = some (.cells #[.string t] 9 (0, 0))
structure NBin (lo hi : Nat) (w : World) (n' : NBase) (zs : List ByteArray) (c : Option ByteArray) : Prop where
  fv : ∃ g cap, Value.slice n'.va n'.vn n'.vc = .slice (some ⟨g, 0, none⟩) zs.length cap ∧ lo ≤ g ∧ g < hi ∧ w.ownsRow lo 51 1 (.slice (some ⟨g, 0, none⟩) zs.length cap) zs.length (zs.map Value.string)
  ctx : CtxIn lo hi w n'.ca c
/-- A variable in blocks from lo to hi. -/
def VarIn (lo hi : Nat) (w : World) (v : Value) (id : ByteArray) (zs : List ByteArray) (c : Option ByteArray) : Prop :=
  ∃ b n', lo ≤ b ∧ b < hi ∧ v = .iface 57 (.pointer (some ⟨b, 0, none⟩)) ∧ w.heap[b]? = some (.cells (varCells id n') 60 (0, 0)) ∧ NBin lo hi w n' zs c
theorem NBin.of {lo : Nat} {w : World} {n n' : NBase} {zs : List ByteArray} {c : Option ByteArray} (h : NBnew lo w n n' zs c) : NBin lo w.heap.size w n' zs c := by
  obtain ⟨_, ⟨g, cap, hv, hg, ho⟩, hc⟩ := h
  obtain ⟨cg, fg, hcg⟩ := Lib.ownsRow_kind (by rw [hv] at ho; exact ho) g rfl
  refine ⟨⟨g, cap, hv, hg, (Array.getElem?_eq_some_iff.1 hcg).1, by rw [hv] at ho; exact ho⟩, ?_⟩
  cases c with
  | none => exact hc
  | some t =>
    obtain ⟨q, a1, a2, a3⟩ := hc
    exact ⟨q, a1, (Array.getElem?_eq_some_iff.1 a3).1, a2, a3⟩
theorem VarIn.of {lo : Nat} {w : World} {v : Value} {id : ByteArray} {n : NBase} {zs : List ByteArray} {c : Option ByteArray} (h : LeafNew lo w v (.var id n zs c)) : VarIn lo w.heap.size w v id zs c := by
  obtain ⟨b, n', h1, h2, h3, h4⟩ := h
  exact ⟨b, n', h1, (Array.getElem?_eq_some_iff.1 h3).1, h2, h3, NBin.of h4⟩
theorem NBin.keep {lo hi : Nat} {w w' : World} {n' : NBase} {zs : List ByteArray} {c : Option ByteArray} (h : NBin lo hi w n' zs c) (hk : ∀ k, lo ≤ k → k < hi → w'.heap[k]? = w.heap[k]?) : NBin lo hi w' n' zs c := by
  obtain ⟨⟨g, cap, hv, hg, hg2, ho⟩, hc⟩ := h
  refine ⟨⟨g, cap, hv, hg, hg2, ownsRow_same ho fun g' hg' => ?_⟩, ?_⟩
  · obtain rfl : g = g' := by simpa [Value.ownBlock] using hg'
    exact hk g hg hg2
  · cases c with
    | none => exact hc
    | some t =>
      obtain ⟨q, a1, a2, a3, a4⟩ := hc
      exact ⟨q, a1, a2, a3, (hk q a1 a2).trans a4⟩
theorem VarIn.keep {lo hi : Nat} {w w' : World} {v : Value} {id : ByteArray} {zs : List ByteArray} {c : Option ByteArray} (h : VarIn lo hi w v id zs c) (hk : ∀ k, lo ≤ k → k < hi → w'.heap[k]? = w.heap[k]?) : VarIn lo hi w' v id zs c := by
  obtain ⟨b, n', h1, h2, h3, h4, h5⟩ := h
  exact ⟨b, n', h1, h2, h3, (hk b h1 h2).trans h4, h5.keep hk⟩
theorem chain {bs : Nat → Nat} {q : Nat} (h : ∀ i, i < q → bs i ≤ bs (i + 1)) : ∀ d i, i + d ≤ q → bs i ≤ bs (i + d)
  | 0, _, _ => Nat.le_refl _
  | d + 1, i, hd => Nat.le_trans (chain h d i (by omega)) (h (i + d) (by omega))
theorem chain2 {bs : Nat → Nat} {q : Nat} (h : ∀ i, i < q → bs i ≤ bs (i + 1)) {i j : Nat} (hij : i ≤ j) (hj : j ≤ q) : bs i ≤ bs j := by
  have := chain h (j - i) i (by omega)
  rwa [show i + (j - i) = j by omega] at this

structure CloneV (w wr : World) (g n q : Nat) (vs fs : Nat → Value) (ids : Nat → ByteArray) (nb : Nat → NBase) (fz : Nat → List ByteArray) (cc : Option ByteArray) (us : Nat → Value) (bs : Nat → Nat) : Prop where
  row : CseRow wr g n (fun i => if i < q then us i else vs i) fs
  old : ∀ i, q ≤ i → i < n → LeafAt wr (vs i) (.var (ids i) (nb i) (fz i) cc)
  new : ∀ i, i < q → VarIn (bs i) (bs (i + 1)) wr (us i) (ids i) (fz i) cc
  mono : ∀ i, i < q → bs i ≤ bs (i + 1)
  bot : g < bs 0
  top : bs q = wr.heap.size
  below : Below w.heap.size w wr
  ge : w.heap.size ≤ g
theorem CloneV.step {w wr w' : World} {g n q : Nat} {vs fs : Nat → Value} {ids : Nat → ByteArray} {nb : Nat → NBase} {fz : Nat → List ByteArray} {cc : Option ByteArray} {us : Nat → Value} {bs : Nat → Nat} {e : Ending} (h : CloneV w wr g n q vs fs ids nb fz cc us bs) (hq : q < n) (hc : CloneAt ⟨g, q * 2, none⟩ (.var (ids q) (nb q) (fz q) cc) wr e w') :
    ∃ us' bs', CloneV w w' g n (q + 1) vs fs ids nb fz cc us' bs' := by
  obtain ⟨_, v', s1, n1⟩ := hc
  obtain ⟨C, hb, hC⟩ := h.row
  have hgl : g < wr.heap.size := (Array.getElem?_eq_some_iff.1 hb).1
  have hsz := s1.kept.size
  have hlen : q * 2 < C.size := by
    have := (hC q hq).1
    exact (Array.getElem?_eq_some_iff.1 this).1
  have hcq : wr.cell? ⟨g, q * 2, none⟩ = some (vs q) := by
    have := (h.row.cells hq).1
    simpa using this
  refine ⟨fun i => if i = q then v' else us i, fun i => if i = q + 1 then w'.heap.size else bs i, ⟨C.setIfInBounds (q * 2) v', s1.self.trans ((Lib.heap_setCell_same hb _).trans (by simp)), fun i hi => ?_⟩, fun i h1 h2 => ?_, fun i hi => ?_, fun i hi => ?_, ?_, ?_, ?_, h.ge⟩
  · refine ⟨?_, by rw [Array.getElem?_setIfInBounds_ne (by omega)]; exact (hC i hi).2⟩
    by_cases e : i = q
    · subst e
      rw [Array.getElem?_setIfInBounds_self, if_pos hlen]
      dsimp only
      rw [if_pos (by omega), if_pos rfl]
    · rw [Array.getElem?_setIfInBounds_ne (by omega), (hC i hi).1]
      dsimp only
      by_cases e2 : i < q
      · rw [if_pos e2, if_pos (by omega), if_neg e]
      · rw [if_neg e2, if_neg (by omega)]
  · exact (h.old i (by omega) h2).set1 s1 hcq (h.old q (Nat.le_refl _) hq).nostr hb (by decide)
  · by_cases e : i = q
    · subst e
      rw [if_pos rfl, if_neg (by omega), if_pos rfl, h.top]
      exact VarIn.of n1
    · rw [if_neg e, if_neg (by omega), if_neg (by omega)]
      have t1 := chain2 h.mono (i := i + 1) (j := q) (by omega) (Nat.le_refl _)
      have t2 := chain2 h.mono (i := 0) (j := i) (by omega) (by omega)
      have := h.top
      have := h.bot
      exact (h.new i (by omega)).keep fun k h1 h2 => s1.kept.block k (by omega) (by show k ≠ g; omega)
  · by_cases e : i = q
    · subst e
      rw [if_neg (by omega), if_pos rfl, h.top]
      exact hsz
    · rw [if_neg (by omega), if_neg (by omega)]
      exact h.mono i (by omega)
  · rw [if_neg (by omega)]
    exact h.bot
  · rw [if_pos rfl]
  · exact h.below.trans (s1.kept.below (B := w.heap.size) (fun k e => by subst e; exact h.ge) h.below.size)

def CsvPost (n : Nat) (fs : Nat → Value) (ids : Nat → ByteArray) (fz : Nat → List ByteArray) (cc : Option ByteArray) (w : World) (e : Ending) (w' : World) : Prop :=
  ∃ (g cap : Nat) (us : Nat → Value) (bs : Nat → Nat), e = .returned (.slice (some ⟨g, 0, none⟩) n cap) ∧ w.heap.size ≤ g ∧ CseRow w' g n us fs ∧ (∀ i, i < n → VarIn (bs i) (bs (i + 1)) w' (us i) (ids i) (fz i) cc) ∧ (∀ i, i < n → bs i ≤ bs (i + 1)) ∧ g < bs 0 ∧ bs n = w'.heap.size ∧ Below w.heap.size w w'

set_option maxHeartbeats 1600000 in
set_option maxRecDepth 100000 in
theorem cloneCsv (a : Option Addr) (n c : Nat) (vs fs : Nat → Value) (ids : Nat → ByteArray) (nb : Nat → NBase) (fz : Nat → List ByteArray) (cc : Option ByteArray) (w : World) (hl : 0 < n → ∃ L, a = some ⟨L, 0, none⟩ ∧ CseRow w L n vs fs) (h0 : a = none → n = 0) (hx : ∀ i, i < n → LeafAt w (vs i) (.var (ids i) (nb i) (fz i) cc)) (h1 : ∀ i, i < n → (vs i).oneCell' = true ∧ (fs i).oneCell' = true) (hn : n ≤ 1048576) :
    Calls Tryf.prog 48 #[.slice a n c] w (CsvPost n fs ids fz cc w) := by
  have hmk : ∀ w, (Instr.makeSlice 34 (.int .i64 0) (.int .i64 0)).run Tryf.prog w = .ok (.slice (some ⟨w.heap.size, 0, none⟩) 0 0) (w.alloc (.cells #[] 56 (0, 0))) := fun w => by kernel_rfl
  have hown : (w.alloc (.cells #[] 56 (0, 0))).ownsRow w.heap.size 56 2 (.slice (some ⟨w.heap.size, 0, none⟩) 0 0) 0 [] :=
    ⟨rfl, .inr ⟨w.heap.size, 0, #[], rfl, Nat.le_refl _, heap_alloc_new w _, Nat.le_refl _, by unfold maxLen; omega, by simp, rfl⟩⟩
  have hb1 : Below w.heap.size w (w.alloc (.cells #[] 56 (0, 0))) := (Below.refl _ w).alloc (Nat.le_refl _) _
  have hl1 : 0 < n → ∃ L, a = some ⟨L, 0, none⟩ ∧ CseRow (w.alloc (.cells #[] 56 (0, 0))) L n vs fs := fun hp => by
    obtain ⟨L, e, C, hC, h⟩ := hl hp
    exact ⟨L, e, C, (hb1.block L (Array.getElem?_eq_some_iff.1 hC).1).trans hC, h⟩
  obtain ⟨g, cap, w1, hap, hrow, hg, hgr⟩ := append_cse (w.alloc (.cells #[] 56 (0, 0))) 34 w.heap.size hown a n c vs fs hl1 h1 hn (by simp) h0
  have hbw : Below w.heap.size w w1 := hb1.grown hgr (by simp) (by simp)
  have hgl : g < w1.heap.size := by
    obtain ⟨C, hC, _⟩ := hrow
    exact (Array.getElem?_eq_some_iff.1 hC).1
  have HST : Hid (CloneV w w1 g n 0 vs fs ids nb fz cc vs (fun _ => w1.heap.size)) := Lib.hid ⟨by simpa using hrow, fun i _ hi => by
      obtain ⟨b, h1, h2, h3⟩ := hx i hi
      refine ⟨b, h1, (hbw.block b (Array.getElem?_eq_some_iff.1 h2).1).trans h2, strs_keep (X := w) h3.fv hbw.size (fun p z hlt hp => (hbw.cell hlt).trans hp) (Below.refl _ _), h3.len, h3.le, ?_⟩
      have hc := h3.ctx
      cases cc with
      | none => exact hc
      | some t =>
        obtain ⟨q, hq, hc⟩ := hc
        exact ⟨q, hq, (hbw.cell (p := ⟨q, 0, none⟩) (World.block_lt_of_cell? w ⟨q, 0, none⟩ hc)).trans hc⟩, fun i hi => absurd hi (by omega), fun i hi => absurd hi (by omega), hgl, rfl, hbw, hg⟩
  have HAP := Lib.hid hap
  clear hl h0 hx h1 hown hb1 hl1 hrow hg hgr hbw hap hgl
  go_enter Tryf.func48, Tryf.ntmps48
  go_wp2_with (at_builtin; refine wpList_append_run rfl _ _ _ rfl _ _ _ w1 rfl rfl HAP.out ?_)
  go_loopw [10] (fun i wr => ∃ q : Nat, q ≤ n ∧ i = .int .i64 q ∧ Hid (∃ us bs, CloneV w wr g n q vs fs ids nb fz cc us bs)) (fun i _ => n - (intOf i).toNat)
  case atStart => exact ⟨0, Nat.zero_le _, rfl, Lib.hid ⟨_, _, HST.out⟩⟩
  case round =>
    obtain ⟨q, hq, rfl, HS⟩ := hrel
    by_cases hlt : q < n
    · obtain ⟨us, bs, hst⟩ := HS.out
      obtain ⟨C, hb, hC⟩ := hst.row
      have cq := (hst.row.cells hlt).1
      rw [if_neg (Nat.lt_irrefl q)] at cq
      have HCQ := Lib.hid cq
      have HB := Lib.hid hb
      have HST2 := Lib.hid hst
      clear cq hb hC hst HS
      go_wp2_with fail
      refine (clone_leaf g (q * 2) (vs q) _ wr HCQ.out (frozen_of HB.out _) (HST2.out.old q (Nat.le_refl _) hlt) HB.out (by decide)).mono ?_
      rintro e w2 hca
      have hca2 := hca
      obtain ⟨rfl, _⟩ := hca2
      have HN := Lib.hid (HST2.out.step hlt hca)
      clear hca
      go_wp2
      go_roundw
      case rel => exact ⟨q + 1, by omega, by go_num, HN⟩
      case measure => simp [intOf]; omega
    · obtain rfl : q = n := by omega
      go_wp2
      go_ret
      obtain ⟨us, bs, hst⟩ := HS.out
      refine ⟨g, cap, us, bs, rfl, hst.ge, ?_, hst.new, hst.mono, hst.bot, hst.top, hst.below⟩
      obtain ⟨C, hb, hC⟩ := hst.row
      exact ⟨C, hb, fun i hi => ⟨(hC i hi).1.trans (congrArg some (if_pos hi)), (hC i hi).2⟩⟩

end Go.Proofs.YtegabjiaekfmbaaFmt
