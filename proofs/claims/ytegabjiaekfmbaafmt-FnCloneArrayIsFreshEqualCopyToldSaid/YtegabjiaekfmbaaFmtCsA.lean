/-
  cloneCommaSeparatedExprs: a new list whose expressions are copies, each in blocks of its own (n008_19).
-/
import Derived.Test.YtegabjiaekfmbaaFmtCloneL
import Derived.Test.YtegabjiaekfmbaaFmtHeads
import Derived.Maps.AppendAt
import Derived.Laws.AppendOwnNone
import Derived.OwnWalk
namespace Go.Proofs.YtegabjiaekfmbaaFmt
open Go Go.RowKit

theorem infoCse : (Tryf.prog.info? 56).map (fun i => (i.zero, i.size, i.bytes)) = some (some (.agg #[.nilIface, .slice none 0 0]), 2, 40) := by kernel_rfl
def headOf : Value → Option Nat
  | .iface _ (.pointer (some a)) => some a.block
  | _ => none
def Apart2 (u v : Value) : Prop := ∀ b, headOf u = some b → headOf v ≠ some b
theorem LeafNew.lt {B : Nat} {w : World} {v : Value} {x : Leaf} (h : LeafNew B w v x) {b : Nat} (hb : headOf v = some b) : b < w.heap.size ∧ B ≤ b := by
  cases x with
  | nil =>
    obtain rfl : v = .nilIface := h
    cases hb
  | var id n zs c =>
    obtain ⟨b', n', h1, rfl, h3, h4⟩ := h
    cases hb
    exact ⟨(Array.getElem?_eq_some_iff.1 h3).1, h1⟩
  | lit s b1 b2 kd n zs c =>
    obtain ⟨b', n', h1, rfl, h3, h4⟩ := h
    cases hb
    exact ⟨(Array.getElem?_eq_some_iff.1 h3).1, h1⟩
/-- A copy stays where no block of another kind than T turns. -/
theorem FvNew.keepT {B : Nat} {w w' : World} {v : Value} {zs : List ByteArray} (h : FvNew B w v zs) (hk : ∀ (i : Nat) (c : Array Value) (fz : Nat × Nat), w.heap[i]? = some (Obj.cells c 51 fz) → w'.heap[i]? = w.heap[i]?) : FvNew B w' v zs := by
  obtain ⟨g, cap, rfl, hg, ho⟩ := h
  refine ⟨g, cap, rfl, hg, ownsRow_same ho fun g' hg' => ?_⟩
  obtain rfl : g = g' := by simpa [Value.ownBlock] using hg'
  obtain ⟨c, fz, hc⟩ := Lib.ownsRow_kind ho g rfl
  exact hk g c fz hc
theorem LeafNew.keepT {B : Nat} {w w' : World} {v : Value} {x : Leaf} (h : LeafNew B w v x) (hk : ∀ (i : Nat) (c : Array Value) (t : TypeId) (fz : Nat × Nat), w.heap[i]? = some (Obj.cells c t fz) → t ≠ 56 → w'.heap[i]? = w.heap[i]?) : LeafNew B w' v x := by
  have nb : ∀ {n n' : NBase} {zs : List ByteArray} {c : Option ByteArray}, NBnew B w n n' zs c → NBnew B w' n n' zs c := fun {n n' zs c} h => by
    refine ⟨h.eq, h.fv.keepT (fun i c fz hc => hk i c _ fz hc (by decide)), ?_⟩
    have hc := h.ctx
    cases c with
    | none => exact hc
    | some t =>
      obtain ⟨q, a1, a2, a3⟩ := hc
      exact ⟨q, a1, a2, (hk q _ _ _ a3 (by decide)).trans a3⟩
  cases x with
  | nil => exact h
  | var id n zs c =>
    obtain ⟨b, n', h1, h2, h3, h4⟩ := h
    exact ⟨b, n', h1, h2, (hk b _ _ _ h3 (by decide)).trans h3, nb h4⟩
  | lit s b1 b2 kd n zs c =>
    obtain ⟨b, n', h1, h2, h3, h4⟩ := h
    exact ⟨b, n', h1, h2, (hk b _ _ _ h3 (by decide)).trans h3, nb h4⟩

/-- A row of expressions: its cells. -/
def CseRow (w : World) (g n : Nat) (vs fs : Nat → Value) : Prop :=
  ∃ C : Array Value, w.heap[g]? = some (.cells C 56 (0, 0)) ∧ ∀ i, i < n → C[i * 2]? = some (vs i) ∧ C[i * 2 + 1]? = some (fs i)
theorem CseRow.cells {w : World} {g n : Nat} {vs fs : Nat → Value} (h : CseRow w g n vs fs) {i : Nat} (hi : i < n) : w.cell? ⟨g, i * 2, none⟩ = some (vs i) ∧ w.cell? ⟨g, i * 2 + 1, none⟩ = some (fs i) ∧ w.frozen? ⟨g, i * 2, none⟩ = false ∧ w.frozen? ⟨g, i * 2 + 1, none⟩ = false := by
  obtain ⟨C, hb, hc⟩ := h
  exact ⟨(cell_of_row _ _ _ _ _ _ hb).trans (hc i hi).1, (cell_of_row _ _ _ _ _ _ hb).trans (hc i hi).2, frozen_of hb _, frozen_of hb _⟩
structure CloneSt (w wr : World) (g n q : Nat) (vs fs : Nat → Value) (xs : Nat → Leaf) (us : Nat → Value) : Prop where
  row : CseRow wr g n (fun i => if i < q then us i else vs i) fs
  old : ∀ i, q ≤ i → i < n → LeafAt wr (vs i) (xs i)
  new : ∀ i, i < q → LeafNew w.heap.size wr (us i) (xs i)
  apart : ∀ i j, i < j → j < q → Apart2 (us i) (us j)
  below : Below w.heap.size w wr
  ge : w.heap.size ≤ g
theorem CloneSt.step {w wr w' : World} {g n q : Nat} {vs fs : Nat → Value} {xs : Nat → Leaf} {us : Nat → Value} {e : Ending} (h : CloneSt w wr g n q vs fs xs us) (hq : q < n) (hc : CloneAt ⟨g, q * 2, none⟩ (xs q) wr e w') :
    ∃ us', CloneSt w w' g n (q + 1) vs fs xs us' := by
  obtain ⟨_, v', s1, n1⟩ := hc
  obtain ⟨C, hb, hC⟩ := h.row
  have hgl : g < wr.heap.size := (Array.getElem?_eq_some_iff.1 hb).1
  have hlen : q * 2 < C.size := by
    have := (hC q hq).1
    exact (Array.getElem?_eq_some_iff.1 this).1
  have hcq : wr.cell? ⟨g, q * 2, none⟩ = some (vs q) := by
    have := (h.row.cells hq).1
    simpa using this
  have hk : ∀ (i : Nat) (c : Array Value) (t : TypeId) (fz : Nat × Nat), wr.heap[i]? = some (Obj.cells c t fz) → t ≠ 56 → w'.heap[i]? = wr.heap[i]? := fun i c t fz hi ht =>
    s1.kept.block i (Array.getElem?_eq_some_iff.1 hi).1 (fun e => by
      have e : i = g := e
      rw [e, hb] at hi
      cases hi
      exact ht rfl)
  refine ⟨fun i => if i = q then v' else us i, ⟨C.setIfInBounds (q * 2) v', s1.self.trans ((Lib.heap_setCell_same hb _).trans (by simp)), fun i hi => ?_⟩, fun i h1 h2 => ?_, fun i hi => ?_, fun i j hij hj => ?_, ?_, h.ge⟩
  · refine ⟨?_, by rw [Array.getElem?_setIfInBounds_ne (by omega)]; exact (hC i hi).2⟩
    by_cases e : i = q
    · subst e
      rw [Array.getElem?_setIfInBounds_self, if_pos hlen]
      dsimp only
      rw [if_pos (by omega), if_pos rfl]
    · rw [Array.getElem?_setIfInBounds_ne (by omega), (hC i hi).1]
      dsimp only
      by_cases e2 : i < q
      · rw [if_pos e2, if_pos (by omega), if_neg e]
      · rw [if_neg e2, if_neg (by omega)]
  · exact (h.old i (by omega) h2).set1 s1 hcq (h.old q (Nat.le_refl _) hq).nostr hb (by decide)
  · by_cases e : i = q
    · subst e
      rw [if_pos rfl]
      exact n1.lower h.below.size
    · rw [if_neg e]
      exact (h.new i (by omega)).keepT hk
  · rw [if_neg (by omega)]
    by_cases e : j = q
    · subst e
      rw [if_pos rfl]
      intro b hbi hbj
      have := ((h.new i hij).lt hbi).1
      have := (n1.lt hbj).2
      omega
    · rw [if_neg e]
      exact h.apart i j hij (by omega)
  · exact h.below.trans (s1.kept.below (B := w.heap.size) (fun k e => by subst e; exact h.ge) h.below.size)

def CsePost (n : Nat) (fs : Nat → Value) (xs : Nat → Leaf) (w : World) (e : Ending) (w' : World) : Prop :=
  ∃ g cap us, e = .returned (.slice (some ⟨g, 0, none⟩) n cap) ∧ w.heap.size ≤ g ∧ CseRow w' g n us fs ∧ (∀ i, i < n → LeafNew w.heap.size w' (us i) (xs i)) ∧ (∀ i j, i < j → j < n → Apart2 (us i) (us j)) ∧ Below w.heap.size w w'
/-- What the list shows. -/
def CseList (w : World) (a : Option Addr) (n : Nat) (vs fs : Nat → Value) : Prop := (∃ p, a = some p) ∧ (0 < n → ∃ L, a = some ⟨L, 0, none⟩ ∧ CseRow w L n vs fs)
def news (n : Nat) (vs fs : Nat → Value) : List Value := (List.range n).flatMap fun i => [vs i, fs i]
theorem news_len (vs fs : Nat → Value) : ∀ n, (news n vs fs).length = n * 2
  | 0 => rfl
  | n + 1 => by
    have := news_len vs fs n
    simp [news, List.range_succ] at this ⊢
    omega
theorem news_get (vs fs : Nat → Value) : ∀ n i, i < n → (news n vs fs)[i * 2]? = some (vs i) ∧ (news n vs fs)[i * 2 + 1]? = some (fs i)
  | 0, i, h => absurd h (by omega)
  | n + 1, i, h => by
    have hl := news_len vs fs n
    have e : news (n + 1) vs fs = news n vs fs ++ [vs n, fs n] := by simp [news, List.range_succ]
    rw [e]
    by_cases hi : i < n
    · rw [List.getElem?_append_left (by omega), List.getElem?_append_left (by omega)]
      exact news_get vs fs n i hi
    · obtain rfl : i = n := by omega
      rw [List.getElem?_append_right (by omega), List.getElem?_append_right (by omega), hl, Nat.sub_self, Nat.add_sub_cancel_left]
      exact ⟨rfl, rfl⟩

set_option maxRecDepth 100000 in
theorem append_cse (w : World) (ty : TypeId) (g0 : Nat) (hown : w.ownsRow g0 56 2 (.slice (some ⟨g0, 0, none⟩) 0 0) 0 []) (a : Option Addr) (n c : Nat) (vs fs : Nat → Value) (hl : 0 < n → ∃ L, a = some ⟨L, 0, none⟩ ∧ CseRow w L n vs fs) (h1 : ∀ i, i < n → (vs i).oneCell' = true ∧ (fs i).oneCell' = true) (hn : n ≤ 1048576) (hb : g0 ≤ w.heap.size) (h0 : a = none → n = 0) :
    ∃ g cap w', (Builtin.append_ #[34, 34] ty #[.slice (some ⟨g0, 0, none⟩) 0 0, .slice a n c]).run Tryf.prog w = .ok (.slice (some ⟨g, 0, none⟩) n cap) w' ∧ CseRow w' g n vs fs ∧ g0 ≤ g ∧ w.grownBy w' (some g0) := by
  obtain ⟨i0, hi, hz0, hz1, hz2⟩ := info_parts infoCse
  cases a with
  | none =>
    obtain rfl := h0 rfl
    refine ⟨g0, 0, w, run_append_owned_none (P := Tryf.prog) (w := w) g0 34 ty 56 i0 2 Tryf.underlying34 hi _ _ _ hown, ?_, Nat.le_refl _, World.grownBy.refl w _⟩
    rcases hown.2 with ⟨hv, _⟩ | ⟨g, cap, cur, hv, _, hg, _⟩
    · cases hv
    · cases hv
      exact ⟨cur, hg, fun i hi => absurd hi (by omega)⟩
  | some ad =>
    obtain ⟨v', w', r1, r2, r3, r4, r5⟩ := run_append_own_at (P := Tryf.prog) (w := w) g0 34 ty 56 i0 (.agg #[.nilIface, .slice none 0 0]) 2 40 Tryf.underlying34 hi hz0 hz1 hz2 rfl (by decide) (.slice (some ⟨g0, 0, none⟩) 0 0) 0 [] hown ad n c (news n vs fs) (news_len _ _ _) (fun j u hu => by
        rcases Nat.eq_zero_or_pos n with e | e
        · subst e; simp [news] at hu
        · obtain ⟨L, hL, hrow⟩ := hl e
          injection hL with hL
          subst hL
          have hj : j < n * 2 := by
            rcases Nat.lt_or_ge j (n * 2) with h | h
            · exact h
            · rw [List.getElem?_eq_none (by rw [news_len]; exact h)] at hu; cases hu
          rw [Lib.addr_add, Nat.zero_add]
          have hd := Nat.div_add_mod j 2
          have hlt : j / 2 < n := by omega
          rcases Nat.mod_two_eq_zero_or_one j with hm | hm
          · have ej : j = j / 2 * 2 := by omega
            rw [ej] at hu ⊢
            rw [(news_get vs fs n _ hlt).1] at hu
            rw [(hrow.cells hlt).1, hu]
          · have ej : j = j / 2 * 2 + 1 := by omega
            rw [ej] at hu ⊢
            rw [(news_get vs fs n _ hlt).2] at hu
            rw [(hrow.cells hlt).2.1, hu]) (fun u hu => by
        simp only [news, List.mem_flatMap, List.mem_range, List.mem_cons, List.not_mem_nil, or_false] at hu
        obtain ⟨i, hi, rfl | rfl⟩ := hu
        · exact (h1 i hi).1
        · exact (h1 i hi).2) (by unfold maxLen; omega) (by omega) hb
    rw [Nat.zero_add, List.nil_append] at r2
    rcases r2.2 with ⟨hv, _⟩ | ⟨g, cap, cur, hv, hgb, hg, _, _, _, htake⟩
    · exfalso
      subst hv
      rcases r5 with e | e <;> simp [Value.ownBlock] at e
    · subst hv
      refine ⟨g, cap, w', r1, ⟨cur, hg, fun i hi => ?_⟩, hgb, r3⟩
      have hc : ∀ j, j < n * 2 → cur[j]? = (news n vs fs)[j]? := fun j hj => by
        have h1 := r2.cellAt j hj
        rw [cell_of_row _ _ _ _ _ _ hg] at h1
        exact h1
      exact ⟨(hc _ (by omega)).trans (news_get vs fs n i hi).1, (hc _ (by omega)).trans (news_get vs fs n i hi).2⟩

/-- append by a run equation that is at hand. -/
theorem wpList_append_run {P : Program} {w : World} {ops : Array Oper} {rest : List Oper} {o : Oper} {a : Act} {Q : Exit → Act → World → Prop} (hgd : o.guard = none) (s x : Operand) (t : TypeId)
    (ho : o.op = .call { callee := .builtin .append, args := #[s, x], argTypes := #[t, t] }) (v u r : Value) (w' : World) (hs : a.eval s = v) (hx : a.eval x = u)
    (hrun : (Builtin.append_ #[t, t] o.type #[v, u]).run P w = .ok r w') (h : wpList P ops Q rest (a.put o.dst r) w') : wpList P ops Q (o :: rest) a w := by
  refine wpList_plain hgd fun K hK => ?_
  unfold Oper.wp
  simp [execOp, ho, resolve, invoke, builtin, hs, hx, hrun, Result.andThen]
  exact hK _ _ h

set_option maxHeartbeats 1600000 in
set_option maxRecDepth 100000 in
theorem cloneCse (a : Option Addr) (n c : Nat) (vs fs : Nat → Value) (xs : Nat → Leaf) (w : World) (hl : 0 < n → ∃ L, a = some ⟨L, 0, none⟩ ∧ CseRow w L n vs fs) (h0 : a = none → n = 0) (hx : ∀ i, i < n → LeafAt w (vs i) (xs i)) (h1 : ∀ i, i < n → (vs i).oneCell' = true ∧ (fs i).oneCell' = true) (hn : n ≤ 1048576) :
    Calls Tryf.prog 48 #[.slice a n c] w (CsePost n fs xs w) := by
  have HL := Lib.hid hl
  have H0 := Lib.hid h0
  have HX := Lib.hid hx
  have H1 := Lib.hid h1
  have hmk : ∀ w, (Instr.makeSlice 34 (.int .i64 0) (.int .i64 0)).run Tryf.prog w = .ok (.slice (some ⟨w.heap.size, 0, none⟩) 0 0) (w.alloc (.cells #[] 56 (0, 0))) := fun w => by kernel_rfl
  have hown : (w.alloc (.cells #[] 56 (0, 0))).ownsRow w.heap.size 56 2 (.slice (some ⟨w.heap.size, 0, none⟩) 0 0) 0 [] :=
    ⟨rfl, .inr ⟨w.heap.size, 0, #[], rfl, Nat.le_refl _, heap_alloc_new w _, Nat.le_refl _, by unfold maxLen; omega, by simp, rfl⟩⟩
  have hb1 : Below w.heap.size w (w.alloc (.cells #[] 56 (0, 0))) := (Below.refl _ w).alloc (Nat.le_refl _) _
  have hl1 : 0 < n → ∃ L, a = some ⟨L, 0, none⟩ ∧ CseRow (w.alloc (.cells #[] 56 (0, 0))) L n vs fs := fun hp => by
    obtain ⟨L, e, C, hC, h⟩ := hl hp
    exact ⟨L, e, C, (hb1.block L (Array.getElem?_eq_some_iff.1 hC).1).trans hC, h⟩
  obtain ⟨g, cap, w1, hap, hrow, hg, hgr⟩ := append_cse (w.alloc (.cells #[] 56 (0, 0))) 34 w.heap.size hown a n c vs fs hl1 h1 hn (by simp) h0
  have hbw : Below w.heap.size w w1 := hb1.grown hgr (by simp) (by simp)
  have HST : Hid (CloneSt w w1 g n 0 vs fs xs vs) := Lib.hid ⟨by simpa using hrow, fun i _ hi => by
      have hx := hx i hi
      have hk : ∀ (b : Nat) (C : Array Value) (t : TypeId), w.heap[b]? = some (Obj.cells C t (0, 0)) → w1.heap[b]? = some (Obj.cells C t (0, 0)) := fun b C t h => (hbw.block b (Array.getElem?_eq_some_iff.1 h).1).trans h
      have nb : ∀ {nb : NBase} {zs : List ByteArray} {c : Option ByteArray}, NBok w nb zs c → NBok w1 nb zs c := fun {nb zs c} h => by
        refine ⟨strs_keep (X := w) h.fv hbw.size (fun p z hlt hp => (hbw.cell hlt).trans hp) (Below.refl _ _), h.len, h.le, ?_⟩
        have hc := h.ctx
        cases c with
        | none => exact hc
        | some t =>
          obtain ⟨q, hq, hc⟩ := hc
          exact ⟨q, hq, (hbw.cell (p := ⟨q, 0, none⟩) (World.block_lt_of_cell? w ⟨q, 0, none⟩ hc)).trans hc⟩
      generalize vs i = v at hx ⊢
      generalize xs i = x at hx ⊢
      cases x with
      | nil => exact hx
      | var id n zs c =>
        obtain ⟨b, h1, h2, h3⟩ := hx
        exact ⟨b, h1, hk b _ _ h2, nb h3⟩
      | lit s b1 b2 kd n zs c =>
        obtain ⟨b, h1, h2, h3⟩ := hx
        exact ⟨b, h1, hk b _ _ h2, nb h3⟩, fun i hi => absurd hi (by omega), fun i j _ hj => absurd hj (by omega), hbw, hg⟩
  have HAP := Lib.hid hap
  have hgn : (Value.slice (some ⟨g, 0, none⟩) n cap) = .slice (some ⟨g, 0, none⟩) n cap := rfl
  clear hl h0 hx h1 hown hb1 hl1 hrow hg hgr hbw hap hgn
  go_enter Tryf.func48, Tryf.ntmps48
  go_wp2_with (at_builtin; refine wpList_append_run rfl _ _ _ rfl _ _ _ w1 rfl rfl HAP.out ?_)
  go_loopw [10] (fun i wr => ∃ q : Nat, q ≤ n ∧ i = .int .i64 q ∧ Hid (∃ us, CloneSt w wr g n q vs fs xs us)) (fun i _ => n - (intOf i).toNat)
  case atStart => exact ⟨0, Nat.zero_le _, rfl, Lib.hid ⟨_, HST.out⟩⟩
  case round =>
    obtain ⟨q, hq, rfl, HS⟩ := hrel
    by_cases hlt : q < n
    · obtain ⟨us, hst⟩ := HS.out
      obtain ⟨C, hb, hC⟩ := hst.row
      have cq := (hst.row.cells hlt).1
      rw [if_neg (Nat.lt_irrefl q)] at cq
      have HCQ := Lib.hid cq
      have HB := Lib.hid hb
      have HST2 := Lib.hid hst
      clear cq hb hC hst HS
      go_wp2_with fail
      refine (clone_leaf g (q * 2) (vs q) (xs q) wr HCQ.out (frozen_of HB.out _) (HST2.out.old q (Nat.le_refl _) hlt) HB.out (by decide)).mono ?_
      rintro e w2 hca
      have hca2 := hca
      obtain ⟨rfl, _⟩ := hca2
      have HN := Lib.hid (HST2.out.step hlt hca)
      clear hca
      go_wp2
      go_roundw
      case rel => exact ⟨q + 1, by omega, by go_num, HN⟩
      case measure => simp [intOf]; omega
    · obtain rfl : q = n := by omega
      go_wp2
      go_ret
      obtain ⟨us, hst⟩ := HS.out
      refine ⟨g, cap, us, rfl, hst.ge, ?_, hst.new, hst.apart, hst.below⟩
      obtain ⟨C, hb, hC⟩ := hst.row
      exact ⟨C, hb, fun i hi => ⟨(hC i hi).1.trans (congrArg some (if_pos hi)), (hC i hi).2⟩⟩

end Go.Proofs.YtegabjiaekfmbaaFmt
