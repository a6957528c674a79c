/-
  FnAddFodderRecordsScript: the elements on their way; lists of strings compared.
-/
import Derived.Test.YtkciiihffnimpaaFmtAddA
import Derived.Deep.QuietTactic
import Derived.BigQuiet
namespace Go.Proofs.YtkciiihffnimpaaFmt
open Go Go.RowKit Go.Shelf

theorem IntsAt.up {w : World} {B B2 : Nat} {v : Value} {zs : List Int} (h : IntsAt w B v zs) (hB : B ≤ B2) : IntsAt w B2 v zs := by
  cases h with
  | isNil => exact .isNil
  | isAt b off cap zs hb hn hc => exact .isAt b off cap zs (by omega) hn hc
  | isBare a cap => exact .isBare a cap
theorem StrsAt.up {w : World} {B B2 : Nat} {v : Value} {zs : List ByteArray} (h : StrsAt w B v zs) (hB : B ≤ B2) : StrsAt w B2 v zs := by
  cases h with
  | isNil => exact .isNil
  | isAt b off cap zs hb hn hc => exact .isAt b off cap zs (by omega) hn hc
  | isBare a cap => exact .isBare a cap
/-- The comment list of an element: empty at a line end without text, else the one text. -/
def ComAt (w : World) (com : Value) (c : Int) (t : ByteArray) : Prop :=
  (c = 0 ∧ t.toList.isEmpty = true ∧ ∃ g, com = .slice (some ⟨g, 0, none⟩) 0 0) ∨ (¬ (c = 0 ∧ t.toList.isEmpty = true) ∧ ∃ g, com = .slice (some ⟨g, 0, none⟩) 1 1 ∧ w.heap[g]? = some (.cells #[.string t] 9 (0, 0)))
theorem ComAt.keep {w w' : World} {com : Value} {c : Int} {t : ByteArray} (h : ComAt w com c t) (hk : ∀ (i : Nat) (x : Array Value), w.heap[i]? = some (.cells x 9 (0, 0)) → w'.heap[i]? = some (.cells x 9 (0, 0))) : ComAt w' com c t := by
  rcases h with h | ⟨h1, g, h2, h3⟩
  · exact .inl h
  · exact .inr ⟨h1, g, h2, hk g _ h3⟩
def AElem (w : World) (ks bs is : List Int) (zs : List ByteArray) (xs : List Value) (j : Nat) : Prop :=
  ∃ com, (∀ r, r < 4 → xs[j * 4 + r]? = (fodCells com (ks.getD j 0 % 3) (if ks.getD j 0 % 3 = 1 then 0 else bs.getD j 0) (if ks.getD j 0 % 3 = 1 then 0 else is.getD j 0))[r]?) ∧ ComAt w com (ks.getD j 0 % 3) (zs.getD j ByteArray.empty)
def AFods (w : World) (B : Nat) (ks bs is : List Int) (zs : List ByteArray) (v : Value) (q : Nat) : Prop := ∃ xs, w.ownsRow B 62 4 v q xs ∧ ∀ j, j < q → AElem w ks bs is zs xs j
theorem AFods.below {w w' : World} {B : Nat} {ks bs is : List Int} {zs : List ByteArray} {v : Value} {q : Nat} (h : AFods w B ks bs is zs v q) (hb : Below w.heap.size w w') : AFods w' B ks bs is zs v q := by
  obtain ⟨xs, ho, hx⟩ := h
  refine ⟨xs, ownsRow_below ho hb, fun j hj => ?_⟩
  obtain ⟨com, h1, h2⟩ := hx j hj
  exact ⟨com, h1, h2.keep fun i x hi => (hb.block i (Array.getElem?_eq_some_iff.1 hi).1).trans hi⟩
theorem afods_form {w : World} {B : Nat} {ks bs is : List Int} {zs : List ByteArray} {v : Value} {q : Nat} (h : AFods w B ks bs is zs v q) : ∃ p cap, v = .slice p q cap := by
  obtain ⟨xs, ho, _⟩ := h
  rcases ho.2 with ⟨rfl, rfl⟩ | ⟨g, cap, cur, rfl, _⟩
  · exact ⟨_, _, rfl⟩
  · exact ⟨_, _, rfl⟩
theorem afods_step {w wX w' : World} {a : Nat} {L : LexSt} {B q : Nat} {ks bs is : List Int} {zs : List ByteArray} {xs : List Value} {v com : Value} {k bl ind : Int} (hA : LexAt wX a L) (hb : Below w.heap.size w wX) (ho : w.ownsRow B 62 4 L.fod q xs) (hx : ∀ j, j < q → AElem w ks bs is zs xs j)
    (hk1 : k = ks.getD q 0 % 3) (hbl : bl = if ks.getD q 0 % 3 = 1 then 0 else bs.getD q 0) (hind : ind = if ks.getD q 0 % 3 = 1 then 0 else is.getD q 0) (hcom : ComAt wX com (ks.getD q 0 % 3) (zs.getD q ByteArray.empty))
    (hown : w'.ownsRow B 62 4 v (q + 1) (xs ++ fodCells com k bl ind)) (hk : Kept (fun i => i = a ∨ L.fod.ownBlock = some i) wX w') : AFods w' B ks bs is zs v (q + 1) := by
  unfold LexAt at hA
  have hstr : ∀ (i : Nat) (x : Array Value), wX.heap[i]? = some (.cells x 9 (0, 0)) → w'.heap[i]? = some (.cells x 9 (0, 0)) := fun g c hg => by
    refine (hk.block g (Array.getElem?_eq_some_iff.1 hg).1 (fun e => ?_)).trans hg
    rcases e with e | e
    · subst e
      rw [hA] at hg
      cases hg
    · obtain ⟨cc, fz, hc⟩ := Lib.ownsRow_kind (ownsRow_below ho hb) g e
      rw [hg] at hc
      cases hc
  refine ⟨_, hown, fun j hj => ?_⟩
  by_cases hjq : j < q
  · obtain ⟨com', h1, h2⟩ := hx j hjq
    refine ⟨com', fun r hr => ?_, h2.keep fun i x hi => hstr i x ((hb.block i (Array.getElem?_eq_some_iff.1 hi).1).trans hi)⟩
    rw [List.getElem?_append_left (by have := ho.1; omega)]
    exact h1 r hr
  · obtain rfl : j = q := by omega
    refine ⟨com, fun r hr => ?_, hcom.keep hstr⟩
    rw [List.getElem?_append_right (by have := ho.1; omega), ho.1, Nat.add_sub_cancel_left, hk1, hbl, hind]

set_option maxRecDepth 100000 in
theorem sameOne (g b : Nat) (c : Nat) (t : ByteArray) (w : World) (h1 : w.cell? ⟨g, 0, none⟩ = some (.string t)) (h2 : w.cell? ⟨b, 0, none⟩ = some (.string t)) :
    Calls Tryf.prog 19 #[.slice (some ⟨g, 0, none⟩) 1 c, .slice (some ⟨b, 0, none⟩) 1 1] w fun e w' => e = .returned (.bool true) ∧ ∃ m, w' = w.drewN m := by
  go_enter Tryf.func19, Tryf.ntmps19
  go_wp2_with fail
  go_loopw [5] (fun i wr => (i = .int .i64 0 ∧ wr = w) ∨ (i = .int .i64 1 ∧ ∃ m, wr = w.drewN m)) (fun i _ => 1 - (intOf i).toNat)
  case atStart => exact .inl ⟨rfl, rfl⟩
  case round =>
    rcases hrel with ⟨rfl, rfl⟩ | ⟨rfl, m, rfl⟩
    · go_wp2_with fail
      go_quiet (fail)
      go_wp2
      go_roundw
      case rel => exact .inr ⟨rfl, _, rfl⟩
      case measure => simp [intOf]
    · go_wp2
      go_ret
      exact ⟨rfl, m, rfl⟩

end Go.Proofs.YtkciiihffnimpaaFmt
