/-
  The walk of FnEmitTokenTilesInput.
-/
import Derived.Test.YtgcgafkedhohcaaDoorLaidTabs
import Derived.Test.YtgcgafkedhohcaaDoorShimsE
import Derived.Test.YtgcgafkedhohcaaDoorCopyI
namespace Go.Proofs.YtgcgafkedhohcaaDoor.fnEmitTokenTilesInput
open Go Go.RowKit Go.Shelf

/-- Where n steps lead from p. -/
def adv (s : ByteArray) : Nat → Nat → Nat
  | 0, p => p
  | n + 1, p => if adv s n p < s.size then adv s n p + (Utf8.decode s (adv s n p)).2 else adv s n p
theorem adv_steps {s : ByteArray} (L : LexSt) (h : L.inp = s) : ∀ n, (L.steps n).bn = adv s n L.bn
  | 0 => rfl
  | n + 1 => by
    have ih := adv_steps L h n
    have hk := (steps_keeps L n).2.2.1
    show (L.steps n).step.bn = _
    unfold LexSt.step adv
    rw [hk, h, ih]
    by_cases hp : adv s n L.bn < s.size
    · rw [if_pos hp, if_pos hp]
      split <;> rfl
    · rw [if_neg hp, if_neg hp]
      exact ih

/-- Where the q-th token begins. -/
def tpos (s : ByteArray) (zs : List Int) : Nat → Nat
  | 0 => 0
  | q + 1 => adv s (zs.getD q 0).toNat (tpos s zs q)

/-- The lexer behind q tokens. -/
structure TInv (s : ByteArray) (zs : List Int) (M N q : Nat) (L : LexSt) : Prop where
  inv : Inv s L
  bn : L.bn = tpos s zs q
  ts : L.ts = (tpos s zs q : Int)
  tl : L.tl = 1 + (nlc s (tpos s zs q) : Int)
  tc : L.tc = (tpos s zs q : Int) - nle s (tpos s zs q) + 1
  src : L.src = .pointer (some ⟨M, 0, none⟩)
  fod : ∃ fp fc, L.fod = .slice fp 0 fc
  own : L.toks.ownBlock ≠ some N

/-- What the j-th token's cells hold. -/
def TokIs (s : ByteArray) (zs : List Int) (M : Nat) (xs : List Value) (j : Nat) : Prop :=
  ∃ (fp : Option Addr) (fc : Nat) (im : ByteArray), ∀ r, r < 11 → xs[j * 11 + r]? = (tokCells (.slice fp 0 fc) (s.extract (tpos s zs j) (tpos s zs (j + 1))) ⟨#[]⟩ ⟨#[]⟩ (.pointer (some ⟨M, 0, none⟩)) im (1 + (nlc s (tpos s zs j) : Int)) ((tpos s zs j : Int) - nle s (tpos s zs j) + 1) (1 + (nlc s (tpos s zs (j + 1)) : Int)) ((tpos s zs (j + 1) : Int) - nle s (tpos s zs (j + 1)) + 1) 10)[r]?

/-- The tokens so far. -/
def Toks (s : ByteArray) (zs : List Int) (M B q : Nat) (L : LexSt) (w : World) : Prop :=
  ∃ xs : List Value, w.ownsRow B 65 11 L.toks q xs ∧ ∀ j, j < q → TokIs s zs M xs j

theorem toks_step {s : ByteArray} {zs : List Int} {M N B q : Nat} {L1 L : LexSt} {w : World} {xs : List Value} {v : Value} (h1 : TInv s zs M N q L1) (hin : Inv s L) (hb : L.bn = tpos s zs (q + 1)) (hk : L.src = L1.src ∧ L.fod = L1.fod ∧ L.tl = L1.tl ∧ L.tc = L1.tc)
    (hl : xs.length = q * 11) (hxs : ∀ j, j < q → TokIs s zs M xs j)
    (hown : w.ownsRow B 65 11 v (q + 1) (xs ++ tokCells L.fod (L.inp.extract (tpos s zs q) L.bn) ⟨#[]⟩ ⟨#[]⟩ L.src L.im L.tl L.tc L.loc1 L.loc2 10)) :
    ∃ ys : List Value, w.ownsRow B 65 11 v (q + 1) ys ∧ ∀ j, j < q + 1 → TokIs s zs M ys j := by
  refine ⟨_, hown, fun j hj => ?_⟩
  obtain ⟨k1, k2, k3, k4⟩ := hk
  by_cases hjq : j < q
  · obtain ⟨fp, fc, im, h⟩ := hxs j hjq
    refine ⟨fp, fc, im, fun r hr => ?_⟩
    rw [List.getElem?_append_left (by omega)]
    exact h r hr
  · obtain rfl : j = q := by omega
    obtain ⟨fp, fc, hf⟩ := h1.fod
    refine ⟨fp, fc, L.im, fun r hr => ?_⟩
    rw [List.getElem?_append_right (by omega), hl, Nat.add_sub_cancel_left, k1, k2, k3, k4, h1.src, hf, h1.tl, h1.tc, hin.inp, hb]
    unfold LexSt.loc1 LexSt.loc2
    rw [hin.ln, hin.ls, hb]

theorem tinv_step {s : ByteArray} {zs : List Int} {M N q : Nat} {L : LexSt} (h : TInv s zs M N q L) (zn : Nat) (hz : zs.getD q 0 = (zn : Int)) (g cap n Mf : Nat) (hg : g ≠ N) :
    TInv s zs M N (q + 1) ({ L.steps zn with toks := .slice (some ⟨g, 0, none⟩) n cap, fod := .slice (some ⟨Mf, 0, none⟩) 0 0 } : LexSt).reset := by
  have hi := h.inv.steps zn
  have hb : (L.steps zn).bn = tpos s zs (q + 1) := by
    rw [adv_steps L h.inv.inp zn, h.bn]
    show _ = adv s (zs.getD q 0).toNat (tpos s zs q)
    rw [hz, Int.toNat_natCast]
  refine ⟨⟨hi.inp, hi.le, hi.ln, hi.ls⟩, hb, ?_, ?_, ?_, ?_, ⟨_, _, rfl⟩, ?_⟩
  · show ((L.steps zn).bn : Int) = _
    rw [hb]
  · show (L.steps zn).ln = _
    rw [hi.ln, hb]
  · show ((L.steps zn).bn : Int) - (L.steps zn).ls + 1 = _
    rw [hi.ls, hb]
  · show (L.steps zn).src = _
    rw [(steps_keeps L zn).2.2.2.1, h.src]
  · simp [LexSt.reset, Value.ownBlock]
    exact hg
/-- What emitToken asks of the lexer behind the steps. -/
theorem steps_facts {s : ByteArray} {zs : List Int} {M N q : Nat} {L : LexSt} (h : TInv s zs M N q L) (zn : Nat) (hz : zs.getD q 0 = (zn : Int)) :
    (L.steps zn).src = .pointer (some ⟨M, 0, none⟩) ∧ (L.steps zn).fod = L.fod ∧ (L.steps zn).toks = L.toks ∧ (L.steps zn).ts = (tpos s zs q : Int) ∧ (L.steps zn).tl = L.tl ∧ (L.steps zn).tc = L.tc ∧ (L.steps zn).inp = s ∧ (L.steps zn).bn = tpos s zs (q + 1) ∧ tpos s zs q ≤ tpos s zs (q + 1) ∧ tpos s zs (q + 1) ≤ s.size := by
  obtain ⟨_, _, _, k4, k5, k6, k7, k8, k9⟩ := steps_keeps L zn
  have hi := h.inv.steps zn
  have hb : (L.steps zn).bn = tpos s zs (q + 1) := by
    rw [adv_steps L h.inv.inp zn, h.bn]
    show _ = adv s (zs.getD q 0).toNat (tpos s zs q)
    rw [hz, Int.toNat_natCast]
  have hf := (steps_far h.inv zn).1
  have hle := hi.le
  have hl0 := h.inv.le
  rw [hb, h.bn] at hf
  rw [hb] at hle
  rw [h.bn] at hl0
  exact ⟨k4.trans h.src, k6, k5, k7.trans h.ts, k8, k9, hi.inp, hb, by omega, hle⟩
theorem own_base {w : World} {B : Nat} {e : TypeId} {size : Nat} {v : Value} {n : Nat} {xs : List Value} (h : w.ownsRow B e size v n xs) : ∀ i, v.ownBlock = some i → B ≤ i := by
  intro i hi
  rcases h.2 with ⟨rfl, _⟩ | ⟨g, cap, cur, rfl, hb, _⟩
  · simp [Value.ownBlock] at hi
  · obtain rfl : g = i := by simpa [Value.ownBlock] using hi
    exact hb
theorem own_form {w : World} {B : Nat} {e : TypeId} {v : Value} {n : Nat} {xs : List Value} (h : w.ownsRow B e 11 v n xs) : ∃ p cap, v = .slice p n cap := by
  rcases h.2 with ⟨rfl, rfl⟩ | ⟨g, cap, cur, rfl, _⟩
  · have := h.1
    simp at this
    subst this
    exact ⟨_, _, rfl⟩
  · exact ⟨_, _, rfl⟩
theorem Toks.same {s : ByteArray} {zs : List Int} {M B q : Nat} {L : LexSt} {w w' : World} (h : Toks s zs M B q L w) (hk : ∀ g, L.toks.ownBlock = some g → w'.heap[g]? = w.heap[g]?) : Toks s zs M B q L w' := by
  obtain ⟨xs, ho, hx⟩ := h
  exact ⟨xs, ownsRow_same ho hk, hx⟩
theorem Toks.lt {s : ByteArray} {zs : List Int} {M B q : Nat} {L : LexSt} {w : World} (h : Toks s zs M B q L w) : ∀ g, L.toks.ownBlock = some g → g < w.heap.size := by
  obtain ⟨xs, ho, hx⟩ := h
  intro g hg
  obtain ⟨c, fz, hc⟩ := Lib.ownsRow_kind ho g hg
  exact (Array.getElem?_eq_some_iff.1 hc).1
theorem Toks.row {s : ByteArray} {zs : List Int} {M B n : Nat} {L : LexSt} {w : World} (h : Toks s zs M B n L w) {g cap q : Nat} (hL : L.toks = .slice (some ⟨g, 0, none⟩) n cap) (hq : q < n) :
    ∃ (fp : Option Addr) (fc : Nat) (im : ByteArray), ∀ r, r < 11 → w.cell? ⟨g, q * 11 + r, none⟩ = (tokCells (.slice fp 0 fc) (s.extract (tpos s zs q) (tpos s zs (q + 1))) ⟨#[]⟩ ⟨#[]⟩ (.pointer (some ⟨M, 0, none⟩)) im (1 + (nlc s (tpos s zs q) : Int)) ((tpos s zs q : Int) - nle s (tpos s zs q) + 1) (1 + (nlc s (tpos s zs (q + 1)) : Int)) ((tpos s zs (q + 1) : Int) - nle s (tpos s zs (q + 1)) + 1) 10)[r]? := by
  obtain ⟨xs, ho, hx⟩ := h
  rw [hL] at ho
  obtain ⟨fp, fc, im, hr⟩ := hx q hq
  exact ⟨fp, fc, im, fun r hr' => (ho.cellAt (q * 11 + r) (by omega)).trans (hr r hr')⟩
theorem tpos_mono {s : ByteArray} {zs : List Int} {q : Nat} (h : tpos s zs q ≤ s.size) : tpos s zs q ≤ tpos s zs (q + 1) ∧ tpos s zs (q + 1) ≤ s.size := by
  show _ ≤ adv s _ _ ∧ adv s _ _ ≤ _
  generalize (zs.getD q 0).toNat = n
  induction n with
  | zero => exact ⟨Nat.le_refl _, h⟩
  | succ n ih =>
    unfold adv
    by_cases hp : adv s n (tpos s zs q) < s.size
    · rw [if_pos hp]
      have := width_le s _ hp
      omega
    · rw [if_neg hp]
      exact ih
theorem tpos_le (s : ByteArray) (zs : List Int) : ∀ q, tpos s zs q ≤ s.size
  | 0 => Nat.zero_le _
  | q + 1 => (tpos_mono (tpos_le s zs q)).2

theorem lineColI (s : ByteArray) (z : Int) (b : Nat) (hz : z = b) (hb : b ≤ s.size) (hs : s.size ≤ 1099511627775) (w : World) :
    Calls Tryd.prog 23 #[.string s, .int .i64 z] w fun e w' => e = .returned (.tuple #[.int .i64 (1 + (nlc s b : Int)), .int .i64 ((b : Int) - nle s b + 1)]) ∧ w = w' := by
  subst hz
  exact lineCol s b hb hs w

theorem bytes_ok (s : ByteArray) (a : Option Addr) (n c : Nat) (w : World) (h : s.size + n ≤ 1048576) :
    Calls Tryd.prog 36 #[.string s, .slice a n c] w fun e w' => e = .returned (.bool true) ∧ w = w' := by
  go_enter Tryd.func36, Tryd.ntmps36
  go_wp2
  go_ret
  exact ⟨rfl, rfl⟩
theorem bytes_no (s : ByteArray) (a : Option Addr) (n c : Nat) (w : World) (hs : s.size ≤ maxLen) (hn : n ≤ maxLen) (h : 1048576 < s.size + n) :
    Calls Tryd.prog 36 #[.string s, .slice a n c] w fun e w' => e = .returned (.bool false) ∧ w = w' := by
  unfold maxLen at hs hn
  by_cases h1 : 1048576 < s.size
  · go_enter Tryd.func36, Tryd.ntmps36
    go_wp2
    all_goals go_ret
    all_goals exact ⟨rfl, rfl⟩
  by_cases h2 : 1048576 < n
  · go_enter Tryd.func36, Tryd.ntmps36
    go_wp2
    all_goals go_ret
    all_goals exact ⟨rfl, rfl⟩
  · go_enter Tryd.func36, Tryd.ntmps36
    go_wp2
    all_goals go_ret
    all_goals exact ⟨rfl, rfl⟩

/-- The sum of the first k chunks. -/
def sumTo (zs : List Int) : Nat → Int
  | 0 => 0
  | k + 1 => sumTo zs k + zs.getD k 0

end Go.Proofs.YtgcgafkedhohcaaDoor.fnEmitTokenTilesInput
