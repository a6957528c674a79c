/-
  What a lexer that only steps does to its place, line and line's start. Plain facts: no program is named here.
-/
import Derived.Test.YthohpccmleodpaaFmtLexC
import Derived.Test.YthohpccmleodpaaFmtByte
namespace Go.Proofs.YthohpccmleodpaaFmt
open Go

/-- What holds of a lexer that has only stepped. -/
structure Inv (s : ByteArray) (L : LexSt) : Prop where
  inp : L.inp = s
  le : L.bn ≤ s.size
  ln : L.ln = 1 + nlc s L.bn
  ls : L.ls = nle s L.bn

theorem Inv.step {s : ByteArray} {L : LexSt} (h : Inv s L) : Inv s L.step := by
  obtain ⟨h1, h2, h3, h4⟩ := h
  subst h1
  unfold LexSt.step
  by_cases hb : L.bn < L.inp.size
  · rw [if_pos hb]
    have hw := width_le L.inp L.bn hb
    obtain ⟨n1, n2⟩ := nl_step L.inp L.bn hb
    by_cases h10 : (Utf8.decode L.inp L.bn).1 = 10
    · rw [if_pos h10]
      obtain ⟨m1, m2⟩ := n1 h10
      exact ⟨rfl, hw, by show L.ln + 1 = 1 + ((nlc L.inp (L.bn + _) : Nat) : Int); rw [m1, h3]; omega, by show ((L.bn + _ : Nat) : Int) = ((nle L.inp (L.bn + _) : Nat) : Int); rw [m2]⟩
    · rw [if_neg h10]
      obtain ⟨m1, m2⟩ := n2 h10
      exact ⟨rfl, hw, by show L.ln = 1 + ((nlc L.inp (L.bn + _) : Nat) : Int); rw [m1, h3], by show L.ls = ((nle L.inp (L.bn + _) : Nat) : Int); rw [m2, h4]⟩
  · rw [if_neg hb]
    exact ⟨rfl, h2, h3, h4⟩

theorem Inv.lnb {s : ByteArray} {L : LexSt} (h : Inv s L) (hs : s.size ≤ 1099511627775) : 0 ≤ L.ln ∧ L.ln ≤ 1099511627776 := by
  have := nlc_le s L.bn
  have := h.le
  rw [h.ln]
  omega
theorem Inv.lsb {s : ByteArray} {L : LexSt} (h : Inv s L) : 0 ≤ L.ls ∧ L.ls ≤ L.bn := by
  have := nle_le s L.bn
  rw [h.ls]
  omega

/-- So many steps. -/
def LexSt.steps : Nat → LexSt → LexSt
  | 0, L => L
  | n + 1, L => (LexSt.steps n L).step

theorem Inv.steps {s : ByteArray} {L : LexSt} (h : Inv s L) : ∀ n, Inv s (L.steps n)
  | 0 => h
  | n + 1 => (Inv.steps h n).step

theorem step_keeps (L : LexSt) : L.step.d = L.d ∧ L.step.im = L.im ∧ L.step.inp = L.inp ∧ L.step.src = L.src ∧ L.step.toks = L.toks ∧ L.step.fod = L.fod ∧ L.step.ts = L.ts ∧ L.step.tl = L.tl ∧ L.step.tc = L.tc := by
  unfold LexSt.step
  split
  · split <;> exact ⟨rfl, rfl, rfl, rfl, rfl, rfl, rfl, rfl, rfl⟩
  · exact ⟨rfl, rfl, rfl, rfl, rfl, rfl, rfl, rfl, rfl⟩
theorem steps_keeps (L : LexSt) : ∀ n, (L.steps n).d = L.d ∧ (L.steps n).im = L.im ∧ (L.steps n).inp = L.inp ∧ (L.steps n).src = L.src ∧ (L.steps n).toks = L.toks ∧ (L.steps n).fod = L.fod ∧ (L.steps n).ts = L.ts ∧ (L.steps n).tl = L.tl ∧ (L.steps n).tc = L.tc
  | 0 => ⟨rfl, rfl, rfl, rfl, rfl, rfl, rfl, rfl, rfl⟩
  | n + 1 => by
    obtain ⟨a1, a2, a3, a4, a5, a6, a7, a8, a9⟩ := step_keeps (L.steps n)
    obtain ⟨b1, b2, b3, b4, b5, b6, b7, b8, b9⟩ := steps_keeps L n
    exact ⟨a1.trans b1, a2.trans b2, a3.trans b3, a4.trans b4, a5.trans b5, a6.trans b6, a7.trans b7, a8.trans b8, a9.trans b9⟩

/-- How far so many steps go. -/
theorem steps_far {s : ByteArray} {L : LexSt} (h : Inv s L) : ∀ n, min (L.bn + n) s.size ≤ (L.steps n).bn ∧ (L.steps n).bn ≤ L.bn + 4 * n
  | 0 => ⟨by show min _ _ ≤ L.bn; omega, by show L.bn ≤ _; omega⟩
  | n + 1 => by
    obtain ⟨h1, h2⟩ := steps_far h n
    have hi := h.steps n
    show min _ _ ≤ (L.steps n).step.bn ∧ (L.steps n).step.bn ≤ _
    unfold LexSt.step
    by_cases hb : (L.steps n).bn < (L.steps n).inp.size
    · rw [if_pos hb]
      have hw := width_pos _ _ hb
      have h4 := width4 (L.steps n).inp (L.steps n).bn
      by_cases h10 : (Utf8.decode (L.steps n).inp (L.steps n).bn).1 = 10
      · rw [if_pos h10]; dsimp only; omega
      · rw [if_neg h10]; dsimp only; omega
    · rw [if_neg hb]
      have := hi.inp
      rw [this] at hb
      omega

theorem inv_init (d im s : ByteArray) (src : Value) : Inv s (initSt d im s src) := ⟨rfl, Nat.zero_le _, rfl, rfl⟩

end Go.Proofs.YthohpccmleodpaaFmt
