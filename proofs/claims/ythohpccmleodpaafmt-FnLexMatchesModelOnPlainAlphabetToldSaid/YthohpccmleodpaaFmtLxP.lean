/-
  The plain lexer's model, with no program in sight: what lies at a byte, how far it reaches, the whole input's outcome.
-/
import Derived.Test.YthohpccmleodpaaFmtIdA
import Derived.Test.YthohpccmleodpaaFmtWs
import Derived.Test.YthohpccmleodpaaFmtNumT
namespace Go.Proofs.YthohpccmleodpaaFmt
open Go Go.RowKit
namespace Lx

def isD (c : Nat) : Bool := decide (48 ≤ c) && decide (c ≤ 57)
def punct (c : Nat) : Int := if c = 123 then 0 else if c = 125 then 1 else if c = 91 then 2 else if c = 93 then 3 else if c = 44 then 4 else if c = 40 then 7 else if c = 41 then 8 else if c = 59 then 9 else -1
/-- A byte of the plain alphabet. -/
def okB (c : Nat) : Bool := isD c || idF (c : Int) || isWs (c : Int) || decide (0 ≤ punct c)
def Plain (s : ByteArray) : Prop := ∀ p, p < s.size → okB (byteAt s p) = true
abbrev Tok := Int × ByteArray
/-- An identifier's reach. -/
structure IdR (s : ByteArray) (p k : Nat) : Prop where
  pos : 0 < k
  fit : p + k ≤ s.size
  all : ∀ j, j < k → idC (byteAt s (p + j)) = true
  stop : p + k = s.size ∨ (p + k < s.size ∧ idC (byteAt s (p + k)) = false)
/-- What lies at p: a token or none, and how far it reaches; none at all: no number. -/
inductive Stp (s : ByteArray) (p : Nat) : Option (Option Tok × Nat) → Prop
  | ws (h : isWs (byteAt s p) = true) : Stp s p (some (none, 1))
  | pu (h : 0 ≤ punct (byteAt s p)) : Stp s p (some (some (punct (byteAt s p), s.extract p (p + 1)), 1))
  | id (k : Nat) (h : idF (byteAt s p) = true) (hk : IdR s p k) : Stp s p (some (some (kwKind (s.extract p (p + k)), s.extract p (p + k)), k))
  | nu (k : Nat) (h : isD (byteAt s p) = true) (hk : numRun 0 (s.data.toList.drop p) 0 = some k) : Stp s p (some (some (11, ⟨(numBuf s p k).toArray⟩), k))
  | nf (h : isD (byteAt s p) = true) (hk : numRun 0 (s.data.toList.drop p) 0 = none) : Stp s p none
inductive Res (s : ByteArray) : Nat → Option (List Tok) → Prop
  | done {p : Nat} (h : s.size ≤ p) : Res s p (some [])
  | fail {p : Nat} (h : p < s.size) (hs : Stp s p none) : Res s p none
  | step {p k : Nat} {t : Option Tok} {o : Option (List Tok)} (h : p < s.size) (hs : Stp s p (some (t, k))) (ho : Res s (p + k) o) : Res s p (o.map (t.toList ++ ·))

theorem idF_cases {c : Nat} (h : idF (c : Int) = true) : (65 ≤ c ∧ c ≤ 90) ∨ (97 ≤ c ∧ c ≤ 122) ∨ c = 95 := by
  have h' : idF (c : Int) = true := h
  simp only [idF, isUp, isLo, Bool.or_eq_true, Bool.and_eq_true, decide_eq_true_eq, beq_iff_eq] at h'
  omega
theorem idF_of {c : Nat} (h : (65 ≤ c ∧ c ≤ 90) ∨ (97 ≤ c ∧ c ≤ 122) ∨ c = 95) : idF (c : Int) = true := by
  simp only [idF, isUp, isLo, Bool.or_eq_true, Bool.and_eq_true, decide_eq_true_eq, beq_iff_eq]
  omega
theorem isD_cases {c : Nat} (h : isD c = true) : 48 ≤ c ∧ c ≤ 57 := by
  simpa [isD] using h
theorem isWs_cases' {c : Nat} (h : isWs (c : Int) = true) : c = 10 ∨ c = 32 ∨ c = 9 ∨ c = 13 := by
  have := isWs_cases h
  omega
theorem punct_cases {c : Nat} (h : 0 ≤ punct c) : c = 123 ∨ c = 125 ∨ c = 91 ∨ c = 93 ∨ c = 44 ∨ c = 40 ∨ c = 41 ∨ c = 59 := by
  unfold punct at h
  by_cases h1 : c = 123; · omega
  by_cases h2 : c = 125; · omega
  by_cases h3 : c = 91; · omega
  by_cases h4 : c = 93; · omega
  by_cases h5 : c = 44; · omega
  by_cases h6 : c = 40; · omega
  by_cases h7 : c = 41; · omega
  by_cases h8 : c = 59; · omega
  rw [if_neg h1, if_neg h2, if_neg h3, if_neg h4, if_neg h5, if_neg h6, if_neg h7, if_neg h8] at h
  omega
theorem idC_iff {c : Nat} : idC (c : Int) = true ↔ (idF (c : Int) = true ∨ isD c = true) := by
  unfold idC
  rw [Bool.or_eq_true]
  have : isNu (c : Int) = isD c := by
    unfold isNu isD
    have e1 : decide ((48 : Int) ≤ (c : Int)) = decide (48 ≤ c) := decide_eq_decide.2 (by omega)
    have e2 : decide ((c : Int) ≤ 57) = decide (c ≤ 57) := decide_eq_decide.2 (by omega)
    first
      | rw [e1, e2]
      | simp [e1, e2]
  rw [this]
theorem IdR.unique {s : ByteArray} {p k k' : Nat} (h : IdR s p k) (h' : IdR s p k') : k = k' := by
  have key : ∀ {a b : Nat}, IdR s p a → IdR s p b → ¬ a < b := fun {a b} ha hb hlt => by
    have h1 := hb.all a hlt
    have h2 := hb.fit
    rcases ha.stop with e | ⟨_, e⟩
    · omega
    · rw [h1] at e; cases e
  have := key h h'
  have := key h' h
  omega
theorem Stp.unique {s : ByteArray} {p : Nat} {a b : Option (Option Tok × Nat)} (h : Stp s p a) (h' : Stp s p b) : a = b := by
  cases h with
  | ws h =>
    have c1 := isWs_cases' h
    cases h' with
    | ws h' => rfl
    | pu h' => have := punct_cases h'; omega
    | id k h' hk => have := idF_cases h'; omega
    | nu k h' hk => have := isD_cases h'; omega
    | nf h' hk => have := isD_cases h'; omega
  | pu h =>
    have c1 := punct_cases h
    cases h' with
    | ws h' => have := isWs_cases' h'; omega
    | pu h' => rfl
    | id k h' hk => have := idF_cases h'; omega
    | nu k h' hk => have := isD_cases h'; omega
    | nf h' hk => have := isD_cases h'; omega
  | id k h hk =>
    have c1 := idF_cases h
    cases h' with
    | ws h' => have := isWs_cases' h'; omega
    | pu h' => have := punct_cases h'; omega
    | id k' h' hk' => rw [hk.unique hk']
    | nu k h' hk => have := isD_cases h'; omega
    | nf h' hk => have := isD_cases h'; omega
  | nu k h hk =>
    have c1 := isD_cases h
    cases h' with
    | ws h' => have := isWs_cases' h'; omega
    | pu h' => have := punct_cases h'; omega
    | id k' h' hk' => have := idF_cases h'; omega
    | nu k' h' hk' =>
      rw [hk] at hk'
      cases hk'
      rfl
    | nf h' hk' => rw [hk] at hk'; cases hk'
  | nf h hk =>
    have c1 := isD_cases h
    cases h' with
    | ws h' => have := isWs_cases' h'; omega
    | pu h' => have := punct_cases h'; omega
    | id k' h' hk' => have := idF_cases h'; omega
    | nu k' h' hk' => rw [hk] at hk'; cases hk'
    | nf h' hk' => rfl
theorem Res.unique {s : ByteArray} {p : Nat} {a : Option (List Tok)} (h : Res s p a) : ∀ {b : Option (List Tok)}, Res s p b → a = b := by
  induction h with
  | done h =>
    intro b h'
    cases h' with
    | done _ => rfl
    | fail h2 _ => omega
    | step h2 _ _ => omega
  | fail h hs =>
    intro b h'
    cases h' with
    | done h2 => omega
    | fail _ _ => rfl
    | step _ hs2 _ => have := hs.unique hs2; cases this
  | step h hs ho ih =>
    intro b h'
    cases h' with
    | done h2 => omega
    | fail _ hs2 => have := hs.unique hs2; cases this
    | step _ hs2 ho2 =>
      have := hs.unique hs2
      cases this
      rw [ih ho2]
/-- Up to p, these tokens. -/
def Pre (s : ByteArray) (p : Nat) (ts : List Tok) : Prop := ∀ o, Res s p o → Res s 0 (o.map (ts ++ ·))
theorem Pre.zero (s : ByteArray) : Pre s 0 [] := fun o h => by
  have e : o.map (([] : List Tok) ++ ·) = o := by cases o <;> simp
  rw [e]
  exact h
theorem Pre.step {s : ByteArray} {p k : Nat} {ts : List Tok} {t : Option Tok} (h : Pre s p ts) (hp : p < s.size) (hs : Stp s p (some (t, k))) : Pre s (p + k) (ts ++ t.toList) := fun o ho => by
  have := h _ (.step hp hs ho)
  have e : (o.map (t.toList ++ ·)).map (ts ++ ·) = o.map ((ts ++ t.toList) ++ ·) := by cases o <;> simp
  rw [e] at this
  exact this
theorem Pre.done {s : ByteArray} {p : Nat} {ts : List Tok} (h : Pre s p ts) (hp : s.size ≤ p) : Res s 0 (some ts) := by
  have := h _ (.done hp)
  simpa using this
theorem Pre.fail {s : ByteArray} {p : Nat} {ts : List Tok} (h : Pre s p ts) (hp : p < s.size) (hs : Stp s p none) : Res s 0 none := h _ (.fail hp hs)
theorem Pre.spaces {s : ByteArray} {p : Nat} {ts : List Tok} (h : Pre s p ts) : ∀ k, p + k ≤ s.size → (∀ j, j < k → isWs (byteAt s (p + j)) = true) → Pre s (p + k) ts
  | 0, _, _ => h
  | k + 1, hf, hw => by
    have := (Pre.spaces h k (by omega) (fun j hj => hw j (by omega))).step (by omega) (.ws (hw k (by omega)))
    simpa [Nat.add_assoc] using this

end Lx
end Go.Proofs.YthohpccmleodpaaFmt
