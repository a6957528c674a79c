/-
  Plain law: stripping a text's runes is the closed form over its bytes; and which piece of a well-formed text is which line. No program is named here.
-/
import Derived.Test.YtigfoghdffbfoaaDoorRunesB
import Derived.Test.YtigfoghdffbfoaaDoorLinesFlat
import Derived.Test.YtigfoghdffbfoaaDoorPieces
namespace Go.Proofs.YtigfoghdffbfoaaDoor
open Go

def OkR (z : Int) : Prop := (0 ≤ z ∧ z < 55296) ∨ (57343 < z ∧ z ≤ 1114111)
theorem OkR.nonneg {z : Int} (h : OkR z) : 0 ≤ z := by unfold OkR at h; omega
/-- Bytes that are whole runes. -/
def WU (c : List UInt8) : Prop := ∃ zs : List Int, c = zs.flatMap Lib.encodeRune ∧ ∀ z ∈ zs, OkR z

theorem dec_ok (s : ByteArray) (p : Nat) : OkR ((Utf8.decode s p).1 : Int) := by
  have h := Lib.decodeN_valid (s.size - p) (s.get! p).toNat (s.get! (p + 1)).toNat (s.get! (p + 2)).toNat (s.get! (p + 3)).toNat (UInt8.toNat_lt _)
  rw [← Lib.decode_at] at h
  unfold OkR
  omega
theorem WU.add {c : List UInt8} (h : WU c) {z : Int} (hz : OkR z) : WU (c ++ Lib.encodeRune z) := by
  obtain ⟨zs, rfl, ho⟩ := h
  refine ⟨zs ++ [z], by simp, ?_⟩
  intro x hx
  rw [List.mem_append, List.mem_singleton] at hx
  rcases hx with hx | rfl
  · exact ho x hx
  · exact hz
theorem lines_wu (s : ByteArray) : ∀ (f pos : Nat) (cur : List UInt8), WU cur → ∀ l ∈ linesFrom s f pos cur, ∃ c : List UInt8, l = c ++ [10] ∧ WU c := by
  intro f
  induction f with
  | zero =>
    intro pos cur hc l hl
    rw [linesFrom, List.mem_singleton] at hl
    exact ⟨cur, hl, hc⟩
  | succ f ih =>
    intro pos cur hc l hl
    by_cases hp : pos < s.size
    · by_cases hn : (Utf8.decode s pos).1 = 10
      · rw [linesFrom_nl s f pos cur hp hn, List.mem_cons] at hl
        rcases hl with hl | hl
        · rw [hn] at hl
          exact ⟨cur, hl, hc⟩
        · exact ih _ _ ⟨[], rfl, by simp⟩ l hl
      · rw [linesFrom_other s f pos cur hp hn] at hl
        exact ih _ _ (hc.add (dec_ok s pos)) l hl
    · rw [linesFrom_end s _ pos cur hp, List.mem_singleton] at hl
      exact ⟨cur, hl, hc⟩

theorem u8 (n : Nat) (h : n < 256) : (n.toUInt8).toNat = n := by simp; omega
/-- A rune's bytes are read back as that rune. -/
theorem dec_enc {z : Int} (hz : OkR z) (t : List UInt8) : Lib.decodeL (Lib.encodeRune z ++ t) = (z.toNat, (Lib.encodeRune z).length) := by
  unfold OkR at hz
  rw [Lib.decodeL_N]
  unfold Lib.encodeRune
  by_cases a1 : 0 ≤ z ∧ z ≤ 127
  · rw [Lib.encodeRuneZ_one a1.1 a1.2]
    simp only [List.map_cons, List.map_nil, List.cons_append, List.nil_append, List.getD_cons_zero, List.getD_cons_succ, List.length_cons, List.length_nil]
    rw [u8 _ (by omega)]
    unfold Lib.decodeN
    rw [if_pos (by omega)]
  by_cases a2 : 128 ≤ z ∧ z ≤ 2047
  · rw [Lib.encodeRuneZ_two a2.1 a2.2]
    simp only [List.map_cons, List.map_nil, List.cons_append, List.nil_append, List.getD_cons_zero, List.getD_cons_succ, List.length_cons, List.length_nil]
    rw [u8 _ (by omega), u8 _ (by omega)]
    unfold Lib.decodeN
    rw [if_neg (by omega), if_pos (by omega), if_pos (by omega)]
    refine Prod.ext ?_ rfl
    show _ = _
    dsimp only
    omega
  by_cases a3 : (2048 ≤ z ∧ z < 55296) ∨ (57343 < z ∧ z ≤ 65535)
  · rw [Lib.encodeRuneZ_three a3]
    simp only [List.map_cons, List.map_nil, List.cons_append, List.nil_append, List.getD_cons_zero, List.getD_cons_succ, List.length_cons, List.length_nil]
    rw [u8 _ (by omega), u8 _ (by omega), u8 _ (by omega)]
    unfold Lib.decodeN
    have e : (224 + z / 4096).toNat % 16 * 4096 + (128 + z / 64 % 64).toNat % 64 * 64 + (128 + z % 64).toNat % 64 = z.toNat := by omega
    rw [if_neg (by omega), if_neg (by omega), if_pos (by omega), if_pos (by omega), e]
  · have a4 : 65536 ≤ z ∧ z ≤ 1114111 := by omega
    rw [Lib.encodeRuneZ_four a4.1 a4.2]
    simp only [List.map_cons, List.map_nil, List.cons_append, List.nil_append, List.getD_cons_zero, List.getD_cons_succ, List.length_cons, List.length_nil]
    rw [u8 _ (by omega), u8 _ (by omega), u8 _ (by omega), u8 _ (by omega)]
    unfold Lib.decodeN
    have e : (240 + z / 262144).toNat % 8 * 262144 + (128 + z / 4096 % 64).toNat % 64 * 4096 + (128 + z / 64 % 64).toNat % 64 * 64 + (128 + z % 64).toNat % 64 = z.toNat := by omega
    rw [if_neg (by omega), if_neg (by omega), if_neg (by omega), if_pos (by omega), if_pos (by omega), e]
theorem enc_pos {z : Int} : 0 < (Lib.encodeRune z).length := by
  unfold Lib.encodeRune Lib.encodeRuneZ
  repeat' split
  all_goals simp

theorem runes_back : ∀ (zs : List Int) (pre : List UInt8) (f : Nat), (∀ z ∈ zs, OkR z) → (zs.flatMap Lib.encodeRune).length ≤ f → runesFrom ⟨(pre ++ zs.flatMap Lib.encodeRune).toArray⟩ f pre.length = zs := by
  intro zs
  induction zs with
  | nil =>
    intro pre f _ _
    cases f with
    | zero => rfl
    | succ f =>
      unfold runesFrom
      rw [if_neg (by simp [ByteArray.size])]
  | cons z zs ih =>
    intro pre f ho hf
    have hp := enc_pos (z := z)
    rw [List.flatMap_cons, List.length_append] at hf
    obtain ⟨f', rfl⟩ : ∃ f', f = f' + 1 := ⟨f - 1, by omega⟩
    have hz := ho z (by simp)
    unfold runesFrom
    have hd : Utf8.decode ⟨(pre ++ (z :: zs).flatMap Lib.encodeRune).toArray⟩ pre.length = (z.toNat, (Lib.encodeRune z).length) := by
      rw [← Lib.decodeL_drop]
      show Lib.decodeL ((pre ++ (z :: zs).flatMap Lib.encodeRune).drop pre.length) = _
      rw [List.drop_left, List.flatMap_cons]
      exact dec_enc hz _
    rw [if_pos (by simp [ByteArray.size]; omega), hd]
    have := ih (pre ++ Lib.encodeRune z) f' (fun x hx => ho x (List.mem_cons_of_mem _ hx)) (by omega)
    rw [List.length_append, List.append_assoc] at this
    rw [List.flatMap_cons, this]
    have hz0 := hz.nonneg
    congr 1
    show ((z.toNat : Nat) : Int) = z
    omega

theorem runesOf_wu {zs : List Int} (ho : ∀ z ∈ zs, OkR z) : runesOf ⟨(zs.flatMap Lib.encodeRune).toArray⟩ = zs := by
  have := runes_back zs [] (zs.flatMap Lib.encodeRune).length ho (Nat.le_refl _)
  rw [List.nil_append] at this
  unfold runesOf
  exact this

theorem enc_hws {z : Int} (hz : OkR z) : ∀ b ∈ Lib.encodeRune z, isHws ((b.toNat : Nat) : Int) = isHws z := by
  intro b hb
  by_cases hl : z < 128
  · have h0 := hz.nonneg
    obtain ⟨n, rfl⟩ := Int.eq_ofNat_of_zero_le h0
    rw [enc_low n (by omega), List.mem_singleton] at hb
    subst hb
    rw [u8 _ (by omega)]
  · have h1 := enc_hi z (by omega) b hb
    have h2 : isHws z = false := by unfold isHws; simp; omega
    rw [h2]
    unfold isHws
    simp
    omega
theorem flat_hws {zs : List Int} (ho : ∀ z ∈ zs, OkR z) (hh : ∀ z ∈ zs, isHws z = true) : (zs.flatMap Lib.encodeRune).length = zs.length ∧ ∀ b ∈ zs.flatMap Lib.encodeRune, isHws ((b.toNat : Nat) : Int) = true := by
  induction zs with
  | nil => simp
  | cons z zs ih =>
    obtain ⟨h1, h2⟩ := ih (fun x hx => ho x (List.mem_cons_of_mem _ hx)) (fun x hx => hh x (List.mem_cons_of_mem _ hx))
    have hz := hh z (by simp)
    have hoz := ho z (by simp)
    have h0 := hoz.nonneg
    have hlow : z < 128 := by unfold isHws at hz; simp at hz; omega
    obtain ⟨n, rfl⟩ := Int.eq_ofNat_of_zero_le h0
    rw [List.flatMap_cons]
    refine ⟨?_, ?_⟩
    · rw [List.length_append, h1, enc_low n (by omega)]
      simp
      omega
    · intro b hb
      rw [List.mem_append] at hb
      rcases hb with hb | hb
      · rw [enc_hws hoz b hb]; exact hz
      · exact h2 b hb

def hwAt (c : List UInt8) (x : Nat) : Bool := isHws (((c.getD x 0).toNat : Nat) : Int)
/-- What the closed form answers. -/
def SModel (c : List UInt8) (mg : Int) (r : List UInt8) : Prop :=
  ∃ lead : Nat, lead ≤ c.length ∧ (∀ x, x < lead → hwAt c x = true) ∧ ((lead = c.length ∧ r = []) ∨ (lead < c.length ∧ hwAt c lead = false ∧
    ∃ trail k : Nat, trail ≤ c.length ∧ (∀ x, x < trail → hwAt c (c.length - 1 - x) = true) ∧ (trail = c.length ∨ hwAt c (c.length - 1 - trail) = false) ∧
      ((k : Int) = if mg < 0 then 0 else if (lead : Int) < mg then (lead : Int) else mg) ∧ r = (c.take (c.length - trail)).drop k))

theorem getD_mem {c : List UInt8} {x : Nat} (h : x < c.length) : c.getD x 0 ∈ c := by
  rw [List.getD_eq_getElem?_getD, List.getElem?_eq_getElem h]
  exact List.getElem_mem h
theorem hwAt_left {a b : List UInt8} {x : Nat} (h : x < a.length) : hwAt (a ++ b) x = hwAt a x := by
  unfold hwAt
  rw [List.getD_eq_getElem?_getD, List.getElem?_append_left h, ← List.getD_eq_getElem?_getD]
theorem hwAt_right {a b : List UInt8} {x : Nat} (h : a.length ≤ x) : hwAt (a ++ b) x = hwAt b (x - a.length) := by
  unfold hwAt
  rw [List.getD_eq_getElem?_getD, List.getElem?_append_right h, ← List.getD_eq_getElem?_getD]
theorem hwAt_all {a : List UInt8} (h : ∀ b ∈ a, isHws ((b.toNat : Nat) : Int) = true) {x : Nat} (hx : x < a.length) : hwAt a x = true := h _ (getD_mem hx)
theorem hwAt_none {a : List UInt8} (h : ∀ b ∈ a, isHws ((b.toNat : Nat) : Int) = false) {x : Nat} (hx : x < a.length) : hwAt a x = false := h _ (getD_mem hx)
theorem getD_mem' {zs : List Int} {x : Nat} (h : x < zs.length) : zs.getD x 0 ∈ zs := by
  rw [List.getD_eq_getElem?_getD, List.getElem?_eq_getElem h]
  exact List.getElem_mem h

/-- Stripping the runes is the closed form over the bytes. -/
theorem model_eq {zs : List Int} {mg : Int} {i j : Nat} (ho : ∀ z ∈ zs, OkR z) (hs : Stripped zs mg i j) {r : List UInt8} (hm : SModel (zs.flatMap Lib.encodeRune) mg r) :
    r = ((zs.drop i).take (j - i)).flatMap Lib.encodeRune := by
  have hij := hs.ij
  have hjn := hs.jn
  have hz : zs = zs.take i ++ ((zs.drop i).take (j - i) ++ zs.drop j) := by
    have e1 : zs.drop j = (zs.drop i).drop (j - i) := by rw [List.drop_drop]; congr 1; omega
    rw [e1, List.take_append_drop, List.take_append_drop]
  obtain ⟨A, hA⟩ : ∃ A, A = (zs.take i).flatMap Lib.encodeRune := ⟨_, rfl⟩
  obtain ⟨M, hM⟩ : ∃ M, M = ((zs.drop i).take (j - i)).flatMap Lib.encodeRune := ⟨_, rfl⟩
  obtain ⟨B, hB⟩ : ∃ B, B = (zs.drop j).flatMap Lib.encodeRune := ⟨_, rfl⟩
  have hc : zs.flatMap Lib.encodeRune = A ++ (M ++ B) := by
    rw [hA, hM, hB, ← List.flatMap_append, ← List.flatMap_append, ← hz]
  have hAo : ∀ z ∈ zs.take i, OkR z := fun z h => ho z (List.mem_of_mem_take h)
  have hBo : ∀ z ∈ zs.drop j, OkR z := fun z h => ho z (List.mem_of_mem_drop h)
  have hAh : ∀ z ∈ zs.take i, isHws z = true := by
    intro z h
    obtain ⟨x, hx, rfl⟩ := List.getElem_of_mem h
    rw [List.length_take] at hx
    have := hs.lead x (by omega)
    rw [List.getD_eq_getElem?_getD, List.getElem?_eq_getElem (by omega)] at this
    rw [List.getElem_take]
    exact this
  have hBh : ∀ z ∈ zs.drop j, isHws z = true := by
    intro z h
    obtain ⟨x, hx, rfl⟩ := List.getElem_of_mem h
    rw [List.length_drop] at hx
    have := hs.trail (j + x) (by omega) (by omega)
    rw [List.getD_eq_getElem?_getD, List.getElem?_eq_getElem (by omega)] at this
    rw [List.getElem_drop]
    exact this
  obtain ⟨lA, bA⟩ := flat_hws hAo hAh
  obtain ⟨lB, bB⟩ := flat_hws hBo hBh
  rw [← hA] at lA bA
  rw [← hB] at lB bB
  rw [List.length_take] at lA
  rw [← hM]
  rw [hc] at hm
  obtain ⟨lead, hl1, hl2, hm0⟩ := hm
  have Hm := Lib.hid hm0
  clear hm0
  have hlen : (A ++ (M ++ B)).length = A.length + (M.length + B.length) := by rw [List.length_append, List.length_append]
  have hAi : A.length = i := by omega
  -- every byte of A and of B is blank
  have pA : ∀ x, x < A.length → hwAt (A ++ (M ++ B)) x = true := fun x hx => by rw [hwAt_left hx]; exact hwAt_all bA hx
  have pB : ∀ x, A.length + M.length ≤ x → x < A.length + (M.length + B.length) → hwAt (A ++ (M ++ B)) x = true := fun x h1 h2 => by
    rw [hwAt_right (by omega), hwAt_right (by omega)]
    exact hwAt_all bB (by omega)
  by_cases hji : j = i
  · have hM0 : M = [] := by rw [hM, hji]; simp
    rcases Hm.out with ⟨_, h⟩ | ⟨h1, h2, _⟩
    · rw [h, hM0]
    · exfalso
      rw [hlen, hM0, List.length_nil] at h1
      have h3 : hwAt (A ++ (M ++ B)) lead = true := by
        by_cases hx : lead < A.length
        · exact pA lead hx
        · exact pB lead (by rw [hM0, List.length_nil]; omega) (by rw [hM0, List.length_nil]; omega)
      rw [h3] at h2
      cases h2
  -- the last rune that stays is not blank
  have hlast : isHws (zs.getD (j - 1) 0) = false := by rcases hs.last with h | h; exact absurd h hji; exact h
  have hsplit : (zs.drop i).take (j - i) = (zs.drop i).take (j - 1 - i) ++ [zs.getD (j - 1) 0] := by
    have e1 : j - i = (j - 1 - i) + 1 := by omega
    rw [e1, List.take_succ_eq_append_getElem (by rw [List.length_drop]; omega), List.getElem_drop]
    congr 2
    rw [List.getD_eq_getElem?_getD, List.getElem?_eq_getElem (by omega)]
    simp only [Option.getD_some]
    congr 1
    omega
  have hlo := ho _ (getD_mem' (zs := zs) (x := j - 1) (by omega))
  have hep := enc_pos (z := zs.getD (j - 1) 0)
  obtain ⟨M1, hM1⟩ : ∃ M1, M1 = ((zs.drop i).take (j - 1 - i)).flatMap Lib.encodeRune := ⟨_, rfl⟩
  obtain ⟨E, hE⟩ : ∃ E, E = Lib.encodeRune (zs.getD (j - 1) 0) := ⟨_, rfl⟩
  have hMe : M = M1 ++ E := by rw [hM, hsplit, List.flatMap_append, hM1, hE]; simp
  have hEn : ∀ b ∈ E, isHws ((b.toNat : Nat) : Int) = false := by
    intro b hb
    rw [hE] at hb
    rw [enc_hws hlo b hb]
    exact hlast
  rw [← hE] at hep
  have hMl : M.length = M1.length + E.length := by rw [hMe, List.length_append]
  have hME : (M1 ++ E).length = M1.length + E.length := List.length_append
  have pE : hwAt (A ++ (M ++ B)) (A.length + M.length - 1) = false := by
    rw [hwAt_right (by omega), hwAt_left (by omega), hMe, hwAt_right (by omega)]
    exact hwAt_none hEn (by omega)
  rcases Hm.out with ⟨h1, _⟩ | ⟨h1, h2, trail, k, ht1, ht2, ht3, hk, hr⟩
  · exfalso
    rw [hl2 _ (by omega)] at pE
    cases pE
  rw [hlen] at ht1 ht2 ht3 hr h1
  have htr : trail = B.length := by
    rcases Nat.lt_trichotomy trail B.length with h | h | h
    · exfalso
      rcases ht3 with h3 | h3
      · omega
      · rw [pB _ (by omega) (by omega)] at h3
        cases h3
    · exact h
    · exfalso
      have := ht2 B.length h
      have e1 : A.length + (M.length + B.length) - 1 - B.length = A.length + M.length - 1 := by omega
      rw [e1, pE] at this
      cases this
  have hle : i ≤ lead := by
    by_cases h : i ≤ lead
    · exact h
    · exfalso
      rw [pA lead (by omega)] at h2
      cases h2
  have hki : k = i := by
    rcases hs.stop with h | h | h
    · omega
    · -- the first rune that stays is not blank
      have hlead : lead = i := by
        by_cases hx : lead = i
        · exact hx
        · exfalso
          have h3 := hl2 i (by omega)
          have hf : (zs.drop i).take (j - i) = zs.getD i 0 :: ((zs.drop (i + 1)).take (j - i - 1)) := by
            have e1 : j - i = (j - i - 1) + 1 := by omega
            rw [List.drop_eq_getElem_cons (by omega), e1, List.take_succ_cons, Nat.add_sub_cancel]
            congr 1
            rw [List.getD_eq_getElem?_getD, List.getElem?_eq_getElem (by omega)]
            rfl
          have hfo := ho _ (getD_mem' (zs := zs) (x := i) (by omega))
          have hfp := enc_pos (z := zs.getD i 0)
          have hMf : M = Lib.encodeRune (zs.getD i 0) ++ ((zs.drop (i + 1)).take (j - i - 1)).flatMap Lib.encodeRune := by rw [hM, hf, List.flatMap_cons]
          rw [hwAt_right (by omega), hwAt_left (by omega), hMf, hwAt_left (by omega), hwAt_none (fun b hb => by rw [enc_hws hfo b hb]; exact h) (by omega)] at h3
          cases h3
      rcases hs.mar with h0 | h0
      · split at hk
        · omega
        · split at hk <;> omega
      · split at hk
        · omega
        · split at hk <;> omega
    · rcases hs.mar with h0 | h0
      · split at hk
        · omega
        · split at hk <;> omega
      · split at hk
        · omega
        · split at hk <;> omega
  rw [hr, htr, hki]
  have e1 : A.length + (M.length + B.length) - B.length = (A ++ M).length := by rw [List.length_append]; omega
  rw [e1, ← List.append_assoc, List.take_left, ← hAi, List.drop_left]

def seg (s : ByteArray) (a b : Nat) : List UInt8 := (s.data.toList.take b).drop a
theorem line_seg {s : ByteArray} (hv : ValidU s) : ∀ (f n : Nat) (cur : List UInt8), s.size ≤ bpos s n + f → bpos s n ≤ s.size → cur = seg s (nle s (bpos s n)) (bpos s n) →
    ∀ i, bpos s n ≤ i → i ≤ s.size → (i = s.size ∨ byteAt s i = 10) → (linesFrom s f (bpos s n) cur)[nlc s i - nlc s (bpos s n)]? = some (seg s (nle s i) i ++ [10]) := by
  have hsz : s.data.toList.length = s.size := by rw [Array.length_toList]; rfl
  intro f
  induction f with
  | zero =>
    intro n cur h h0 hcur i h1 h2 h3
    obtain rfl : i = bpos s n := by omega
    rw [linesFrom, Nat.sub_self, hcur]
    rfl
  | succ f ih =>
    intro n cur h h0 hcur i h1 h2 h3
    by_cases hp : bpos s n < s.size
    · have hg := enc_good s _ hp (hv n hp)
      have w1 := Lib.decode_width_pos s (bpos s n) hp
      have w2 : bpos s n + (Utf8.decode s (bpos s n)).2 ≤ s.size := by
        have h1 := Lib.decodeN_width_le (s.size - bpos s n) (s.get! (bpos s n)).toNat (s.get! (bpos s n + 1)).toNat (s.get! (bpos s n + 2)).toNat (s.get! (bpos s n + 3)).toNat (by omega)
        rw [Lib.decode_at]
        omega
      have hi := ih (n + 1)
      rw [bpos_next hp] at hi
      obtain ⟨s1, s2⟩ := nl_step s (bpos s n) hp
      by_cases hn : (Utf8.decode s (bpos s n)).1 = 10
      · rw [linesFrom_nl s f _ cur hp hn]
        obtain ⟨k1, k2⟩ := s1 hn
        by_cases hi0 : i = bpos s n
        · subst hi0
          rw [Nat.sub_self, List.getElem?_cons_zero, hn, hcur]
          rfl
        · have hw : (Utf8.decode s (bpos s n)).2 = 1 := by
            by_cases hl : byteAt s (bpos s n) < 128
            · rw [decode_low s _ hp hl]
            · have := (decode_hi s _ hp (by omega)).1
              omega
          have hmono : nlc s (bpos s n + (Utf8.decode s (bpos s n)).2) ≤ nlc s i := by
            have : ∀ d a, nlc s a ≤ nlc s (a + d) := by
              intro d
              induction d with
              | zero => intro a; exact Nat.le_refl _
              | succ d ihd => intro a; have := ihd a; rw [← Nat.add_assoc, nlc]; omega
            have h := this (i - (bpos s n + (Utf8.decode s (bpos s n)).2)) (bpos s n + (Utf8.decode s (bpos s n)).2)
            rw [show bpos s n + (Utf8.decode s (bpos s n)).2 + (i - (bpos s n + (Utf8.decode s (bpos s n)).2)) = i by omega] at h
            exact h
          have := hi [] (by omega) w2 (by rw [k2]; unfold seg; rw [List.drop_of_length_le (by rw [List.length_take]; omega)]) i (by omega) h2 h3
          rw [show nlc s i - nlc s (bpos s n) = (nlc s i - nlc s (bpos s n + (Utf8.decode s (bpos s n)).2)) + 1 by omega, List.getElem?_cons_succ]
          exact this
      · rw [linesFrom_other s f _ cur hp hn]
        obtain ⟨k1, k2⟩ := s2 hn
        have hle : bpos s n + (Utf8.decode s (bpos s n)).2 ≤ i := by
          rcases h3 with rfl | h3
          · exact w2
          · by_cases hx : bpos s n + (Utf8.decode s (bpos s n)).2 ≤ i
            · exact hx
            · exfalso
              by_cases hl : byteAt s (bpos s n) < 128
              · rw [decode_low s _ hp hl] at hx hn
                obtain rfl : i = bpos s n := by dsimp only at hx; omega
                exact hn h3
              · have := (decode_hi s _ hp (by omega)).2 (i - bpos s n) (by omega)
                rw [show bpos s n + (i - bpos s n) = i by omega] at this
                omega
        have hnl := nle_le s (bpos s n)
        have hc2 : cur ++ Lib.encodeRune ((Utf8.decode s (bpos s n)).1 : Int) = seg s (nle s (bpos s n)) (bpos s n + (Utf8.decode s (bpos s n)).2) := by
          rw [hcur, hg]
          unfold seg
          rw [List.take_add, List.drop_append_of_le_length (by rw [List.length_take]; omega)]
        rw [← k1]
        exact hi _ (by omega) w2 (by rw [k2]; exact hc2) i hle h2 h3
    · obtain rfl : i = bpos s n := by omega
      rw [linesFrom_end s _ _ cur hp, Nat.sub_self, hcur]
      rfl

theorem srcLines_seg {s : ByteArray} (hv : ValidU s) (i : Nat) (h2 : i ≤ s.size) (h3 : i = s.size ∨ byteAt s i = 10) : (srcLines s)[nlc s i]? = some (seg s (nle s i) i ++ [10]) := by
  have := line_seg hv s.size 0 [] (by omega) (Nat.zero_le _) rfl i (Nat.zero_le _) h2 h3
  exact this

/-- At a piece's end: what lineSplit's element is. -/
theorem elem_model {s : ByteArray} (hv : ValidU s) {mg : Int} {os : List ByteArray} (hp : Pw mg (srcLines s) os) (i : Nat) (h2 : i ≤ s.size) (h3 : i = s.size ∨ byteAt s i = 10) :
    ∃ o, os[nlc s i]? = some o ∧ ∀ r : ByteArray, SModel (seg s (nle s i) i) mg r.data.toList → r = o := by
  have hl := srcLines_seg hv i h2 h3
  obtain ⟨hk, he⟩ := List.getElem?_eq_some_iff.1 hl
  obtain ⟨o, ho, hst⟩ := hp.at _ hk
  rw [he] at hst
  refine ⟨o, ho, fun r hr => ?_⟩
  obtain ⟨c, hc, wu⟩ := lines_wu s s.size 0 [] ⟨[], rfl, by simp⟩ _ (List.mem_of_getElem? hl)
  obtain rfl := List.append_cancel_right hc
  obtain ⟨c2, hc2, a, b, hst, rfl⟩ := hst
  obtain rfl := List.append_cancel_right hc2
  obtain ⟨zs, hzs, hok⟩ := wu
  rw [hzs] at hr hst ⊢
  rw [runesOf_wu hok] at hst ⊢
  apply ByteArray.ext
  apply Array.toList_inj.1
  rw [runesBytes_list]
  exact model_eq hok hst hr

end Go.Proofs.YtigfoghdffbfoaaDoor
