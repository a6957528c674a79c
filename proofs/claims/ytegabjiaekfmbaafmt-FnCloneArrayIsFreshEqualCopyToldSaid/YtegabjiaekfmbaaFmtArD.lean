/-
  n008_147: the guard on sizes, contexts, modes, lists compared, one element appended.
-/
import Derived.Test.YtegabjiaekfmbaaFmtArC
import Derived.Laws.Bits128
import Derived.Deep.RegionLaw
import Derived.Deep.AppendLies
import Derived.Deep.DrawnRows
import Derived.OwnWalk
import Derived.WalkSpells
namespace Go.Proofs.YtegabjiaekfmbaaFmt
open Go Go.RowKit
namespace Arr

theorem i64_and3 (n : Int) : bits .and .i64 n 3 = n % 4 := by
  have h3 : (BitVec.ofInt 64 3).toNat = 2 ^ 2 - 1 := by decide
  have key : (BitVec.ofInt 64 n &&& BitVec.ofInt 64 3).toNat = (n % ((2 ^ 64 : Nat) : Int)).toNat % 2 ^ 2 := by
    rw [BitVec.toNat_and, BitVec.toNat_ofInt, h3, Nat.and_two_pow_sub_one_eq_mod]
  show IntKind.i64.wrap ((BitVec.ofInt 64 n &&& BitVec.ofInt 64 3).toNat : Nat) = n % 4
  rw [key, IntKind.wrap_i64]
  omega
/-- The mode of node i. -/
def modeAt (fm : Int) (i : Nat) : Nat := ((fm % 4 + i) % 4).toNat
theorem modeAt_lt (fm : Int) (i : Nat) : modeAt fm i < 4 := by unfold modeAt; omega
theorem nodeMode (fm : Int) (i : Nat) (hi : i ≤ 1048576) (w : World) :
    Calls Tryf.prog 16 #[.int .i64 fm, .int .i64 i] w fun e w' => e = .returned (.int .i64 (modeAt fm i)) ∧ w = w' := by
  have hm : ((modeAt fm i : Nat) : Int) = (fm % 4 + i) % 4 := by unfold modeAt; omega
  have e1 : bits .and .i64 fm 3 = fm % 4 := i64_and3 fm
  have e2 : bits .and .i64 (fm % 4 + i) 3 = (fm % 4 + i) % 4 := i64_and3 _
  have b1 : 0 ≤ fm % 4 ∧ fm % 4 < 4 := by omega
  rw [hm]
  generalize hr : fm % 4 = r at e1 e2 b1 ⊢
  obtain ⟨b1, b2⟩ := b1
  have e3 : IntKind.i64.wrap (r + i) = r + i := by rw [IntKind.wrap_i64]; omega
  go_enter Tryf.func16, Tryf.ntmps16
  go_wp2
  go_ret
  exact ⟨rfl, rfl⟩

set_option maxRecDepth 100000 in
theorem identsAre (a1 a2 : Option Addr) (n c1 c2 B1 B2 : Nat) (zs : List ByteArray) (w : World) (h1 : StrsAt w B1 (.slice a1 n c1) zs) (h2 : StrsAt w B2 (.slice a2 n c2) zs) (hl : zs.length = n) (hn : n ≤ 1048576) :
    Calls Tryf.prog 14 #[.slice a1 n c1, .slice a2 n c2] w fun e w' => e = .returned (.bool true) ∧ ∃ m, w' = w.drewN m := by
  have H1 := Lib.hid h1
  have H2 := Lib.hid h2
  have HL := Lib.hid hl
  clear h1 h2 hl
  go_enter Tryf.func14, Tryf.ntmps14
  go_wp2
  go_loopw [5] (fun i wr => ∃ q m : Nat, q ≤ n ∧ i = .int .i64 q ∧ Hid (wr = w.drewN m)) (fun i _ => n - (intOf i).toNat)
  case atStart => exact ⟨0, 0, Nat.zero_le _, rfl, Lib.hid rfl⟩
  case round =>
    obtain ⟨q, m, hq, rfl, HW⟩ := hrel
    by_cases hlt : q < n
    · obtain ⟨b, off, rfl, _, hcc⟩ := H1.out.cell (k := q) (by rw [HL.out]; exact hlt)
      obtain ⟨b', off', rfl, _, hcc'⟩ := H2.out.cell (k := q) (by rw [HL.out]; exact hlt)
      have e1 : wr.cell? ⟨b, off + q, none⟩ = some (.string (zs.getD q ByteArray.empty)) := by rw [HW.out]; exact hcc q (by rw [HL.out]; exact hlt)
      have e2 : wr.cell? ⟨b', off' + q, none⟩ = some (.string (zs.getD q ByteArray.empty)) := by rw [HW.out]; exact hcc' q (by rw [HL.out]; exact hlt)
      generalize zs.getD q ByteArray.empty = t at e1 e2
      have i5 : (0 : Int) ≤ (q : Int) := Int.natCast_nonneg _
      have i6 : (q : Int) < (n : Int) := by omega
      clear hcc hcc'
      go_wp2
      go_quiet (fail)
      go_wp2
      go_roundw
      case rel => exact ⟨q + 1, _, by omega, by go_num, Lib.hid (by rw [HW.out, World.drewN_drewN])⟩
      case measure => simp [intOf]; omega
    · obtain rfl : q = n := by omega
      go_wp2
      go_ret
      exact ⟨rfl, m, HW.out⟩

/-- The free variables of a node by its mode. -/
def freeAt (m : Nat) (id : ByteArray) (fz : List ByteArray) : List ByteArray := if m = 2 then [id] else if m = 3 then fz else []
theorem freeAt_two (id : ByteArray) (fz : List ByteArray) : freeAt 2 id fz = [id] := rfl
theorem freeAt_three (id : ByteArray) (fz : List ByteArray) : freeAt 3 id fz = fz := rfl
theorem freeAt_nil {m : Nat} (id : ByteArray) (fz : List ByteArray) (h2 : m ≠ 2) (h3 : m ≠ 3) : freeAt m id fz = [] := by unfold freeAt; rw [if_neg h2, if_neg h3]

set_option maxRecDepth 100000 in
theorem freeIs (a1 : Option Addr) (n c1 B1 : Nat) (m : Nat) (hm : m < 4) (id : ByteArray) (fa : Option Addr) (fm fc B2 : Nat) (fz : List ByteArray) (w : World) (h1 : StrsAt w B1 (.slice a1 n c1) (freeAt m id fz)) (hl1 : (freeAt m id fz).length = n) (h2 : StrsAt w B2 (.slice fa fm fc) fz) (hl2 : fz.length = fm) (hn : fm ≤ 1048576) :
    Calls Tryf.prog 17 #[.slice a1 n c1, .int .i64 m, .string id, .slice fa fm fc] w fun e w' => e = .returned (.bool true) ∧ ∃ m, w' = w.drewN m := by
  by_cases m2 : m = 2
  · subst m2
    rw [freeAt_two] at h1 hl1
    obtain rfl : 1 = n := hl1
    obtain ⟨b, off, rfl, _, hcc⟩ := h1.cell (k := 0) (by simp)
    have e1 : w.cell? ⟨b, off, none⟩ = some (.string id) := by simpa using hcc 0 (by simp)
    clear h1 h2 hcc
    go_enter Tryf.func17, Tryf.ntmps17
    go_wp2
    go_ret
    exact ⟨rfl, 0, rfl⟩
  by_cases m3 : m = 3
  · subst m3
    rw [freeAt_three] at h1 hl1
    obtain rfl : fm = n := hl2.symm.trans hl1
    have H := Lib.hid (identsAre a1 fa fm c1 fc B1 B2 fz w h1 h2 hl2 hn)
    clear h1 h2
    go_enter Tryf.func17, Tryf.ntmps17
    go_wp2_with (refine H.out.mono ?_; rintro e w' ⟨rfl, m, rfl⟩)
    go_wp2
    go_ret
    exact ⟨rfl, m, rfl⟩
  rw [freeAt_nil id fz m2 m3] at h1 hl1
  obtain rfl : 0 = n := hl1
  have d2 : ((m : Int) == 2) = false := beq_eq_false_iff_ne.2 (by omega)
  have d3 : ((m : Int) == 3) = false := beq_eq_false_iff_ne.2 (by omega)
  clear h1 h2
  go_enter Tryf.func17, Tryf.ntmps17
  go_wp2
  go_ret
  exact ⟨rfl, 0, rfl⟩

/-- The two contexts: nil, or in new memory; they may be one. -/
theorem makeCtxs (cx : ByteArray) (ba bv bs : Bool) (w : World) :
    Calls Tryf.prog 10 #[.string cx, .bool ba, .bool bv, .bool bs] w fun e w' => ∃ ca cv, e = .returned (.tuple #[.pointer ca, .pointer cv]) ∧ CtxNew w.heap.size w' ca (if ba then some cx else none) ∧ CtxNew w.heap.size w' cv (if bv then some cx else none) ∧ Below w.heap.size w w' := by
  cases ba <;> cases bv <;> cases bs
  · go_enter Tryf.func10, Tryf.ntmps10
    go_wp2
    refine bodyPost_ret (v := .tuple #[.pointer none, .pointer none]) (by simp [results, Tryf.results10, go_sem]) rfl ?_
    exact ⟨_, _, rfl, rfl, rfl, Below.refl _ _⟩
  · go_enter Tryf.func10, Tryf.ntmps10
    go_wp2
    refine bodyPost_ret (v := .tuple #[.pointer none, .pointer none]) (by simp [results, Tryf.results10, go_sem]) rfl ?_
    exact ⟨_, _, rfl, rfl, rfl, Below.refl _ _⟩
  · go_enter Tryf.func10, Tryf.ntmps10
    go_wp2
    refine bodyPost_ret (v := .tuple #[.pointer none, .pointer (some ⟨w.heap.size, 0, none⟩)]) (by simp [results, Tryf.results10, go_sem]) rfl ?_
    exact ⟨_, _, rfl, rfl, ⟨w.heap.size, Nat.le_refl _, rfl, heap_alloc_new w _⟩, (Below.refl _ w).alloc (Nat.le_refl _) _⟩
  · go_enter Tryf.func10, Tryf.ntmps10
    go_wp2
    refine bodyPost_ret (v := .tuple #[.pointer none, .pointer (some ⟨w.heap.size, 0, none⟩)]) (by simp [results, Tryf.results10, go_sem]) rfl ?_
    exact ⟨_, _, rfl, rfl, ⟨w.heap.size, Nat.le_refl _, rfl, heap_alloc_new w _⟩, (Below.refl _ w).alloc (Nat.le_refl _) _⟩
  · go_enter Tryf.func10, Tryf.ntmps10
    go_wp2
    refine bodyPost_ret (v := .tuple #[.pointer (some ⟨w.heap.size, 0, none⟩), .pointer none]) (by simp [results, Tryf.results10, go_sem]) rfl ?_
    exact ⟨_, _, rfl, ⟨w.heap.size, Nat.le_refl _, rfl, heap_alloc_new w _⟩, rfl, (Below.refl _ w).alloc (Nat.le_refl _) _⟩
  · go_enter Tryf.func10, Tryf.ntmps10
    go_wp2
    refine bodyPost_ret (v := .tuple #[.pointer (some ⟨w.heap.size, 0, none⟩), .pointer none]) (by simp [results, Tryf.results10, go_sem]) rfl ?_
    exact ⟨_, _, rfl, ⟨w.heap.size, Nat.le_refl _, rfl, heap_alloc_new w _⟩, rfl, (Below.refl _ w).alloc (Nat.le_refl _) _⟩
  · go_enter Tryf.func10, Tryf.ntmps10
    go_wp2
    refine bodyPost_ret (v := .tuple #[.pointer (some ⟨w.heap.size, 0, none⟩), .pointer (some ⟨w.heap.size + 1, 0, none⟩)]) (by simp [results, Tryf.results10, go_sem]) rfl ?_
    exact ⟨_, _, rfl, ⟨w.heap.size, Nat.le_refl _, rfl, (Below.heap_alloc (w.alloc (.cells #[.string cx] 9 (0, 0))) _ _ (by simp)).trans (heap_alloc_new w _)⟩, ⟨w.heap.size + 1, by omega, rfl, by have h := heap_alloc_new (w.alloc (.cells #[.string cx] 9 (0, 0))) (.cells #[.string cx] 9 (0, 0)); rwa [show (w.alloc (.cells #[.string cx] 9 (0, 0))).heap.size = w.heap.size + 1 by simp] at h⟩, ((Below.refl _ w).alloc (Nat.le_refl _) _).alloc (by simp) _⟩
  · go_enter Tryf.func10, Tryf.ntmps10
    go_wp2
    refine bodyPost_ret (v := .tuple #[.pointer (some ⟨w.heap.size, 0, none⟩), .pointer (some ⟨w.heap.size, 0, none⟩)]) (by simp [results, Tryf.results10, go_sem]) rfl ?_
    exact ⟨_, _, rfl, ⟨w.heap.size, Nat.le_refl _, rfl, heap_alloc_new w _⟩, ⟨w.heap.size, Nat.le_refl _, rfl, heap_alloc_new w _⟩, (Below.refl _ w).alloc (Nat.le_refl _) _⟩

/-- The sum that strBytes reaches. -/
def tot (zs : List ByteArray) : Nat → Nat
  | 0 => 0
  | q + 1 => tot zs q + (16 + (zs.getD q ByteArray.empty).size)
theorem tot_mono (zs : List ByteArray) : ∀ d q, tot zs q ≤ tot zs (q + d)
  | 0, _ => Nat.le_refl _
  | d + 1, q => by
    have := tot_mono zs d q
    show tot zs q ≤ tot zs (q + d) + _
    omega
def sumB (zs : List ByteArray) (n : Nat) : Nat := if tot zs n ≤ 1048576 then tot zs n else 1048577
theorem sumB_le (zs : List ByteArray) (n : Nat) : sumB zs n ≤ 1048577 := by unfold sumB; split <;> omega
set_option maxRecDepth 100000 in
theorem strSum (a : Option Addr) (n c : Nat) (zs : List ByteArray) (w : World) (hi : StrsAt w w.heap.size (.slice a n c) zs) (hl : zs.length = n) (hn : n ≤ 1048576) (hsz : ∀ i, i < n → (zs.getD i ByteArray.empty).size ≤ 1048576) :
    Calls Tryf.prog 43 #[.slice a n c] w fun e w' => e = .returned (.int .i64 (sumB zs n)) ∧ w' = w := by
  have HI := Lib.hid hi
  have HL := Lib.hid hl
  have HS := Lib.hid hsz
  clear hi hl hsz
  obtain ⟨T, hT⟩ : ∃ T, T = sumB zs n := ⟨_, rfl⟩
  rw [← hT]
  have HT := Lib.hid hT
  clear hT
  go_enter Tryf.func43, Tryf.ntmps43
  go_wp2
  go_loop [3, 4] (fun sm i => ∃ q S : Nat, q ≤ n ∧ i = .int .i64 q ∧ sm = .int .i64 S ∧ S ≤ 1048576 ∧ Hid (S = tot zs q)) (fun _ i => n - (intOf i).toNat)
  case atStart => exact ⟨0, 0, Nat.zero_le _, rfl, rfl, by omega, Lib.hid rfl⟩
  case round =>
    obtain ⟨q, S, hq, rfl, rfl, hS, HQ⟩ := hrel
    by_cases hlt : q < n
    · obtain ⟨b, off, rfl, hb, hcc⟩ := HI.out.cell (k := q) (by rw [HL.out]; exact hlt)
      have hc1 := hcc q (by rw [HL.out]; exact hlt)
      have hs1 := HS.out q hlt
      have HN : Hid (S + (16 + (zs.getD q ByteArray.empty).size) = tot zs (q + 1)) := Lib.hid (by rw [HQ.out]; rfl)
      generalize zs.getD q ByteArray.empty = t at hc1 hs1 HN
      clear hcc
      by_cases hS2 : 1048576 < S + (16 + t.size)
      · obtain rfl : T = 1048577 := by
          rw [HT.out, sumB, if_neg]
          have h1 := HN.out
          have h2 := tot_mono zs (n - (q + 1)) (q + 1)
          rw [show q + 1 + (n - (q + 1)) = n by omega] at h2
          omega
        go_wp2
        go_ret
        exact ⟨rfl, rfl⟩
      go_wp2
      go_round
      case rel => exact ⟨q + 1, S + (16 + t.size), by omega, by go_num, by go_num, by omega, HN⟩
      case measure => simp [intOf]; omega
    · obtain rfl : q = n := by omega
      obtain rfl : T = S := by
        have h1 := HQ.out
        rw [HT.out, sumB, if_pos (by omega), h1]
      go_wp2
      go_ret
      exact ⟨rfl, rfl⟩

theorem cse_one (vb : Nat) : ∀ u ∈ ([.iface 57 (.pointer (some ⟨vb, 0, none⟩)), .slice none 0 0] : List Value), u.oneCell' = true := by simp [Value.oneCell']
set_option maxRecDepth 100000 in
/-- One variable more at the array's end. -/
theorem appendVar (b : Nat) (C : Array Value) (vb : Nat) (v : Value) (B n : Nat) (xs : List Value) (w : World) (hb : w.heap[b]? = some (.cells C 47 (0, 0))) (h0 : C[0]? = some v)
    (hown : w.ownsRow B 56 2 v n xs) (hB : B ≤ w.heap.size) (hn : n ≤ 1048576) :
    Calls Tryf.prog 44 #[.pointer (some ⟨b, 0, none⟩), .pointer (some ⟨vb, 0, none⟩)] w fun e w' => e = .returned (.tuple #[]) ∧ ∃ g cap, w'.heap[b]? = some (.cells (C.setIfInBounds 0 (.slice (some ⟨g, 0, none⟩) (n + 1) cap)) 47 (0, 0)) ∧ w'.ownsRow B 56 2 (.slice (some ⟨g, 0, none⟩) (n + 1) cap) (n + 1) (xs ++ [.iface 57 (.pointer (some ⟨vb, 0, none⟩)), .slice none 0 0]) ∧ Kept (fun i => i = b ∨ v.ownBlock = some i) w w' := by
  obtain ⟨i0, hi, hz0, hz1, hz2⟩ := info_parts infoCse
  have hne : v.ownBlock ≠ some b := fun e => by
    obtain ⟨cc, fz, hc⟩ := Lib.ownsRow_kind hown b e
    rw [hb] at hc
    cases hc
  have hlt : b < w.heap.size := (Array.getElem?_eq_some_iff.1 hb).1
  have HB := Lib.hid hb
  have HO := Lib.hid hown
  have H0 := Lib.hid h0
  have c0 : w.cell? ⟨b, 0, none⟩ = some v := (cell_of_row w b 0 _ _ _ hb).trans h0
  clear hb hown h0
  go_enter Tryf.func44, Tryf.ntmps44
  go_wp2_with (at_builtin; refine wpList_append_lies _ rfl _ _ 34 rfl B 56 i0 _ 2 40 Tryf.underlying34 hi hz0 hz1 hz2 rfl (by omega) v n xs rfl (HO.out.alloc _) ⟨w.heap.size, 0, none⟩ 1 1 [.iface 57 (.pointer (some ⟨vb, 0, none⟩)), .slice none 0 0] rfl rfl (World.news_of_block (cs := #[.iface 57 (.pointer (some ⟨vb, 0, none⟩)), .slice none 0 0]) (t := 56) (fr := (0, 0)) (heap_alloc_new w _)) (cse_one vb) Nat.zero_lt_one (by unfold maxLen; omega) (by omega) (by simp; omega) (w.heap.size + 1) (by simp) ?_; intro g cap w3 hown3 hgrow hat hltg; have HH3 := Lib.hid ((hgrow.block b (by simp; omega) (Ne.symm hne)).trans ((Below.heap_alloc w _ b hlt).trans HB.out)); have c53 : w3.cell? ⟨b, 0, none⟩ = some v := (cell_of_row w3 b 0 _ _ _ HH3.out).trans H0.out; have z53 : w3.frozen? ⟨b, 0, none⟩ = false := frozen_of HH3.out 0)
  go_end0
  refine ⟨rfl, g, cap, ?_, ?_, ?_⟩
  · exact (Lib.heap_setCell_same HH3.out _).trans (by simp)
  · refine ownsRow_same hown3 fun g' hg' => ?_
    obtain rfl : g = g' := by simpa [Value.ownBlock] using hg'
    refine Below.heap_setCell w3 _ _ g (fun e => ?_)
    obtain ⟨cc, fz, hc⟩ := Lib.ownsRow_kind hown3 g rfl
    have e : g = b := e
    rw [e, HH3.out] at hc
    cases hc
  · have k1 : Kept (fun i => i = b ∨ v.ownBlock = some i) w (w.alloc (.cells #[.iface 57 (.pointer (some ⟨vb, 0, none⟩)), .slice none 0 0] 56 (0, 0))) := Kept.ofBelow ((Below.refl _ _).alloc (Nat.le_refl _) _)
    have k2 : Kept (fun i => i = b ∨ v.ownBlock = some i) (w.alloc (.cells #[.iface 57 (.pointer (some ⟨vb, 0, none⟩)), .slice none 0 0] 56 (0, 0))) w3 := Kept.ofGrown hgrow (fun i _ e => .inr e)
    have k3 : Kept (fun i => i = b ∨ v.ownBlock = some i) w3 (w3.setCell ⟨b, 0, none⟩ (.slice (some ⟨g, 0, none⟩) (n + 1) cap)) := (Kept.setCell w3 ⟨b, 0, none⟩ _).mono (fun i _ e => .inl e)
    exact (k1.trans k2).trans k3

end Arr
end Go.Proofs.YtegabjiaekfmbaaFmt
