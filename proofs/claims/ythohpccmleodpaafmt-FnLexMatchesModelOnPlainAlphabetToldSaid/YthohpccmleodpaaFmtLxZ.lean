/-
  n008_32: ZZLex: Lex, then the kinds and the texts of its tokens.
-/
import Derived.Test.YthohpccmleodpaaFmtLxL
import Derived.Test.YthohpccmleodpaaFmtLxV
namespace Go.Proofs.YthohpccmleodpaaFmt
open Go Go.RowKit Go.Shelf Go.Extern.Stop Go.Stop
namespace Lx
attribute [local go_sem ↓] Go.wp_at_zero Go.wp_at_succ

def ZPost (s : ByteArray) (w : World) (e : Ending) (w' : World) : Prop :=
  ((∃ (ts : List Tok) (gk gd : Nat), e = .returned (.tuple #[.slice (some ⟨gk, 0, none⟩) (ts.length + 1) (ts.length + 1), .slice (some ⟨gd, 0, none⟩) (ts.length + 1) (ts.length + 1), .bool true]) ∧ Res s 0 (some ts) ∧ ts.length ≤ s.size ∧ ZCells w' gk gd (ts ++ [((36 : Int), (⟨#[]⟩ : ByteArray))]) ∧ gk < w'.heap.size ∧ gd < w'.heap.size) ∨
    (e = .returned (.tuple #[.slice none 0 0, .slice none 0 0, .bool false]) ∧ Res s 0 none)) ∧ Below w.heap.size w w'

set_option maxHeartbeats 12800000 in
set_option maxRecDepth 100000 in
theorem zzLex (F : Interp) (d im s : ByteArray) (w : World) (hP : Plain s) (hs : s.size ≤ 999999) (hF : F.answers w.tape) (hT : Lib.Utf8Tabs 0 1 w) :
    Calls Tryf.prog 6 #[.string d, .string im, .string s] w (ZPost s w) := by
  obtain ⟨i0, hi0, hz0, hz1, hz2⟩ := info_parts infoIntR
  obtain ⟨j0, hj0, hy0, hy1, hy2⟩ := info_parts infoStrR
  have HL := Lib.hid (lex F d im s w hP (by omega) hF hT)
  clear hP hF hT
  go_enter Tryf.func6, Tryf.ntmps6
  go_wp2_with fail
  refine HL.out.mono ?_
  rintro e w1 ⟨(⟨ts, g, cap, ys, rfl, hres, ho, htl, hlen⟩ | ⟨v, rfl, hres⟩), hb⟩
  · have HRES := Lib.hid hres
    have HO := Lib.hid ho
    have HTL := Lib.hid htl
    have HB := Lib.hid hb
    have hg := tok_lt ho
    have hsz := hb.size
    obtain ⟨n, hn⟩ : ∃ n, n = ts.length + 1 := ⟨_, rfl⟩
    rw [← hn] at HO ⊢
    have HN := Lib.hid hn
    have hnb : n ≤ 1000000 := by omega
    have hlenS : ts.length ≤ s.size := hlen
    clear hres ho htl hb HL hn hlen
    go_wp2_with (refine wpList_make_full _ rfl _ _ 24 rfl w1.heap.size 3 i0 (.int .i64 0) 1 Tryf.underlying24 hi0 hz0 hz1 .i64 .i64 _ _ n rfl rfl rfl rfl (by rw [hz2]; omega) (by unfold maxLen; omega) (Nat.le_refl _) ?_)
    intro w2 hown2 hg2
    have hb2 : Below w1.heap.size w1 w2 := (Below.refl _ _).grown hg2 (Nat.le_refl _) (by simp)
    have hr2 : Row w2 w1.heap.size 3 n (fun _ => .int .i64 0) := rowMade (z := .int .i64 0) rfl (by simpa [Value.cells] using hown2)
    have hl2 := hr2.lt
    have HB2 := Lib.hid hb2
    have HR2 := Lib.hid hr2
    have hs2 := hb2.size
    clear hown2 hg2 hb2 hr2
    go_wp2_with (refine wpList_make_full _ rfl _ _ 25 rfl w2.heap.size 9 j0 (.string ⟨#[]⟩) 1 Tryf.underlying25 hj0 hy0 hy1 .i64 .i64 _ _ n rfl rfl rfl rfl (by rw [hy2]; omega) (by unfold maxLen; omega) (Nat.le_refl _) ?_)
    intro w3 hown3 hg3
    have hb3 : Below w2.heap.size w2 w3 := (Below.refl _ _).grown hg3 (Nat.le_refl _) (by simp)
    have hr3 : Row w3 w2.heap.size 9 n (fun _ => .string ⟨#[]⟩) := rowMade (z := .string ⟨#[]⟩) rfl (by simpa [Value.cells] using hown3)
    have hl3 := hr3.lt
    have hs3 := hb3.size
    have HS0 : Hid (ZSt w3 w3 w1.heap.size w2.heap.size n 0 (ts ++ [((36 : Int), (⟨#[]⟩ : ByteArray))])) := Lib.hid ⟨(HR2.out.keep (hb3.block _ hl2)).congr fun j _ => by rw [if_neg (Nat.not_lt_zero j)], hr3.congr fun j _ => by rw [if_neg (Nat.not_lt_zero j)], Kept.refl _ _⟩
    have HB3 : Hid (Below w1.heap.size w1 w3) := Lib.hid (HB2.out.trans (hb3.mono hs2))
    have n1 : g ≠ w1.heap.size := by omega
    have n2 : g ≠ w2.heap.size := by omega
    have n3 : w1.heap.size ≠ w2.heap.size := by omega
    clear hown3 hg3 hb3 hr3 HB2 HR2
    go_wp2
    go_loopw [31] (fun i wr => ∃ q : Nat, q ≤ n ∧ i = .int .i64 q ∧ Hid (ZSt w3 wr w1.heap.size w2.heap.size n q (ts ++ [((36 : Int), (⟨#[]⟩ : ByteArray))]))) (fun i _ => n - (intOf i).toNat)
    case atStart => exact ⟨0, Nat.zero_le _, rfl, HS0⟩
    case round =>
      clear HS0
      obtain ⟨q, hq, rfl, HS⟩ := hrel
      obtain ⟨Z, rfl⟩ : ∃ Z, Z = wr := ⟨_, rfl⟩
      by_cases hlt : q < n
      · have i1 : (q : Int) < (n : Int) := by omega
        have hT : q < (ts ++ [((36 : Int), (⟨#[]⟩ : ByteArray))]).length := by
          have := HN.out
          simp
          omega
        obtain ⟨c1, c2⟩ := tok_cells HO.out HTL.out hT
        have hkg : Z.heap[g]? = w1.heap[g]? := (HS.out.kept.block g (by omega) (fun e => by rcases e with e | e <;> omega)).trans (HB3.out.block g hg)
        have x1 : Z.cell? ⟨g, q * 11 + 10, none⟩ = _ := (World.cell?_of_block hkg).trans c1
        have x2 : Z.cell? ⟨g, q * 11 + 1, none⟩ = _ := (World.cell?_of_block hkg).trans c2
        obtain ⟨y1, y2⟩ := HS.out.kin.cell hlt
        obtain ⟨y3, y4⟩ := HS.out.dat.cell hlt
        rw [if_neg (Nat.lt_irrefl q)] at y1 y3
        have HST := Lib.hid (HS.out.step n3)
        clear c1 c2 hkg hT
        generalize kdAt (ts ++ [((36 : Int), (⟨#[]⟩ : ByteArray))]) q = kq at x1 HST
        generalize dtAt (ts ++ [((36 : Int), (⟨#[]⟩ : ByteArray))]) q = dq at x2 HST
        go_wp2
        go_roundw
        case rel => exact ⟨q + 1, by omega, by go_num, HST⟩
        case measure => simp [intOf]; omega
      · obtain rfl : q = n := by omega
        have HZ := Lib.hid (HS.out.done (by have := HN.out; simp; omega))
        have hb9 : Below w.heap.size w Z := HB.out.trans ((HB3.out.trans (HS.out.kept.below (B := w1.heap.size) (fun k e => by rcases e with e | e <;> omega) (by omega))).mono hsz)
        have hk9 := HS.out.kin.lt
        have hd9 := HS.out.dat.lt
        have HF := Lib.hid (show _ ∧ _ ∧ _ from ⟨hb9, hk9, hd9⟩)
        clear hb9 hk9 hd9
        have i1 : ¬ (q : Int) < (q : Int) := by omega
        go_wp2
        go_ret3
        have hn := HN.out
        subst hn
        exact ⟨.inl ⟨ts, _, _, rfl, HRES.out, hlenS, HZ.out, HF.out.2.1, HF.out.2.2⟩, HF.out.1⟩
  · have HRES := Lib.hid hres
    have HB := Lib.hid hb
    clear hres hb HL
    go_wp2
    go_ret3
    exact ⟨.inr ⟨rfl, HRES.out⟩, HB.out⟩

end Lx
end Go.Proofs.YthohpccmleodpaaFmt
