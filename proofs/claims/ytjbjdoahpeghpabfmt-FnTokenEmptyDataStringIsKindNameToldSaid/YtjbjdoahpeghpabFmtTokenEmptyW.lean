/-
  The walk of FnTokenEmptyDataStringIsKindName.
-/
import Derived.Test.YtjbjdoahpeghpabFmtKindWalks
import Derived.Test.YtjbjdoahpeghpabFmtTab
namespace Go.Proofs.YtjbjdoahpeghpabFmt.fnTokenEmptyDataStringIsKindName
open Go Go.ChangeShapes Go.WideShapes Go.RowKit

theorem gTab : Tryf.prog.globalNamed "github.com/google/go-jsonnet/internal/parser.tokenKindStrings" = some 1 := by kernel_rfl
theorem tTab : (Tryf.prog.globals[1]?).map (·.type) = some 59 := by kernel_rfl
theorem cells9 : Tryf.prog.cellsOf 9 = 1 := by kernel_rfl

theorem of_laid {W : World} (h : laidMetH Tryf.prog Rows.fnTokenEmptyDataStringIsKindNameRow.laid W) :
    ∃ b off cap, W.cell? ⟨1, 0, none⟩ = some (.slice (some ⟨b, off, none⟩) 37 cap) ∧ 37 ≤ cap ∧ ∀ i, i < 37 → W.cell? ⟨b, off + i, none⟩ = some (.string (kindStr i)) := by
  rw [MakeChecks.laidMetH_plain _ _ _ (by kernel_rfl)] at h
  exact Tab.cells_of_laid (l := kindTab) gTab tTab Tryf.underlying59 Tryf.underlying9 cells9 (by decide) h

theorem bytes_ok (k : Int) (s t : ByteArray) (w : World) (h : s.size + t.size ≤ 1048576) :
    Calls Tryf.prog 5 #[.int .i64 k, .string s, .string t] w fun e w' => e = .returned (.bool true) ∧ w = w' := by
  go_enter Tryf.func5, Tryf.ntmps5
  go_wp2
  go_ret
  exact ⟨rfl, rfl⟩
theorem bytes_no (k : Int) (s t : ByteArray) (w : World) (hs : s.size ≤ maxLen) (ht : t.size ≤ maxLen) (h : 1048576 < s.size + t.size) :
    Calls Tryf.prog 5 #[.int .i64 k, .string s, .string t] w fun e w' => e = .returned (.bool false) ∧ w = w' := by
  unfold maxLen at hs ht
  go_enter Tryf.func5, Tryf.ntmps5
  go_wp2
  all_goals go_ret
  all_goals exact ⟨rfl, rfl⟩

theorem tokString (n : Nat) (hn : n < 37) (b off cap : Nat) (hcap : 37 ≤ cap) (a : Nat) (w : World) (hg : w.cell? ⟨1, 0, none⟩ = some (.slice (some ⟨b, off, none⟩) 37 cap))
    (hc : w.cell? ⟨b, off + n, none⟩ = some (.string (kindStr n))) (h1 : w.cell? ⟨a, 1, none⟩ = some (.string ⟨#[]⟩)) (h5 : w.cell? ⟨a, 10, none⟩ = some (.int .i64 n)) :
    Calls Tryf.prog 15 #[.pointer (some ⟨a, 0, none⟩)] w fun e w' => e = .returned (.string (kindStr n)) ∧ w = w' := by
  have HC := Lib.hid hc
  clear hc
  go_enter Tryf.func15, Tryf.ntmps15
  go_wp2_with (go_at_call 19; refine (tkString n hn b off cap hcap _ hg HC.out).mono ?_; rintro e w' ⟨rfl, rfl⟩)
  go_ret
  exact ⟨rfl, rfl⟩
theorem zzTokString (n : Nat) (hn : n < 37) (b off cap : Nat) (hcap : 37 ≤ cap) (a : Nat) (w : World) (hg : w.cell? ⟨1, 0, none⟩ = some (.slice (some ⟨b, off, none⟩) 37 cap))
    (hc : w.cell? ⟨b, off + n, none⟩ = some (.string (kindStr n))) (h1 : w.cell? ⟨a, 1, none⟩ = some (.string ⟨#[]⟩)) (h5 : w.cell? ⟨a, 10, none⟩ = some (.int .i64 n)) :
    Calls Tryf.prog 7 #[.pointer (some ⟨a, 0, none⟩)] w fun e w' => e = .returned (.string (kindStr n)) ∧ w = w' := by
  have HC := Lib.hid hc
  clear hc
  go_enter Tryf.func7, Tryf.ntmps7
  go_wp2_with (go_at_call 15; refine (tokString n hn b off cap hcap a _ hg HC.out h1 h5).mono ?_; rintro e w' ⟨rfl, rfl⟩)
  go_ret
  exact ⟨rfl, rfl⟩
theorem newTok (k : Int) (s t : ByteArray) (w : World) :
    Calls Tryf.prog 6 #[.int .i64 k, .string ⟨#[]⟩, .string s, .string t] w fun e w' => e = .returned (.pointer (some ⟨w.heap.size, 0, none⟩)) ∧ Below w.heap.size w w' ∧ w'.cell? ⟨w.heap.size, 1, none⟩ = some (.string ⟨#[]⟩) ∧ w'.cell? ⟨w.heap.size, 10, none⟩ = some (.int .i64 k) := by
  go_enter Tryf.func6, Tryf.ntmps6
  go_wp2
  go_ret
  exact ⟨rfl, (Below.refl _ _).alloc (Nat.le_refl _) _, by go_simp, by go_simp⟩

theorem walk (k : Int) (s t : ByteArray) (w : World) (_ : (Lit.int .i64 k).wf = true) (hs : s.size ≤ maxLen) (ht : t.size ≤ maxLen) (hL : laidMetH Tryf.prog Rows.fnTokenEmptyDataStringIsKindNameRow.laid w) :
    Calls Tryf.prog 3 #[.int .i64 k, .string s, .string t] w fun e w' => e = .returned (.bool true) ∧ Below w.heap.size w w' := by
  obtain ⟨b, off, cap, hg, hcap, hc⟩ := of_laid hL
  clear hL
  by_cases hz : 1048576 < s.size + t.size
  · clear hg hc
    go_enter Tryf.func3, Tryf.ntmps3
    go_wp2_with (go_at_call 5; refine (bytes_no k s t _ hs ht hz).mono ?_; rintro e w' ⟨rfl, rfl⟩)
    go_ret
    exact ⟨rfl, Below.refl _ _⟩
  have hz' : s.size + t.size ≤ 1048576 := by omega
  have hsum : decide ((1048576 : Int) < (s.size : Int) + t.size) = false := decide_eq_false (by omega)
  clear hz hs ht
  by_cases h0 : k < 0
  · clear hg hc
    go_enter Tryf.func3, Tryf.ntmps3
    go_wp2_with (go_at_call 5; refine (bytes_ok k s t _ hz').mono ?_; rintro e w' ⟨rfl, rfl⟩)
    go_ret
    exact ⟨rfl, Below.refl _ _⟩
  by_cases h1 : 36 < k
  · clear hg hc
    have h0' : decide (k < 0) = false := decide_eq_false (by omega)
    go_enter Tryf.func3, Tryf.ntmps3
    go_wp2_with (go_at_call 5; refine (bytes_ok k s t _ hz').mono ?_; rintro e w' ⟨rfl, rfl⟩)
    go_ret
    exact ⟨rfl, Below.refl _ _⟩
  obtain ⟨n, rfl⟩ := Int.eq_ofNat_of_zero_le (show 0 ≤ k by omega)
  have hn : n < 37 := by omega
  have hcn := hc n hn
  have HG := Lib.hid hg
  have H := Lib.hid hcn
  have hb : b < w.heap.size := by
    rcases Nat.lt_or_ge b w.heap.size with h | h
    · exact h
    · simp [World.cell?, Array.getElem?_eq_none h] at hcn
  have hgl : 1 < w.heap.size := by
    rcases Nat.lt_or_ge 1 w.heap.size with h | h
    · exact h
    · simp [World.cell?, Array.getElem?_eq_none h] at hg
  clear hc hg hcn
  have h0' : decide ((n : Int) < 0) = false := decide_eq_false (by omega)
  have h1' : decide ((36 : Int) < n) = false := decide_eq_false (by omega)
  go_enter Tryf.func3, Tryf.ntmps3
  go_wp2_with fail
  refine (bytes_ok n s t _ hz').mono ?_
  rintro e w' ⟨rfl, rfl⟩
  go_wp2_with fail
  refine (newTok n s t _).mono ?_
  rintro e w' ⟨rfl, hbel, c1, c10⟩
  have hg' : w'.cell? ⟨1, 0, none⟩ = some (.slice (some ⟨b, off, none⟩) 37 cap) := (hbel.cell (p := ⟨1, 0, none⟩) hgl).trans HG.out
  have hc' : w'.cell? ⟨b, off + n, none⟩ = some (.string (kindStr n)) := (hbel.cell (p := ⟨b, off + n, none⟩) hb).trans H.out
  have HG' := Lib.hid hg'
  have HC' := Lib.hid hc'
  have C1 := Lib.hid c1
  have C10 := Lib.hid c10
  clear hg' hc' c1 c10
  go_wp2_with fail
  refine (zzTokString n hn b off cap hcap w.heap.size _ HG'.out HC'.out C1.out C10.out).mono ?_
  rintro e w'' ⟨rfl, rfl⟩
  go_wp2_with fail
  refine (kindName n hn _).mono ?_
  rintro e w'' ⟨rfl, rfl⟩
  go_wp2
  go_ret
  exact ⟨by simp, hbel⟩

end Go.Proofs.YtjbjdoahpeghpabFmt.fnTokenEmptyDataStringIsKindName
