/-
  tokenStringToAst, by the token's kind.
-/
import Derived.Test.YtgdlfcgboghadaaFmtEsA
import Derived.Deep.RegionHeld3
namespace Go.Proofs.YtgdlfcgboghadaaFmt
open Go Go.RowKit Go.Shelf Go.Extern.Stop Go.Stop

/-- A token's block: no fodder, no place. -/
def TokC (V : World) (g : Nat) (k : Int) (d bi bt : ByteArray) : Prop := (V.cell? ⟨g, 0, none⟩ = some (.slice none 0 0) ∧ V.cell? ⟨g, 1, none⟩ = some (.string d) ∧ V.cell? ⟨g, 2, none⟩ = some (.string bi) ∧ V.cell? ⟨g, 3, none⟩ = some (.string bt) ∧ V.cell? ⟨g, 4, none⟩ = some (.pointer none) ∧ V.cell? ⟨g, 5, none⟩ = some (.string ⟨#[]⟩) ∧ V.cell? ⟨g, 6, none⟩ = some (.int .i64 0) ∧ V.cell? ⟨g, 7, none⟩ = some (.int .i64 0) ∧ V.cell? ⟨g, 8, none⟩ = some (.int .i64 0) ∧ V.cell? ⟨g, 9, none⟩ = some (.int .i64 0)) ∧ V.cell? ⟨g, 10, none⟩ = some (.int .i64 k)
theorem tokS {w : World} {g : Nat} {k : Int} {d bi bt : ByteArray} (h : TokC w g k d bi bt) (hg : g < w.heap.size) : ∀ V, Below w.heap.size w V → V.cell? ⟨g, 0, none⟩ = some (.slice none 0 0) ∧ V.cell? ⟨g, 1, none⟩ = some (.string d) ∧ V.cell? ⟨g, 2, none⟩ = some (.string bi) ∧ V.cell? ⟨g, 3, none⟩ = some (.string bt) ∧ V.cell? ⟨g, 4, none⟩ = some (.pointer none) ∧ V.cell? ⟨g, 5, none⟩ = some (.string ⟨#[]⟩) ∧ V.cell? ⟨g, 6, none⟩ = some (.int .i64 0) ∧ V.cell? ⟨g, 7, none⟩ = some (.int .i64 0) ∧ V.cell? ⟨g, 8, none⟩ = some (.int .i64 0) ∧ V.cell? ⟨g, 9, none⟩ = some (.int .i64 0) := fun V hV => by
  obtain ⟨⟨h0, h1, h2, h3, h4, h5, h6, h7, h8, h9⟩, _⟩ := h
  exact ⟨(hV.cell (p := ⟨g, 0, none⟩) hg).trans h0, (hV.cell (p := ⟨g, 1, none⟩) hg).trans h1, (hV.cell (p := ⟨g, 2, none⟩) hg).trans h2, (hV.cell (p := ⟨g, 3, none⟩) hg).trans h3, (hV.cell (p := ⟨g, 4, none⟩) hg).trans h4, (hV.cell (p := ⟨g, 5, none⟩) hg).trans h5, (hV.cell (p := ⟨g, 6, none⟩) hg).trans h6, (hV.cell (p := ⟨g, 7, none⟩) hg).trans h7, (hV.cell (p := ⟨g, 8, none⟩) hg).trans h8, (hV.cell (p := ⟨g, 9, none⟩) hg).trans h9⟩
def NodeC (V : World) (n : Nat) (d bi bt : ByteArray) (kd : Int) : Prop := V.cell? ⟨n, 0, none⟩ = some (.string d) ∧ V.cell? ⟨n, 1, none⟩ = some (.string bi) ∧ V.cell? ⟨n, 2, none⟩ = some (.string bt) ∧ V.cell? ⟨n, 12, none⟩ = some (.int .i64 kd)
theorem nodeC {V : World} {n : Nat} {d bi bt : ByteArray} {kd : Int} {f3 f4 f5 f6 f7 f8 f9 f10 f11 : Value} (h : V.heap[n]? = some (.cells #[.string d, .string bi, .string bt, f3, f4, f5, f6, f7, f8, f9, f10, f11, .int .i64 kd] 60 (0, 0))) : NodeC V n d bi bt kd :=
  ⟨(cell_of_row _ _ 0 _ _ _ h).trans rfl, (cell_of_row _ _ 1 _ _ _ h).trans rfl, (cell_of_row _ _ 2 _ _ _ h).trans rfl, (cell_of_row _ _ 12 _ _ _ h).trans rfl⟩
theorem locC {V : World} {n : Nat} {d bi bt f3 f4 f5 f12 : Value} (h : V.heap[n]? = some (.cells #[d, bi, bt, f3, f4, f5, .pointer none, .string ⟨#[]⟩, .int .i64 0, .int .i64 0, .int .i64 0, .int .i64 0, f12] 60 (0, 0))) :
    V.cell? ⟨n, 6, none⟩ = some (.pointer none) ∧ V.cell? ⟨n, 6 + 1, none⟩ = some (.string ⟨#[]⟩) ∧ V.cell? ⟨n, 6 + 2, none⟩ = some (.int .i64 0) ∧ V.cell? ⟨n, 6 + 3, none⟩ = some (.int .i64 0) ∧ V.cell? ⟨n, 6 + 4, none⟩ = some (.int .i64 0) ∧ V.cell? ⟨n, 6 + 5, none⟩ = some (.int .i64 0) :=
  ⟨(cell_of_row _ _ 6 _ _ _ h).trans rfl, (cell_of_row _ _ 7 _ _ _ h).trans rfl, (cell_of_row _ _ 8 _ _ _ h).trans rfl, (cell_of_row _ _ 9 _ _ _ h).trans rfl, (cell_of_row _ _ 10 _ _ _ h).trans rfl, (cell_of_row _ _ 11 _ _ _ h).trans rfl⟩
theorem unescOk (F : Interp) (s : ByteArray) (lb lo : Nat) (ev : Value) (w : World) (hF : F.answers w.tape) (hs : s.size ≤ 4000000) (hlb : lb < w.heap.size)
    (hl : w.cell? ⟨lb, lo, none⟩ = some (.pointer none) ∧ w.cell? ⟨lb, lo + 1, none⟩ = some (.string ⟨#[]⟩) ∧ w.cell? ⟨lb, lo + 2, none⟩ = some (.int .i64 0) ∧ w.cell? ⟨lb, lo + 3, none⟩ = some (.int .i64 0) ∧ w.cell? ⟨lb, lo + 4, none⟩ = some (.int .i64 0) ∧ w.cell? ⟨lb, lo + 5, none⟩ = some (.int .i64 0))
    (hE : w.cell? ⟨5, 0, none⟩ = some ev) (hT : Lib.Utf8Tabs 3 4 w) (hok : okAt s 0 = true) :
    Calls Tryf.prog 26 #[.pointer (some ⟨lb, lo, none⟩), .string s] w fun e w' => (∃ t, e = .returned (.tuple #[.string t, .nilIface])) ∧ Below w.heap.size w w' :=
  (unescape F s lb lo ev w hF hs hlb hl hE hT).mono fun e w' h => by
    rcases h with ⟨⟨_, h⟩ | ⟨h1, _⟩, hb⟩
    · exact ⟨h, hb⟩
    · rw [hok] at h1
      cases h1
theorem unescBad (F : Interp) (s : ByteArray) (lb lo : Nat) (ev : Value) (w : World) (hF : F.answers w.tape) (hs : s.size ≤ 4000000) (hlb : lb < w.heap.size)
    (hl : w.cell? ⟨lb, lo, none⟩ = some (.pointer none) ∧ w.cell? ⟨lb, lo + 1, none⟩ = some (.string ⟨#[]⟩) ∧ w.cell? ⟨lb, lo + 2, none⟩ = some (.int .i64 0) ∧ w.cell? ⟨lb, lo + 3, none⟩ = some (.int .i64 0) ∧ w.cell? ⟨lb, lo + 4, none⟩ = some (.int .i64 0) ∧ w.cell? ⟨lb, lo + 5, none⟩ = some (.int .i64 0))
    (hE : w.cell? ⟨5, 0, none⟩ = some ev) (hT : Lib.Utf8Tabs 3 4 w) (hok : okAt s 0 = false) :
    Calls Tryf.prog 26 #[.pointer (some ⟨lb, lo, none⟩), .string s] w fun e w' => (∃ t, e = .returned (.tuple #[.string ⟨#[]⟩, .iface 112 (StatV t)])) ∧ Below w.heap.size w w' :=
  (unescape F s lb lo ev w hF hs hlb hl hE hT).mono fun e w' h => by
    rcases h with ⟨⟨h1, _⟩ | ⟨_, h⟩, hb⟩
    · rw [hok] at h1
      cases h1
    · exact ⟨h, hb⟩
def AstPost (d bi bt : ByteArray) (kd : Int) (ok : Bool) (w : World) (e : Ending) (w' : World) : Prop :=
  (∃ n er, e = .returned (.tuple #[.pointer (some ⟨n, 0, none⟩), er]) ∧ NodeC w' n d bi bt kd ∧ ((ok = true ∧ er = .nilIface) ∨ (ok = false ∧ ∃ v, er = .iface 112 v))) ∧ Below w.heap.size w w'

set_option maxHeartbeats 3200000 in
set_option maxRecDepth 100000 in
theorem astBlock (F : Interp) (g : Nat) (d bi bt : ByteArray) (ev : Value) (w : World) (hF : F.answers w.tape) (hg : g < w.heap.size) (hc : TokC w g 13 d bi bt) (hE : w.cell? ⟨5, 0, none⟩ = some ev) (hT : Lib.Utf8Tabs 3 4 w) (hd : d.size ≤ 4000000) :
    Calls Tryf.prog 20 #[.pointer (some ⟨g, 0, none⟩)] w (AstPost d bi bt 2 true w) := by
  have HS := Lib.hid (tokS hc hg)
  have k10 : w.cell? ⟨g, 10, none⟩ = some (.int .i64 13) := hc.2
  have ge : 5 < w.heap.size := World.block_lt_of_cell? w ⟨5, 0, none⟩ hE
  obtain ⟨g0, g1⟩ := tabs_lt hT
  have HE := Lib.hid hE
  have HT := Lib.hid hT
  have HF := Lib.hid hF
  clear hF hc hE hT
  go_enter Tryf.func20, Tryf.ntmps20
  go_wp2_with fail
  go_region_held3 (fun V => V.cell? ⟨g, 0, none⟩ = some (.slice none 0 0) ∧ V.cell? ⟨g, 1, none⟩ = some (.string d) ∧ V.cell? ⟨g, 2, none⟩ = some (.string bi) ∧ V.cell? ⟨g, 3, none⟩ = some (.string bt) ∧ V.cell? ⟨g, 4, none⟩ = some (.pointer none) ∧ V.cell? ⟨g, 5, none⟩ = some (.string ⟨#[]⟩) ∧ V.cell? ⟨g, 6, none⟩ = some (.int .i64 0) ∧ V.cell? ⟨g, 7, none⟩ = some (.int .i64 0) ∧ V.cell? ⟨g, 8, none⟩ = some (.int .i64 0) ∧ V.cell? ⟨g, 9, none⟩ = some (.int .i64 0))
    (first | exact HS.out _ (by exact Below.refl _ _) | exact HS.out _ (by exact hb1) | exact HS.out _ (by exact belo0 (Below.refl _ _)) | exact HS.out _ (by exact (belo0 hb1)) | exact HS.out _ (by exact belo0 (Below.alloc hb1 hb1.size _)))
    (first | (go_at_call 24; refine (newLoc _).mono ?_; rintro e w1 ⟨⟨fb, rfl⟩, hb1⟩))
  obtain ⟨X, hX⟩ : ∃ X, X = w1.alloc (.cells #[.string d, .string bi, .string bt, .slice none 0 0, .pointer none, .slice (some ⟨fb, 0, none⟩) 0 0, .pointer none, .string ⟨#[]⟩, .int .i64 0, .int .i64 0, .int .i64 0, .int .i64 0, .int .i64 2] 60) := ⟨_, rfl⟩
  have hb2 : Below w.heap.size w w1 := belo0 hb1
  have HB : Hid (Below w.heap.size w X) := Lib.hid (by rw [hX]; exact Below.alloc hb2 hb2.size _)
  have hrow : X.heap[w1.heap.size]? = some (.cells #[.string d, .string bi, .string bt, .slice none 0 0, .pointer none, .slice (some ⟨fb, 0, none⟩) 0 0, .pointer none, .string ⟨#[]⟩, .int .i64 0, .int .i64 0, .int .i64 0, .int .i64 0, .int .i64 2] 60 (0, 0)) := by rw [hX]; exact heap_alloc_new w1 _
  rw [← hX]
  have HR := Lib.hid hrow
  have hnl : w1.heap.size < X.heap.size := (Array.getElem?_eq_some_iff.1 hrow).1
  clear hX hb1 hb2 hrow
  generalize w1.heap.size = n at HR hnl ⊢
  go_wp2
  go_ret2
  exact ⟨⟨_, _, rfl, nodeC HR.out, .inl ⟨rfl, rfl⟩⟩, HB.out⟩

set_option maxHeartbeats 3200000 in
set_option maxRecDepth 100000 in
theorem astVd (F : Interp) (g : Nat) (d bi bt : ByteArray) (ev : Value) (w : World) (hF : F.answers w.tape) (hg : g < w.heap.size) (hc : TokC w g 16 d bi bt) (hE : w.cell? ⟨5, 0, none⟩ = some ev) (hT : Lib.Utf8Tabs 3 4 w) (hd : d.size ≤ 4000000) :
    Calls Tryf.prog 20 #[.pointer (some ⟨g, 0, none⟩)] w (AstPost d ⟨#[]⟩ ⟨#[]⟩ 3 true w) := by
  have HS := Lib.hid (tokS hc hg)
  have k10 : w.cell? ⟨g, 10, none⟩ = some (.int .i64 16) := hc.2
  have ge : 5 < w.heap.size := World.block_lt_of_cell? w ⟨5, 0, none⟩ hE
  obtain ⟨g0, g1⟩ := tabs_lt hT
  have HE := Lib.hid hE
  have HT := Lib.hid hT
  have HF := Lib.hid hF
  clear hF hc hE hT
  go_enter Tryf.func20, Tryf.ntmps20
  go_wp2_with fail
  go_region_held3 (fun V => V.cell? ⟨g, 0, none⟩ = some (.slice none 0 0) ∧ V.cell? ⟨g, 1, none⟩ = some (.string d) ∧ V.cell? ⟨g, 2, none⟩ = some (.string bi) ∧ V.cell? ⟨g, 3, none⟩ = some (.string bt) ∧ V.cell? ⟨g, 4, none⟩ = some (.pointer none) ∧ V.cell? ⟨g, 5, none⟩ = some (.string ⟨#[]⟩) ∧ V.cell? ⟨g, 6, none⟩ = some (.int .i64 0) ∧ V.cell? ⟨g, 7, none⟩ = some (.int .i64 0) ∧ V.cell? ⟨g, 8, none⟩ = some (.int .i64 0) ∧ V.cell? ⟨g, 9, none⟩ = some (.int .i64 0))
    (first | exact HS.out _ (by exact Below.refl _ _) | exact HS.out _ (by exact hb1) | exact HS.out _ (by exact belo0 (Below.refl _ _)) | exact HS.out _ (by exact (belo0 hb1)) | exact HS.out _ (by exact belo0 (Below.alloc hb1 hb1.size _)))
    (first | (go_at_call 24; refine (newLoc _).mono ?_; rintro e w1 ⟨⟨fb, rfl⟩, hb1⟩))
  obtain ⟨X, hX⟩ : ∃ X, X = w1.alloc (.cells #[.string d, .string ⟨#[]⟩, .string ⟨#[]⟩, .slice none 0 0, .pointer none, .slice (some ⟨fb, 0, none⟩) 0 0, .pointer none, .string ⟨#[]⟩, .int .i64 0, .int .i64 0, .int .i64 0, .int .i64 0, .int .i64 3] 60) := ⟨_, rfl⟩
  have hb2 : Below w.heap.size w w1 := belo0 hb1
  have HB : Hid (Below w.heap.size w X) := Lib.hid (by rw [hX]; exact Below.alloc hb2 hb2.size _)
  have hrow : X.heap[w1.heap.size]? = some (.cells #[.string d, .string ⟨#[]⟩, .string ⟨#[]⟩, .slice none 0 0, .pointer none, .slice (some ⟨fb, 0, none⟩) 0 0, .pointer none, .string ⟨#[]⟩, .int .i64 0, .int .i64 0, .int .i64 0, .int .i64 0, .int .i64 3] 60 (0, 0)) := by rw [hX]; exact heap_alloc_new w1 _
  rw [← hX]
  have HR := Lib.hid hrow
  have hnl : w1.heap.size < X.heap.size := (Array.getElem?_eq_some_iff.1 hrow).1
  clear hX hb1 hb2 hrow
  generalize w1.heap.size = n at HR hnl ⊢
  go_wp2
  go_ret2
  exact ⟨⟨_, _, rfl, nodeC HR.out, .inl ⟨rfl, rfl⟩⟩, HB.out⟩

set_option maxHeartbeats 3200000 in
set_option maxRecDepth 100000 in
theorem astVs (F : Interp) (g : Nat) (d bi bt : ByteArray) (ev : Value) (w : World) (hF : F.answers w.tape) (hg : g < w.heap.size) (hc : TokC w g 17 d bi bt) (hE : w.cell? ⟨5, 0, none⟩ = some ev) (hT : Lib.Utf8Tabs 3 4 w) (hd : d.size ≤ 4000000) :
    Calls Tryf.prog 20 #[.pointer (some ⟨g, 0, none⟩)] w (AstPost d ⟨#[]⟩ ⟨#[]⟩ 4 true w) := by
  have HS := Lib.hid (tokS hc hg)
  have k10 : w.cell? ⟨g, 10, none⟩ = some (.int .i64 17) := hc.2
  have ge : 5 < w.heap.size := World.block_lt_of_cell? w ⟨5, 0, none⟩ hE
  obtain ⟨g0, g1⟩ := tabs_lt hT
  have HE := Lib.hid hE
  have HT := Lib.hid hT
  have HF := Lib.hid hF
  clear hF hc hE hT
  go_enter Tryf.func20, Tryf.ntmps20
  go_wp2_with fail
  go_region_held3 (fun V => V.cell? ⟨g, 0, none⟩ = some (.slice none 0 0) ∧ V.cell? ⟨g, 1, none⟩ = some (.string d) ∧ V.cell? ⟨g, 2, none⟩ = some (.string bi) ∧ V.cell? ⟨g, 3, none⟩ = some (.string bt) ∧ V.cell? ⟨g, 4, none⟩ = some (.pointer none) ∧ V.cell? ⟨g, 5, none⟩ = some (.string ⟨#[]⟩) ∧ V.cell? ⟨g, 6, none⟩ = some (.int .i64 0) ∧ V.cell? ⟨g, 7, none⟩ = some (.int .i64 0) ∧ V.cell? ⟨g, 8, none⟩ = some (.int .i64 0) ∧ V.cell? ⟨g, 9, none⟩ = some (.int .i64 0))
    (first | exact HS.out _ (by exact Below.refl _ _) | exact HS.out _ (by exact hb1) | exact HS.out _ (by exact belo0 (Below.refl _ _)) | exact HS.out _ (by exact (belo0 hb1)) | exact HS.out _ (by exact belo0 (Below.alloc hb1 hb1.size _)))
    (first | (go_at_call 24; refine (newLoc _).mono ?_; rintro e w1 ⟨⟨fb, rfl⟩, hb1⟩))
  obtain ⟨X, hX⟩ : ∃ X, X = w1.alloc (.cells #[.string d, .string ⟨#[]⟩, .string ⟨#[]⟩, .slice none 0 0, .pointer none, .slice (some ⟨fb, 0, none⟩) 0 0, .pointer none, .string ⟨#[]⟩, .int .i64 0, .int .i64 0, .int .i64 0, .int .i64 0, .int .i64 4] 60) := ⟨_, rfl⟩
  have hb2 : Below w.heap.size w w1 := belo0 hb1
  have HB : Hid (Below w.heap.size w X) := Lib.hid (by rw [hX]; exact Below.alloc hb2 hb2.size _)
  have hrow : X.heap[w1.heap.size]? = some (.cells #[.string d, .string ⟨#[]⟩, .string ⟨#[]⟩, .slice none 0 0, .pointer none, .slice (some ⟨fb, 0, none⟩) 0 0, .pointer none, .string ⟨#[]⟩, .int .i64 0, .int .i64 0, .int .i64 0, .int .i64 0, .int .i64 4] 60 (0, 0)) := by rw [hX]; exact heap_alloc_new w1 _
  rw [← hX]
  have HR := Lib.hid hrow
  have hnl : w1.heap.size < X.heap.size := (Array.getElem?_eq_some_iff.1 hrow).1
  clear hX hb1 hb2 hrow
  generalize w1.heap.size = n at HR hnl ⊢
  go_wp2
  go_ret2
  exact ⟨⟨_, _, rfl, nodeC HR.out, .inl ⟨rfl, rfl⟩⟩, HB.out⟩

set_option maxHeartbeats 3200000 in
set_option maxRecDepth 100000 in
theorem astDouble (F : Interp) (g : Nat) (d bi bt : ByteArray) (ev : Value) (w : World) (hF : F.answers w.tape) (hg : g < w.heap.size) (hc : TokC w g 14 d bi bt) (hE : w.cell? ⟨5, 0, none⟩ = some ev) (hT : Lib.Utf8Tabs 3 4 w) (hd : d.size ≤ 4000000) :
    Calls Tryf.prog 20 #[.pointer (some ⟨g, 0, none⟩)] w (AstPost d ⟨#[]⟩ ⟨#[]⟩ 1 (okAt d 0) w) := by
  have HS := Lib.hid (tokS hc hg)
  have k10 : w.cell? ⟨g, 10, none⟩ = some (.int .i64 14) := hc.2
  have ge : 5 < w.heap.size := World.block_lt_of_cell? w ⟨5, 0, none⟩ hE
  obtain ⟨g0, g1⟩ := tabs_lt hT
  have HE := Lib.hid hE
  have HT := Lib.hid hT
  have HF := Lib.hid hF
  clear hF hc hE hT
  go_enter Tryf.func20, Tryf.ntmps20
  go_wp2_with fail
  go_region_held3 (fun V => V.cell? ⟨g, 0, none⟩ = some (.slice none 0 0) ∧ V.cell? ⟨g, 1, none⟩ = some (.string d) ∧ V.cell? ⟨g, 2, none⟩ = some (.string bi) ∧ V.cell? ⟨g, 3, none⟩ = some (.string bt) ∧ V.cell? ⟨g, 4, none⟩ = some (.pointer none) ∧ V.cell? ⟨g, 5, none⟩ = some (.string ⟨#[]⟩) ∧ V.cell? ⟨g, 6, none⟩ = some (.int .i64 0) ∧ V.cell? ⟨g, 7, none⟩ = some (.int .i64 0) ∧ V.cell? ⟨g, 8, none⟩ = some (.int .i64 0) ∧ V.cell? ⟨g, 9, none⟩ = some (.int .i64 0))
    (first | exact HS.out _ (by exact Below.refl _ _) | exact HS.out _ (by exact hb1) | exact HS.out _ (by exact belo0 (Below.refl _ _)) | exact HS.out _ (by exact (belo0 hb1)) | exact HS.out _ (by exact belo0 (Below.alloc hb1 hb1.size _)))
    (first | (go_at_call 24; refine (newLoc _).mono ?_; rintro e w1 ⟨⟨fb, rfl⟩, hb1⟩))
  obtain ⟨X, hX⟩ : ∃ X, X = w1.alloc (.cells #[.string d, .string ⟨#[]⟩, .string ⟨#[]⟩, .slice none 0 0, .pointer none, .slice (some ⟨fb, 0, none⟩) 0 0, .pointer none, .string ⟨#[]⟩, .int .i64 0, .int .i64 0, .int .i64 0, .int .i64 0, .int .i64 1] 60) := ⟨_, rfl⟩
  have hb2 : Below w.heap.size w w1 := belo0 hb1
  have HB : Hid (Below w.heap.size w X) := Lib.hid (by rw [hX]; exact Below.alloc hb2 hb2.size _)
  have hrow : X.heap[w1.heap.size]? = some (.cells #[.string d, .string ⟨#[]⟩, .string ⟨#[]⟩, .slice none 0 0, .pointer none, .slice (some ⟨fb, 0, none⟩) 0 0, .pointer none, .string ⟨#[]⟩, .int .i64 0, .int .i64 0, .int .i64 0, .int .i64 0, .int .i64 1] 60 (0, 0)) := by rw [hX]; exact heap_alloc_new w1 _
  rw [← hX]
  have HR := Lib.hid hrow
  have hnl : w1.heap.size < X.heap.size := (Array.getElem?_eq_some_iff.1 hrow).1
  clear hX hb1 hb2 hrow
  generalize w1.heap.size = n at HR hnl ⊢
  have hdn : X.cell? ⟨n, 0, none⟩ = some (.string d) := (cell_of_row _ _ 0 _ _ _ HR.out).trans rfl
  have HN : Hid (∀ V, Below X.heap.size X V → V.cell? ⟨n, 0, none⟩ = some (.string d)) := Lib.hid fun V hV => (hV.cell (p := ⟨n, 0, none⟩) hnl).trans hdn
  have HFX : Hid (F.answers X.tape) := Lib.hid (by rw [HB.out.tape]; exact HF.out)
  have HEX : Hid (X.cell? ⟨5, 0, none⟩ = some ev) := Lib.hid ((HB.out.cell (p := ⟨5, 0, none⟩) ge).trans HE.out)
  have HTX : Hid (Lib.Utf8Tabs 3 4 X) := Lib.hid (tabs_below HT.out HB.out g0 g1)
  clear hdn
  cases hok : okAt d 0
  · have HOK := Lib.hid hok
    clear hok
    go_wp2_with fail
    go_region_held3 (fun V => V.cell? ⟨n, 0, none⟩ = some (.string d))
      (first | exact HN.out _ (by exact belo0 hb2) | exact HN.out _ (by exact Below.refl _ _) | exact HN.out _ (by exact belo0 (Below.refl _ _)))
      (first | (go_at_call 27; refine (nbLoc _ _ _).mono ?_; rintro e w' ⟨rfl, rfl⟩) | (go_at_call 26; refine (unescBad F d n 6 ev X.drew (by exact HFX.out) hd (by exact hnl) (by exact locC HR.out) (by exact HEX.out) (by exact HTX.out) HOK.out).mono ?_; rintro e w2 ⟨⟨tt, rfl⟩, hb2⟩))
    have mc : ∀ w, _ = _ := fun w => errLook tt w
    have HB2 : Hid (Below X.heap.size X w2) := Lib.hid (belo0 hb2)
    clear hb2
    have HBW : Hid (Below w.heap.size w w2) := Lib.hid (HB.out.trans (HB2.out.mono HB.out.size))
    have HSW : Hid (∀ V, Below w2.heap.size w2 V → V.cell? ⟨g, 0, none⟩ = some (.slice none 0 0) ∧ V.cell? ⟨g, 1, none⟩ = some (.string d) ∧ V.cell? ⟨g, 2, none⟩ = some (.string bi) ∧ V.cell? ⟨g, 3, none⟩ = some (.string bt) ∧ V.cell? ⟨g, 4, none⟩ = some (.pointer none) ∧ V.cell? ⟨g, 5, none⟩ = some (.string ⟨#[]⟩) ∧ V.cell? ⟨g, 6, none⟩ = some (.int .i64 0) ∧ V.cell? ⟨g, 7, none⟩ = some (.int .i64 0) ∧ V.cell? ⟨g, 8, none⟩ = some (.int .i64 0) ∧ V.cell? ⟨g, 9, none⟩ = some (.int .i64 0)) := Lib.hid fun V hV => HS.out V (HBW.out.trans (hV.mono HBW.out.size))
    have HFW : Hid (F.answers w2.tape) := Lib.hid (by rw [HBW.out.tape]; exact HF.out)
    have HR2 := Lib.hid ((HB2.out.block n hnl).trans HR.out)
    have hnl2 : n < w2.heap.size := Nat.lt_of_lt_of_le hnl HB2.out.size
    go_wp2_with fail
    go_region_held3 (fun V => V.cell? ⟨g, 0, none⟩ = some (.slice none 0 0) ∧ V.cell? ⟨g, 1, none⟩ = some (.string d) ∧ V.cell? ⟨g, 2, none⟩ = some (.string bi) ∧ V.cell? ⟨g, 3, none⟩ = some (.string bt) ∧ V.cell? ⟨g, 4, none⟩ = some (.pointer none) ∧ V.cell? ⟨g, 5, none⟩ = some (.string ⟨#[]⟩) ∧ V.cell? ⟨g, 6, none⟩ = some (.int .i64 0) ∧ V.cell? ⟨g, 7, none⟩ = some (.int .i64 0) ∧ V.cell? ⟨g, 8, none⟩ = some (.int .i64 0) ∧ V.cell? ⟨g, 9, none⟩ = some (.int .i64 0))
      (first | exact HSW.out _ (by exact belo0 (hb3.trans (hb4.mono hb3.size))) | exact HSW.out _ (by exact belo0 hb3) | exact HSW.out _ (by exact Below.refl _ _) | exact HSW.out _ (by exact belo0 (Below.refl _ _)))
      (first | (go_at_call 108; refine (errText F tt w2.drew (by exact HFW.out)).mono ?_; rintro e w3 ⟨⟨tx, rfl⟩, hb3⟩) | (go_at_call 28; refine (mkStat _ _).mono ?_; rintro e w4 ⟨rfl, hb4⟩))
    have hb5 : Below w2.heap.size w2 w4 := belo0 (hb3.trans (hb4.mono hb3.size))
    go_wp2
    go_ret2
    have hn5 := (hb5.block n hnl2).trans HR2.out
    exact ⟨⟨_, _, rfl, nodeC hn5, .inr ⟨(by first | rfl | exact HOK.out), _, rfl⟩⟩, HBW.out.trans (hb5.mono HBW.out.size)⟩
  · have HOK := Lib.hid hok
    clear hok
    go_wp2_with fail
    go_region_held3 (fun V => V.cell? ⟨n, 0, none⟩ = some (.string d))
      (first | exact HN.out _ (by exact belo0 hb2) | exact HN.out _ (by exact Below.refl _ _) | exact HN.out _ (by exact belo0 (Below.refl _ _)))
      (first | (go_at_call 27; refine (nbLoc _ _ _).mono ?_; rintro e w' ⟨rfl, rfl⟩) | (go_at_call 26; refine (unescOk F d n 6 ev X.drew (by exact HFX.out) hd (by exact hnl) (by exact locC HR.out) (by exact HEX.out) (by exact HTX.out) HOK.out).mono ?_; rintro e w2 ⟨⟨tt, rfl⟩, hb2⟩))
    have HB2 : Hid (Below X.heap.size X w2) := Lib.hid (belo0 hb2)
    clear hb2
    go_wp2
    go_ret2
    have hn2 := (HB2.out.block n hnl).trans HR.out
    exact ⟨⟨_, _, rfl, nodeC hn2, .inl ⟨(by first | rfl | exact HOK.out), rfl⟩⟩, HB.out.trans (HB2.out.mono HB.out.size)⟩

set_option maxHeartbeats 3200000 in
set_option maxRecDepth 100000 in
theorem astSingle (F : Interp) (g : Nat) (d bi bt : ByteArray) (ev : Value) (w : World) (hF : F.answers w.tape) (hg : g < w.heap.size) (hc : TokC w g 15 d bi bt) (hE : w.cell? ⟨5, 0, none⟩ = some ev) (hT : Lib.Utf8Tabs 3 4 w) (hd : d.size ≤ 4000000) :
    Calls Tryf.prog 20 #[.pointer (some ⟨g, 0, none⟩)] w (AstPost d ⟨#[]⟩ ⟨#[]⟩ 0 (okAt d 0) w) := by
  have HS := Lib.hid (tokS hc hg)
  have k10 : w.cell? ⟨g, 10, none⟩ = some (.int .i64 15) := hc.2
  have ge : 5 < w.heap.size := World.block_lt_of_cell? w ⟨5, 0, none⟩ hE
  obtain ⟨g0, g1⟩ := tabs_lt hT
  have HE := Lib.hid hE
  have HT := Lib.hid hT
  have HF := Lib.hid hF
  clear hF hc hE hT
  go_enter Tryf.func20, Tryf.ntmps20
  go_wp2_with fail
  go_region_held3 (fun V => V.cell? ⟨g, 0, none⟩ = some (.slice none 0 0) ∧ V.cell? ⟨g, 1, none⟩ = some (.string d) ∧ V.cell? ⟨g, 2, none⟩ = some (.string bi) ∧ V.cell? ⟨g, 3, none⟩ = some (.string bt) ∧ V.cell? ⟨g, 4, none⟩ = some (.pointer none) ∧ V.cell? ⟨g, 5, none⟩ = some (.string ⟨#[]⟩) ∧ V.cell? ⟨g, 6, none⟩ = some (.int .i64 0) ∧ V.cell? ⟨g, 7, none⟩ = some (.int .i64 0) ∧ V.cell? ⟨g, 8, none⟩ = some (.int .i64 0) ∧ V.cell? ⟨g, 9, none⟩ = some (.int .i64 0))
    (first | exact HS.out _ (by exact Below.refl _ _) | exact HS.out _ (by exact hb1) | exact HS.out _ (by exact belo0 (Below.refl _ _)) | exact HS.out _ (by exact (belo0 hb1)) | exact HS.out _ (by exact belo0 (Below.alloc hb1 hb1.size _)))
    (first | (go_at_call 24; refine (newLoc _).mono ?_; rintro e w1 ⟨⟨fb, rfl⟩, hb1⟩))
  obtain ⟨X, hX⟩ : ∃ X, X = w1.alloc (.cells #[.string d, .string ⟨#[]⟩, .string ⟨#[]⟩, .slice none 0 0, .pointer none, .slice (some ⟨fb, 0, none⟩) 0 0, .pointer none, .string ⟨#[]⟩, .int .i64 0, .int .i64 0, .int .i64 0, .int .i64 0, .int .i64 0] 60) := ⟨_, rfl⟩
  have hb2 : Below w.heap.size w w1 := belo0 hb1
  have HB : Hid (Below w.heap.size w X) := Lib.hid (by rw [hX]; exact Below.alloc hb2 hb2.size _)
  have hrow : X.heap[w1.heap.size]? = some (.cells #[.string d, .string ⟨#[]⟩, .string ⟨#[]⟩, .slice none 0 0, .pointer none, .slice (some ⟨fb, 0, none⟩) 0 0, .pointer none, .string ⟨#[]⟩, .int .i64 0, .int .i64 0, .int .i64 0, .int .i64 0, .int .i64 0] 60 (0, 0)) := by rw [hX]; exact heap_alloc_new w1 _
  rw [← hX]
  have HR := Lib.hid hrow
  have hnl : w1.heap.size < X.heap.size := (Array.getElem?_eq_some_iff.1 hrow).1
  clear hX hb1 hb2 hrow
  generalize w1.heap.size = n at HR hnl ⊢
  have hdn : X.cell? ⟨n, 0, none⟩ = some (.string d) := (cell_of_row _ _ 0 _ _ _ HR.out).trans rfl
  have HN : Hid (∀ V, Below X.heap.size X V → V.cell? ⟨n, 0, none⟩ = some (.string d)) := Lib.hid fun V hV => (hV.cell (p := ⟨n, 0, none⟩) hnl).trans hdn
  have HFX : Hid (F.answers X.tape) := Lib.hid (by rw [HB.out.tape]; exact HF.out)
  have HEX : Hid (X.cell? ⟨5, 0, none⟩ = some ev) := Lib.hid ((HB.out.cell (p := ⟨5, 0, none⟩) ge).trans HE.out)
  have HTX : Hid (Lib.Utf8Tabs 3 4 X) := Lib.hid (tabs_below HT.out HB.out g0 g1)
  clear hdn
  cases hok : okAt d 0
  · have HOK := Lib.hid hok
    clear hok
    go_wp2_with fail
    go_region_held3 (fun V => V.cell? ⟨n, 0, none⟩ = some (.string d))
      (first | exact HN.out _ (by exact belo0 hb2) | exact HN.out _ (by exact Below.refl _ _) | exact HN.out _ (by exact belo0 (Below.refl _ _)))
      (first | (go_at_call 27; refine (nbLoc _ _ _).mono ?_; rintro e w' ⟨rfl, rfl⟩) | (go_at_call 26; refine (unescBad F d n 6 ev X.drew (by exact HFX.out) hd (by exact hnl) (by exact locC HR.out) (by exact HEX.out) (by exact HTX.out) HOK.out).mono ?_; rintro e w2 ⟨⟨tt, rfl⟩, hb2⟩))
    have mc : ∀ w, _ = _ := fun w => errLook tt w
    have HB2 : Hid (Below X.heap.size X w2) := Lib.hid (belo0 hb2)
    clear hb2
    have HBW : Hid (Below w.heap.size w w2) := Lib.hid (HB.out.trans (HB2.out.mono HB.out.size))
    have HSW : Hid (∀ V, Below w2.heap.size w2 V → V.cell? ⟨g, 0, none⟩ = some (.slice none 0 0) ∧ V.cell? ⟨g, 1, none⟩ = some (.string d) ∧ V.cell? ⟨g, 2, none⟩ = some (.string bi) ∧ V.cell? ⟨g, 3, none⟩ = some (.string bt) ∧ V.cell? ⟨g, 4, none⟩ = some (.pointer none) ∧ V.cell? ⟨g, 5, none⟩ = some (.string ⟨#[]⟩) ∧ V.cell? ⟨g, 6, none⟩ = some (.int .i64 0) ∧ V.cell? ⟨g, 7, none⟩ = some (.int .i64 0) ∧ V.cell? ⟨g, 8, none⟩ = some (.int .i64 0) ∧ V.cell? ⟨g, 9, none⟩ = some (.int .i64 0)) := Lib.hid fun V hV => HS.out V (HBW.out.trans (hV.mono HBW.out.size))
    have HFW : Hid (F.answers w2.tape) := Lib.hid (by rw [HBW.out.tape]; exact HF.out)
    have HR2 := Lib.hid ((HB2.out.block n hnl).trans HR.out)
    have hnl2 : n < w2.heap.size := Nat.lt_of_lt_of_le hnl HB2.out.size
    go_wp2_with fail
    go_region_held3 (fun V => V.cell? ⟨g, 0, none⟩ = some (.slice none 0 0) ∧ V.cell? ⟨g, 1, none⟩ = some (.string d) ∧ V.cell? ⟨g, 2, none⟩ = some (.string bi) ∧ V.cell? ⟨g, 3, none⟩ = some (.string bt) ∧ V.cell? ⟨g, 4, none⟩ = some (.pointer none) ∧ V.cell? ⟨g, 5, none⟩ = some (.string ⟨#[]⟩) ∧ V.cell? ⟨g, 6, none⟩ = some (.int .i64 0) ∧ V.cell? ⟨g, 7, none⟩ = some (.int .i64 0) ∧ V.cell? ⟨g, 8, none⟩ = some (.int .i64 0) ∧ V.cell? ⟨g, 9, none⟩ = some (.int .i64 0))
      (first | exact HSW.out _ (by exact belo0 (hb3.trans (hb4.mono hb3.size))) | exact HSW.out _ (by exact belo0 hb3) | exact HSW.out _ (by exact Below.refl _ _) | exact HSW.out _ (by exact belo0 (Below.refl _ _)))
      (first | (go_at_call 108; refine (errText F tt w2.drew (by exact HFW.out)).mono ?_; rintro e w3 ⟨⟨tx, rfl⟩, hb3⟩) | (go_at_call 28; refine (mkStat _ _).mono ?_; rintro e w4 ⟨rfl, hb4⟩))
    have hb5 : Below w2.heap.size w2 w4 := belo0 (hb3.trans (hb4.mono hb3.size))
    go_wp2
    go_ret2
    have hn5 := (hb5.block n hnl2).trans HR2.out
    exact ⟨⟨_, _, rfl, nodeC hn5, .inr ⟨(by first | rfl | exact HOK.out), _, rfl⟩⟩, HBW.out.trans (hb5.mono HBW.out.size)⟩
  · have HOK := Lib.hid hok
    clear hok
    go_wp2_with fail
    go_region_held3 (fun V => V.cell? ⟨n, 0, none⟩ = some (.string d))
      (first | exact HN.out _ (by exact belo0 hb2) | exact HN.out _ (by exact Below.refl _ _) | exact HN.out _ (by exact belo0 (Below.refl _ _)))
      (first | (go_at_call 27; refine (nbLoc _ _ _).mono ?_; rintro e w' ⟨rfl, rfl⟩) | (go_at_call 26; refine (unescOk F d n 6 ev X.drew (by exact HFX.out) hd (by exact hnl) (by exact locC HR.out) (by exact HEX.out) (by exact HTX.out) HOK.out).mono ?_; rintro e w2 ⟨⟨tt, rfl⟩, hb2⟩))
    have HB2 : Hid (Below X.heap.size X w2) := Lib.hid (belo0 hb2)
    clear hb2
    go_wp2
    go_ret2
    have hn2 := (HB2.out.block n hnl).trans HR.out
    exact ⟨⟨_, _, rfl, nodeC hn2, .inl ⟨(by first | rfl | exact HOK.out), rfl⟩⟩, HB.out.trans (HB2.out.mono HB.out.size)⟩

end Go.Proofs.YtgdlfcgboghadaaFmt
