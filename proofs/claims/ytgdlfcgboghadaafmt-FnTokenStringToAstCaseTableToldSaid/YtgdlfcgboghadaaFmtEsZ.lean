/-
  The law's own door to tokenStringToAst.
-/
import Derived.Test.YtgdlfcgboghadaaFmtEsT
namespace Go.Proofs.YtgdlfcgboghadaaFmt
open Go Go.RowKit Go.Shelf Go.Extern.Stop Go.Stop

theorem results_tmp6 {fn : Func} {t u v x y z : Tmp} (h : fn.results = #[.tmp t, .tmp u, .tmp v, .tmp x, .tmp y, .tmp z]) (tmps : Array Value) (P : Program) (w : World) :
    (results fn tmps).run P w = .ok (.tuple #[tmps.getD t undef, tmps.getD u undef, tmps.getD v undef, tmps.getD x undef, tmps.getD y undef, tmps.getD z undef]) w := by simp [results, h]
def ZPost (d bi bt : ByteArray) (kd : Int) (ok : Bool) (w : World) (e : Ending) (w' : World) : Prop :=
  e = .returned (.tuple #[.bool (!ok), .bool false, .string d, .int .i64 kd, .string bi, .string bt]) ∧ Below w.heap.size w w'
def Door (k kd : Int) (d bi bt bi' bt' : ByteArray) (ok : Bool) (w : World) : Prop :=
  ∀ V g, Below w.heap.size w V → g < V.heap.size → TokC V g k d bi bt → Calls Tryf.prog 20 #[.pointer (some ⟨g, 0, none⟩)] V (AstPost d bi' bt' kd ok V)
set_option maxHeartbeats 1600000 in
set_option maxRecDepth 100000 in
theorem zzAst (k kd : Int) (d bi bt bi' bt' : ByteArray) (ok : Bool) (w : World) (hA : Door k kd d bi bt bi' bt' ok w) (hk0 : 0 ≤ k) (hk1 : k < 100) :
    Calls Tryf.prog 7 #[.int .i64 k, .string d, .string bi, .string bt] w (ZPost d bi' bt' kd ok w) := by
  have HA := Lib.hid hA
  clear hA
  go_enter Tryf.func7, Tryf.ntmps7
  go_wp2_with fail
  generalize hX : w.alloc (.cells #[.slice none 0 0, .string d, .string bi, .string bt, .pointer none, .string ⟨#[]⟩, .int .i64 0, .int .i64 0, .int .i64 0, .int .i64 0, .int .i64 k] 46) = X
  have hrow : X.heap[w.heap.size]? = some (.cells #[.slice none 0 0, .string d, .string bi, .string bt, .pointer none, .string ⟨#[]⟩, .int .i64 0, .int .i64 0, .int .i64 0, .int .i64 0, .int .i64 k] 46 (0, 0)) := by rw [← hX]; exact heap_alloc_new w _
  have hB : Below w.heap.size w X := by rw [← hX]; exact Below.alloc (Below.refl _ w) (Nat.le_refl _) _
  have hT : TokC X w.heap.size k d bi bt := ⟨⟨(cell_of_row _ _ 0 _ _ _ hrow).trans rfl, (cell_of_row _ _ 1 _ _ _ hrow).trans rfl, (cell_of_row _ _ 2 _ _ _ hrow).trans rfl, (cell_of_row _ _ 3 _ _ _ hrow).trans rfl, (cell_of_row _ _ 4 _ _ _ hrow).trans rfl, (cell_of_row _ _ 5 _ _ _ hrow).trans rfl, (cell_of_row _ _ 6 _ _ _ hrow).trans rfl, (cell_of_row _ _ 7 _ _ _ hrow).trans rfl, (cell_of_row _ _ 8 _ _ _ hrow).trans rfl, (cell_of_row _ _ 9 _ _ _ hrow).trans rfl⟩, (cell_of_row _ _ 10 _ _ _ hrow).trans rfl⟩
  refine (HA.out X w.heap.size hB (Array.getElem?_eq_some_iff.1 hrow).1 hT).mono ?_
  clear hX hrow hT
  rintro e w2 ⟨⟨n, er, rfl, ⟨n0, n1, n2, n12⟩, her⟩, hb2⟩
  have HB := Lib.hid (hB.trans (hb2.mono hB.size))
  clear hB hb2
  rcases her with ⟨hok, rfl⟩ | ⟨hok, v, rfl⟩
  all_goals
    subst hok
    go_wp2_with fail
    go_quiet (fail)
    have HB2 : Hid (Below w.heap.size w (w2.drewN nq)) := Lib.hid (drewN_below HB.out nq)
    go_wp2
    refine bodyPost_ret (results_tmp6 rfl _ _ _) rfl ?_
    exact ⟨rfl, HB2.out⟩

/-- The five kinds. -/
structure Env (F : Interp) (ev : Value) (w : World) : Prop where
  ans : F.answers w.tape
  err : w.cell? ⟨5, 0, none⟩ = some ev
  tabs : Lib.Utf8Tabs 3 4 w
theorem Env.below {F : Interp} {ev : Value} {w V : World} (h : Env F ev w) (hb : Below w.heap.size w V) : Env F ev V := by
  have ge : 5 < w.heap.size := World.block_lt_of_cell? w ⟨5, 0, none⟩ h.err
  obtain ⟨g0, g1⟩ := tabs_lt h.tabs
  exact ⟨by rw [hb.tape]; exact h.ans, (hb.cell (p := ⟨5, 0, none⟩) ge).trans h.err, tabs_below h.tabs hb g0 g1⟩
theorem zzSingle {F : Interp} {ev : Value} {w : World} (h : Env F ev w) (d bi bt : ByteArray) (hd : d.size ≤ 4000000) :
    Calls Tryf.prog 7 #[.int .i64 15, .string d, .string bi, .string bt] w (ZPost d ⟨#[]⟩ ⟨#[]⟩ 0 (okAt d 0) w) :=
  zzAst 15 0 d bi bt ⟨#[]⟩ ⟨#[]⟩ (okAt d 0) w (fun V g hV hg hT => astSingle F g d bi bt ev V (h.below hV).ans hg hT (h.below hV).err (h.below hV).tabs hd) (by decide) (by decide)
theorem zzDouble {F : Interp} {ev : Value} {w : World} (h : Env F ev w) (d bi bt : ByteArray) (hd : d.size ≤ 4000000) :
    Calls Tryf.prog 7 #[.int .i64 14, .string d, .string bi, .string bt] w (ZPost d ⟨#[]⟩ ⟨#[]⟩ 1 (okAt d 0) w) :=
  zzAst 14 1 d bi bt ⟨#[]⟩ ⟨#[]⟩ (okAt d 0) w (fun V g hV hg hT => astDouble F g d bi bt ev V (h.below hV).ans hg hT (h.below hV).err (h.below hV).tabs hd) (by decide) (by decide)
theorem zzBlock {F : Interp} {ev : Value} {w : World} (h : Env F ev w) (d bi bt : ByteArray) (hd : d.size ≤ 4000000) :
    Calls Tryf.prog 7 #[.int .i64 13, .string d, .string bi, .string bt] w (ZPost d bi bt 2 true w) :=
  zzAst 13 2 d bi bt bi bt true w (fun V g hV hg hT => astBlock F g d bi bt ev V (h.below hV).ans hg hT (h.below hV).err (h.below hV).tabs hd) (by decide) (by decide)
theorem zzVd {F : Interp} {ev : Value} {w : World} (h : Env F ev w) (d bi bt : ByteArray) (hd : d.size ≤ 4000000) :
    Calls Tryf.prog 7 #[.int .i64 16, .string d, .string bi, .string bt] w (ZPost d ⟨#[]⟩ ⟨#[]⟩ 3 true w) :=
  zzAst 16 3 d bi bt ⟨#[]⟩ ⟨#[]⟩ true w (fun V g hV hg hT => astVd F g d bi bt ev V (h.below hV).ans hg hT (h.below hV).err (h.below hV).tabs hd) (by decide) (by decide)
theorem zzVs {F : Interp} {ev : Value} {w : World} (h : Env F ev w) (d bi bt : ByteArray) (hd : d.size ≤ 4000000) :
    Calls Tryf.prog 7 #[.int .i64 17, .string d, .string bi, .string bt] w (ZPost d ⟨#[]⟩ ⟨#[]⟩ 4 true w) :=
  zzAst 17 4 d bi bt ⟨#[]⟩ ⟨#[]⟩ true w (fun V g hV hg hT => astVs F g d bi bt ev V (h.below hV).ans hg hT (h.below hV).err (h.below hV).tabs hd) (by decide) (by decide)

end Go.Proofs.YtgdlfcgboghadaaFmt
