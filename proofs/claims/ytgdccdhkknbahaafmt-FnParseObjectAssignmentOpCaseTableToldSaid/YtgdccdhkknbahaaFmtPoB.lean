/-
  parseObjectAssignmentOp on one operator token.
-/
import Derived.Test.YtgdccdhkknbahaaFmtPoA
import Derived.Deep.RegionWith
namespace Go.Proofs.YtgdccdhkknbahaaFmt.fnParseObjectAssignmentOpCaseTable
open Go Go.RowKit Go.Extern.Stop Go.Stop Go.Extern

def SomeErr (B : Nat) (w : World) (e : Ending) (w' : World) : Prop := (∃ v, e = .returned (.iface 111 v)) ∧ Below B w w'
def fmExp : ByteArray := ⟨#[69, 120, 112, 101, 99, 116, 101, 100, 32, 111, 110, 101, 32, 111, 102, 32, 58, 44, 32, 58, 58, 44, 32, 58, 58, 58, 44, 32, 43, 58, 44, 32, 43, 58, 58, 44, 32, 43, 58, 58, 58, 44, 32, 103, 111, 116, 58, 32, 37, 118]⟩
theorem fmExp1 : FmtStop.printed? fmExp 1 = some [(0, 118, false)] := by kernel_rfl
theorem fmExp2 : ∀ w, (FmtDoors.printed fmExp 1).run Tryf.prog w = .ok [(0, 118, false)] w := fun _ => by kernel_rfl
set_option maxRecDepth 100000 in
theorem mkStatic (s : ByteArray) (w : World) :
    Calls Tryf.prog 39 #[.string s, .agg #[.pointer none, .string ⟨#[]⟩, .int .i64 0, .int .i64 0, .int .i64 0, .int .i64 0]] w (SomeErr w.heap.size w) := by
  go_enter Tryf.func39, Tryf.ntmps39
  go_wp2
  go_ret
  exact ⟨⟨_, rfl⟩, by refine Below.alloc (Below.refl _ w) (Nat.le_refl _) _⟩

/-- The text behind a leading plus. -/
def bodyOf (c : UInt8) (r : List UInt8) : List UInt8 := if c = 43 then r else c :: r
theorem ext1 (x : UInt8) (r : List UInt8) : ((⟨(x :: r).toArray⟩ : ByteArray).extract 1 (r.length + 1)).data.toList = r := by
  simp
theorem ba_eq {t : ByteArray} {l : List UInt8} (h : t.data.toList = l) : t = ⟨l.toArray⟩ := by
  cases t; subst h; simp
theorem below_of {w' X w5 : World} {o : Obj} (hb5 : Below X.heap.size X w5) (h1 : X.heap = (w'.alloc o).heap) (h2 : X.os = w'.os) (h3 : X.tape = w'.tape) (h4 : X.output = w'.output) : Below w'.heap.size w' w5 :=
  Below.trans (⟨h2, h3, h4, by rw [h1]; simp, fun k hk => by rw [h1]; exact Below.heap_alloc w' o k hk⟩ : Below w'.heap.size w' X) (hb5.mono (by rw [h1]; simp))
theorem drew_below {B : Nat} {a w : World} (h : Below B a w) : Below B a w.drew := ⟨h.os, h.tape, h.output, h.size, h.block⟩
theorem opS {w : World} {g : Nat} {op : ByteArray} (h : OpTok w g op) : w.cell? ⟨g, 1, none⟩ = some (.string op) ∧ w.cell? ⟨g, 4, none⟩ = some (.pointer none) ∧ w.cell? ⟨g, 5, none⟩ = some (.string ⟨#[]⟩) ∧ w.cell? ⟨g, 6, none⟩ = some (.int .i64 0) ∧ w.cell? ⟨g, 7, none⟩ = some (.int .i64 0) ∧ w.cell? ⟨g, 8, none⟩ = some (.int .i64 0) ∧ w.cell? ⟨g, 9, none⟩ = some (.int .i64 0) :=
  ⟨h 1 _ rfl, h 4 _ rfl, h 5 _ rfl, h 6 _ rfl, h 7 _ rfl, h 8 _ rfl, h 9 _ rfl⟩
theorem results_tmp4 {fn : Func} {t u v x : Tmp} (h : fn.results = #[.tmp t, .tmp u, .tmp v, .tmp x]) (tmps : Array Value) (P : Program) (w : World) :
    (results fn tmps).run P w = .ok (.tuple #[tmps.getD t undef, tmps.getD u undef, tmps.getD v undef, tmps.getD x undef]) w := by simp [results, h]
def Good (b : List UInt8) : Prop := (∀ x ∈ b, x = 58) ∧ 1 ≤ b.length ∧ b.length ≤ 3
def Out (p : Bool) (b : List UInt8) (e : Ending) : Prop := ∃ h err, e = .returned (.tuple #[.slice none 0 0, .bool p, .int .i64 h, err]) ∧
  ((Good b ∧ (b.length = 1 ∧ h = 1 ∨ b.length = 2 ∧ h = 0 ∨ b.length = 3 ∧ h = 2) ∧ err = .nilIface) ∨ (¬ Good b ∧ ∃ v, err = .iface 111 v))
def Done (pb : Nat) (p : Bool) (b : List UInt8) (w : World) (e : Ending) (w' : World) : Prop := (Out p b e ∧ w'.cell? ⟨pb, 1, none⟩ = some (.int .i64 1)) ∧ Below pb w w'
theorem all58 {b : List UInt8} (h : ∀ j, j < b.length → b[j]? = some 58) : ∀ x ∈ b, x = 58 := fun x hx => by
  obtain ⟨j, hj, rfl⟩ := List.mem_iff_getElem.1 hx
  have := h j hj
  rw [List.getElem?_eq_getElem hj] at this
  exact Option.some.inj this
theorem not_good {b : List UInt8} {k : Nat} {x : UInt8} (h : b[k]? = some x) (hx : ¬ x = 58) : ¬ Good b := fun hg => hx (hg.1 x (List.mem_of_getElem? h))

set_option maxHeartbeats 3200000 in
set_option maxRecDepth 100000 in
theorem parse_plus (F : Interp) (pb g cap : Nat) (c : UInt8) (r : List UInt8) (w : World) (hp : c = 43) (hF : F.answers w.tape) (h : w.heap[pb]? = some (.cells #[.slice (some ⟨g, 0, none⟩) 2 cap, .int .i64 0] 81 (0, 0))) (ht : OpTok w g ⟨(c :: r).toArray⟩) (hg : g < pb) (hr : r.length ≤ 1048576) :
    Calls Tryf.prog 32 #[.pointer (some ⟨pb, 0, none⟩)] w (Done pb true r w) := by
  have H := Lib.hid h
  have HT := Lib.hid ht
  have HF := Lib.hid hF
  clear h ht hF
  go_enter Tryf.func32, Tryf.ntmps32
  go_wp2_with fail
  refine (popExpect0 pb g cap _ w H.out HT.out hg).mono ?_
  rintro e w' ⟨rfl, hc, hT, hB, hlt⟩
  have k0 : w'.cell? ⟨g, 0, none⟩ = some (.slice none 0 0) := hT 0 _ rfl
  have k1 : w'.cell? ⟨g, 1, none⟩ = some (.string ⟨(c :: r).toArray⟩) := hT 1 _ rfl
  have k4 : w'.cell? ⟨g, 4, none⟩ = some (.pointer none) := hT 4 _ rfl
  have k5 : w'.cell? ⟨g, 5, none⟩ = some (.string ⟨#[]⟩) := hT 5 _ rfl
  have k6 : w'.cell? ⟨g, 6, none⟩ = some (.int .i64 0) := hT 6 _ rfl
  have k7 : w'.cell? ⟨g, 7, none⟩ = some (.int .i64 0) := hT 7 _ rfl
  have k8 : w'.cell? ⟨g, 8, none⟩ = some (.int .i64 0) := hT 8 _ rfl
  have k9 : w'.cell? ⟨g, 9, none⟩ = some (.int .i64 0) := hT 9 _ rfl
  have HC := Lib.hid hc
  have HB := Lib.hid hB
  have HTW := Lib.hid hT
  have hgl : g < w'.heap.size := by omega
  have HF2 : Hid (F.answers w'.tape) := Lib.hid (by rw [hB.tape]; exact HF.out)
  clear hc hT hB H HT HF
  subst hp
  go_wp2_with fail
  have hlen : Hid (((⟨(43 :: r).toArray⟩ : ByteArray).extract 1 (r.length + 1)).data.toList = r.drop 0) := Lib.hid (by rw [ext1]; rfl)
  have HLN := hlen
  clear hlen
  go_loop [5, 7, 8] (fun s5 s7 s8 => ∃ (k : Nat) (t : ByteArray), k ≤ r.length ∧ s5 = .nilIface ∧ s7 = .string t ∧ s8 = .int .i64 k ∧ Hid (t.data.toList = r.drop k) ∧ Hid (∀ j, j < k → r[j]? = some 58)) (fun _ _ s8 => r.length - (intOf s8).toNat)
  case atStart => exact ⟨0, _, Nat.zero_le _, rfl, rfl, rfl, HLN, Lib.hid (fun j hj => by omega)⟩
  case round =>
    obtain ⟨k, t, hk, rfl, rfl, rfl, HT, HJ⟩ := hrel
    by_cases hlt2 : k < r.length
    · have hd : r.drop k = r[k] :: r.drop (k + 1) := List.drop_eq_getElem_cons hlt2
      obtain ⟨x, hx⟩ : ∃ x, r[k] = x := ⟨_, rfl⟩
      obtain ⟨r2, hr2⟩ : ∃ r2, r.drop (k + 1) = r2 := ⟨_, rfl⟩
      have ht : t = ⟨(x :: r2).toArray⟩ := ba_eq (by rw [HT.out, hd, hx, hr2])
      have hx2 : r[k]? = some x := by rw [List.getElem?_eq_getElem hlt2, hx]
      have hl2 : r2.length ≤ 1048577 := by rw [← hr2, List.length_drop]; omega
      subst ht
      have HX := Lib.hid hx2
      have HR2 := Lib.hid hr2
      clear hd hx hr2 hx2 HT
      by_cases h58 : x = 58
      · subst h58
        have HJ2 : Hid (∀ j, j < k + 1 → r[j]? = some 58) := Lib.hid (fun j hj => by
          by_cases e : j = k
          · rw [e]; exact HX.out
          · exact HJ.out j (by omega))
        go_wp2
        go_round
        case rel => exact ⟨k + 1, _, by omega, rfl, rfl, by go_num, Lib.hid (by rw [ext1, HR2.out]), HJ2⟩
        case measure => simp [intOf]; omega
      · have q2 : ((((⟨(x :: r2).toArray⟩ : ByteArray)[0]'(Nat.succ_pos _)).toNat : Int) != 58) = true := by
          rw [bne_iff_ne]
          intro e
          exact h58 (UInt8.toNat_inj.1 (Int.ofNat.inj e))
        have HG : Hid (¬ Good r) := Lib.hid (not_good HX.out h58)
        clear HR2 HX HJ
        go_wp2_with fail
        go_region_held3 (fun w' => w'.cell? ⟨g, 1, none⟩ = some (.string ⟨(43 :: r).toArray⟩) ∧ w'.cell? ⟨g, 4, none⟩ = some (.pointer none) ∧ w'.cell? ⟨g, 5, none⟩ = some (.string ⟨#[]⟩) ∧ w'.cell? ⟨g, 6, none⟩ = some (.int .i64 0) ∧ w'.cell? ⟨g, 7, none⟩ = some (.int .i64 0) ∧ w'.cell? ⟨g, 8, none⟩ = some (.int .i64 0) ∧ w'.cell? ⟨g, 9, none⟩ = some (.int .i64 0)) (first | go_keep | exact opS HT5.out)
          (first
            | (refine FmtS.step_sprintf1 (by rfl) _ _ (by rfl) fmExp w'.heap.size ⟨(43 :: r).toArray⟩ (by rfl) (by rfl) fmExp1 fmExp2 (by exact (cell_of_row _ _ 0 _ _ _ (heap_alloc_new w' _)).trans rfl) F (by exact HF2.out) ?_; intro tx)
            | (go_at_call 39; refine (mkStatic _ _).mono ?_; rintro e w5 ⟨⟨ve, rfl⟩, hb5⟩; have HB5 : Hid (Below w'.heap.size w' w5) := Lib.hid (below_of hb5 rfl rfl rfl rfl); have HT5 := Lib.hid (HTW.out.below HB5.out hgl); clear hb5))
        go_wp2
        refine bodyPost_ret (results_tmp4 rfl _ _ _) rfl ?_
        exact ⟨⟨⟨_, _, rfl, .inr ⟨HG.out, _, rfl⟩⟩, (HB5.out.cell (p := ⟨pb, 1, none⟩) hlt).trans HC.out⟩, HB.out.trans (HB5.out.mono (by omega))⟩
    · have HKL : Hid (k = r.length) := Lib.hid (by omega)
      have ht : t = ⟨#[]⟩ := ba_eq (by rw [HT.out, HKL.out, List.drop_length])
      subst ht
      have HA : Hid (∀ x ∈ r, x = 58) := Lib.hid (all58 (fun j hj => HJ.out j (by rw [HKL.out]; exact hj)))
      clear HT HJ hlt2 hk
      by_cases e1 : k = 1
      · subst e1
        go_wp2
        refine bodyPost_ret (results_tmp4 rfl _ _ _) rfl ?_
        exact ⟨⟨⟨_, _, rfl, .inl ⟨⟨HA.out, by rw [← HKL.out]; decide, by rw [← HKL.out]; decide⟩, .inl ⟨HKL.out.symm, rfl⟩, rfl⟩⟩, HC.out⟩, HB.out⟩
      by_cases e2 : k = 2
      · subst e2
        go_wp2
        refine bodyPost_ret (results_tmp4 rfl _ _ _) rfl ?_
        exact ⟨⟨⟨_, _, rfl, .inl ⟨⟨HA.out, by rw [← HKL.out]; decide, by rw [← HKL.out]; decide⟩, .inr (.inl ⟨HKL.out.symm, rfl⟩), rfl⟩⟩, HC.out⟩, HB.out⟩
      by_cases e3 : k = 3
      · subst e3
        go_wp2
        refine bodyPost_ret (results_tmp4 rfl _ _ _) rfl ?_
        exact ⟨⟨⟨_, _, rfl, .inl ⟨⟨HA.out, by rw [← HKL.out]; decide, by rw [← HKL.out]; decide⟩, .inr (.inr ⟨HKL.out.symm, rfl⟩), rfl⟩⟩, HC.out⟩, HB.out⟩
      have q3 : ((k : Int) == 1) = false := beq_eq_false_iff_ne.2 (by omega)
      have q4 : ((k : Int) == 2) = false := beq_eq_false_iff_ne.2 (by omega)
      have q5 : ((k : Int) == 3) = false := beq_eq_false_iff_ne.2 (by omega)
      have HG : Hid (¬ Good r) := Lib.hid (fun hg => by
        have h1 := hg.2
        rw [← HKL.out] at h1
        omega)
      clear HKL HA e1 e2 e3
      go_wp2_with fail
      go_region_held3 (fun w' => w'.cell? ⟨g, 1, none⟩ = some (.string ⟨(43 :: r).toArray⟩) ∧ w'.cell? ⟨g, 4, none⟩ = some (.pointer none) ∧ w'.cell? ⟨g, 5, none⟩ = some (.string ⟨#[]⟩) ∧ w'.cell? ⟨g, 6, none⟩ = some (.int .i64 0) ∧ w'.cell? ⟨g, 7, none⟩ = some (.int .i64 0) ∧ w'.cell? ⟨g, 8, none⟩ = some (.int .i64 0) ∧ w'.cell? ⟨g, 9, none⟩ = some (.int .i64 0)) (first | go_keep | exact opS HT5.out)
        (first
          | (refine FmtS.step_sprintf1 (by rfl) _ _ (by rfl) fmExp w'.heap.size ⟨(43 :: r).toArray⟩ (by rfl) (by rfl) fmExp1 fmExp2 (by exact (cell_of_row _ _ 0 _ _ _ (heap_alloc_new w' _)).trans rfl) F (by exact HF2.out) ?_; intro tx)
          | (go_at_call 39; refine (mkStatic _ _).mono ?_; rintro e w5 ⟨⟨ve, rfl⟩, hb5⟩; have HB5 : Hid (Below w'.heap.size w' w5) := Lib.hid (below_of hb5 rfl rfl rfl rfl); have HT5 := Lib.hid (HTW.out.below HB5.out hgl); clear hb5))
      go_wp2
      refine bodyPost_ret (results_tmp4 rfl _ _ _) rfl ?_
      exact ⟨⟨⟨_, _, rfl, .inr ⟨HG.out, _, rfl⟩⟩, (HB5.out.cell (p := ⟨pb, 1, none⟩) hlt).trans HC.out⟩, HB.out.trans (HB5.out.mono (by omega))⟩

set_option maxHeartbeats 3200000 in
set_option maxRecDepth 100000 in
theorem parse_plain (F : Interp) (pb g cap : Nat) (c : UInt8) (r : List UInt8) (w : World) (hp : ¬ c = 43) (hF : F.answers w.tape) (h : w.heap[pb]? = some (.cells #[.slice (some ⟨g, 0, none⟩) 2 cap, .int .i64 0] 81 (0, 0))) (ht : OpTok w g ⟨(c :: r).toArray⟩) (hg : g < pb) (hr : r.length ≤ 1048576) :
    Calls Tryf.prog 32 #[.pointer (some ⟨pb, 0, none⟩)] w (Done pb false (c :: r) w) := by
  have H := Lib.hid h
  have HT := Lib.hid ht
  have HF := Lib.hid hF
  clear h ht hF
  go_enter Tryf.func32, Tryf.ntmps32
  go_wp2_with fail
  refine (popExpect0 pb g cap _ w H.out HT.out hg).mono ?_
  rintro e w' ⟨rfl, hc, hT, hB, hlt⟩
  have k0 : w'.cell? ⟨g, 0, none⟩ = some (.slice none 0 0) := hT 0 _ rfl
  have k1 : w'.cell? ⟨g, 1, none⟩ = some (.string ⟨(c :: r).toArray⟩) := hT 1 _ rfl
  have k4 : w'.cell? ⟨g, 4, none⟩ = some (.pointer none) := hT 4 _ rfl
  have k5 : w'.cell? ⟨g, 5, none⟩ = some (.string ⟨#[]⟩) := hT 5 _ rfl
  have k6 : w'.cell? ⟨g, 6, none⟩ = some (.int .i64 0) := hT 6 _ rfl
  have k7 : w'.cell? ⟨g, 7, none⟩ = some (.int .i64 0) := hT 7 _ rfl
  have k8 : w'.cell? ⟨g, 8, none⟩ = some (.int .i64 0) := hT 8 _ rfl
  have k9 : w'.cell? ⟨g, 9, none⟩ = some (.int .i64 0) := hT 9 _ rfl
  have HC := Lib.hid hc
  have HB := Lib.hid hB
  have HTW := Lib.hid hT
  have hgl : g < w'.heap.size := by omega
  have HF2 : Hid (F.answers w'.tape) := Lib.hid (by rw [hB.tape]; exact HF.out)
  clear hc hT hB H HT HF
  have q1 : ((((⟨(c :: r).toArray⟩ : ByteArray)[0]'(Nat.succ_pos _)).toNat : Int) == 43) = false := by
    rw [beq_eq_false_iff_ne]
    intro e
    exact hp (UInt8.toNat_inj.1 (Int.ofNat.inj e))
  go_wp2_with fail
  have HLN : Hid ((⟨(c :: r).toArray⟩ : ByteArray).data.toList = (c :: r).drop 0) := Lib.hid (by simp)
  have hbl : (c :: r).length ≤ 1048577 := by rw [List.length_cons]; omega
  go_loop [5, 7, 8] (fun s5 s7 s8 => ∃ (k : Nat) (t : ByteArray), k ≤ (c :: r).length ∧ s5 = .nilIface ∧ s7 = .string t ∧ s8 = .int .i64 k ∧ Hid (t.data.toList = (c :: r).drop k) ∧ Hid (∀ j, j < k → (c :: r)[j]? = some 58)) (fun _ _ s8 => (c :: r).length - (intOf s8).toNat)
  case atStart => exact ⟨0, _, Nat.zero_le _, rfl, rfl, rfl, HLN, Lib.hid (fun j hj => by omega)⟩
  case round =>
    obtain ⟨k, t, hk, rfl, rfl, rfl, HT, HJ⟩ := hrel
    by_cases hlt2 : k < (c :: r).length
    · have hd : (c :: r).drop k = (c :: r)[k] :: (c :: r).drop (k + 1) := List.drop_eq_getElem_cons hlt2
      obtain ⟨x, hx⟩ : ∃ x, (c :: r)[k] = x := ⟨_, rfl⟩
      obtain ⟨r2, hr2⟩ : ∃ r2, (c :: r).drop (k + 1) = r2 := ⟨_, rfl⟩
      have ht : t = ⟨(x :: r2).toArray⟩ := ba_eq (by rw [HT.out, hd, hx, hr2])
      have hx2 : (c :: r)[k]? = some x := by rw [List.getElem?_eq_getElem hlt2, hx]
      have hl2 : r2.length ≤ 1048577 := by rw [← hr2, List.length_drop]; omega
      subst ht
      have HX := Lib.hid hx2
      have HR2 := Lib.hid hr2
      clear hd hx hr2 hx2 HT
      by_cases h58 : x = 58
      · subst h58
        have HJ2 : Hid (∀ j, j < k + 1 → (c :: r)[j]? = some 58) := Lib.hid (fun j hj => by
          by_cases e : j = k
          · rw [e]; exact HX.out
          · exact HJ.out j (by omega))
        go_wp2
        go_round
        case rel => exact ⟨k + 1, _, by omega, rfl, rfl, by go_num, Lib.hid (by rw [ext1, HR2.out]), HJ2⟩
        case measure => have e1 : (c :: r).length = r.length + 1 := rfl; simp [intOf]; omega
      · have q2 : ((((⟨(x :: r2).toArray⟩ : ByteArray)[0]'(Nat.succ_pos _)).toNat : Int) != 58) = true := by
          rw [bne_iff_ne]
          intro e
          exact h58 (UInt8.toNat_inj.1 (Int.ofNat.inj e))
        have HG : Hid (¬ Good (c :: r)) := Lib.hid (not_good HX.out h58)
        clear HR2 HX HJ
        go_wp2_with fail
        go_region_held3 (fun w' => w'.cell? ⟨g, 1, none⟩ = some (.string ⟨(c :: r).toArray⟩) ∧ w'.cell? ⟨g, 4, none⟩ = some (.pointer none) ∧ w'.cell? ⟨g, 5, none⟩ = some (.string ⟨#[]⟩) ∧ w'.cell? ⟨g, 6, none⟩ = some (.int .i64 0) ∧ w'.cell? ⟨g, 7, none⟩ = some (.int .i64 0) ∧ w'.cell? ⟨g, 8, none⟩ = some (.int .i64 0) ∧ w'.cell? ⟨g, 9, none⟩ = some (.int .i64 0)) (first | go_keep | exact opS HT5.out)
          (first
            | (refine FmtS.step_sprintf1 (by rfl) _ _ (by rfl) fmExp w'.heap.size ⟨(c :: r).toArray⟩ (by rfl) (by rfl) fmExp1 fmExp2 (by exact (cell_of_row _ _ 0 _ _ _ (heap_alloc_new w' _)).trans rfl) F (by exact HF2.out) ?_; intro tx)
            | (go_at_call 39; refine (mkStatic _ _).mono ?_; rintro e w5 ⟨⟨ve, rfl⟩, hb5⟩; have HB5 : Hid (Below w'.heap.size w' w5) := Lib.hid (below_of hb5 rfl rfl rfl rfl); have HT5 := Lib.hid (HTW.out.below HB5.out hgl); clear hb5))
        go_wp2
        refine bodyPost_ret (results_tmp4 rfl _ _ _) rfl ?_
        exact ⟨⟨⟨_, _, rfl, .inr ⟨HG.out, _, rfl⟩⟩, (HB5.out.cell (p := ⟨pb, 1, none⟩) hlt).trans HC.out⟩, HB.out.trans (HB5.out.mono (by omega))⟩
    · have HKL : Hid (k = (c :: r).length) := Lib.hid (by omega)
      have ht : t = ⟨#[]⟩ := ba_eq (by rw [HT.out, HKL.out, List.drop_length])
      subst ht
      have HA : Hid (∀ x ∈ c :: r, x = 58) := Lib.hid (all58 (fun j hj => HJ.out j (by rw [HKL.out]; exact hj)))
      clear HT HJ hlt2 hk
      by_cases e1 : k = 1
      · subst e1
        go_wp2
        refine bodyPost_ret (results_tmp4 rfl _ _ _) rfl ?_
        exact ⟨⟨⟨_, _, rfl, .inl ⟨⟨HA.out, by rw [← HKL.out]; decide, by rw [← HKL.out]; decide⟩, .inl ⟨HKL.out.symm, rfl⟩, rfl⟩⟩, HC.out⟩, HB.out⟩
      by_cases e2 : k = 2
      · subst e2
        go_wp2
        refine bodyPost_ret (results_tmp4 rfl _ _ _) rfl ?_
        exact ⟨⟨⟨_, _, rfl, .inl ⟨⟨HA.out, by rw [← HKL.out]; decide, by rw [← HKL.out]; decide⟩, .inr (.inl ⟨HKL.out.symm, rfl⟩), rfl⟩⟩, HC.out⟩, HB.out⟩
      by_cases e3 : k = 3
      · subst e3
        go_wp2
        refine bodyPost_ret (results_tmp4 rfl _ _ _) rfl ?_
        exact ⟨⟨⟨_, _, rfl, .inl ⟨⟨HA.out, by rw [← HKL.out]; decide, by rw [← HKL.out]; decide⟩, .inr (.inr ⟨HKL.out.symm, rfl⟩), rfl⟩⟩, HC.out⟩, HB.out⟩
      have q3 : ((k : Int) == 1) = false := beq_eq_false_iff_ne.2 (by omega)
      have q4 : ((k : Int) == 2) = false := beq_eq_false_iff_ne.2 (by omega)
      have q5 : ((k : Int) == 3) = false := beq_eq_false_iff_ne.2 (by omega)
      have HG : Hid (¬ Good (c :: r)) := Lib.hid (fun hg => by
        have h1 := hg.2
        rw [← HKL.out] at h1
        omega)
      clear HKL HA e1 e2 e3
      go_wp2_with fail
      go_region_held3 (fun w' => w'.cell? ⟨g, 1, none⟩ = some (.string ⟨(c :: r).toArray⟩) ∧ w'.cell? ⟨g, 4, none⟩ = some (.pointer none) ∧ w'.cell? ⟨g, 5, none⟩ = some (.string ⟨#[]⟩) ∧ w'.cell? ⟨g, 6, none⟩ = some (.int .i64 0) ∧ w'.cell? ⟨g, 7, none⟩ = some (.int .i64 0) ∧ w'.cell? ⟨g, 8, none⟩ = some (.int .i64 0) ∧ w'.cell? ⟨g, 9, none⟩ = some (.int .i64 0)) (first | go_keep | exact opS HT5.out)
        (first
          | (refine FmtS.step_sprintf1 (by rfl) _ _ (by rfl) fmExp w'.heap.size ⟨(c :: r).toArray⟩ (by rfl) (by rfl) fmExp1 fmExp2 (by exact (cell_of_row _ _ 0 _ _ _ (heap_alloc_new w' _)).trans rfl) F (by exact HF2.out) ?_; intro tx)
          | (go_at_call 39; refine (mkStatic _ _).mono ?_; rintro e w5 ⟨⟨ve, rfl⟩, hb5⟩; have HB5 : Hid (Below w'.heap.size w' w5) := Lib.hid (below_of hb5 rfl rfl rfl rfl); have HT5 := Lib.hid (HTW.out.below HB5.out hgl); clear hb5))
      go_wp2
      refine bodyPost_ret (results_tmp4 rfl _ _ _) rfl ?_
      exact ⟨⟨⟨_, _, rfl, .inr ⟨HG.out, _, rfl⟩⟩, (HB5.out.cell (p := ⟨pb, 1, none⟩) hlt).trans HC.out⟩, HB.out.trans (HB5.out.mono (by omega))⟩

end Go.Proofs.YtgdccdhkknbahaaFmt.fnParseObjectAssignmentOpCaseTable
