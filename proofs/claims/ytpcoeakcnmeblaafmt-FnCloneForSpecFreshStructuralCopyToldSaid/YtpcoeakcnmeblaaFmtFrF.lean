/-
  What the laws on for-chains find behind the clone (n008_165).
-/
import Derived.Test.YtpcoeakcnmeblaaFmtFrC
import Derived.Test.YtpcoeakcnmeblaaFmtFrN
import Derived.Test.YtpcoeakcnmeblaaFmtFrM
import Derived.LaidEql
import Derived.Stop.IfaceNil
namespace Go.Proofs.YtpcoeakcnmeblaaFmt
open Go Go.RowKit
namespace Fr

structure Fin (M : Nat) (W : World) (H E K S n : Nat) (f : Nat → Lev) (R : Nat → Rec) (Sb : Nat → Nat) (ev : Nat → Value) (cu : Nat → Nat → Value) : Prop where
  heads : Row W H 34 n (fun i => ptr (R i).fs)
  exprs : Row W E 47 n (fun i => if (f i).en = false then ptr (R i).e else .pointer none)
  conds : Row W K 26 n (fun i => sl (R i).cv (f i).ct.length)
  slots : Row W S 33 n (fun i => sl (R i).cs (f i).ct.length)
  spec : ∀ i, i < n → W.heap[Sb i]? = some (.cells (fsCells (sl (R i).cs (f i).ct.length) (newOuter n Sb i) (ev i) (f i).vn) 39 (0, 0))
  head : ∀ i, i < n → W.heap[(R i).fs]? = some (.cells (fsCells (sl (R i).cs (f i).ct.length) (outerOf n R i) (evOf (f i) (R i)) (f i).vn) 39 (0, 0))
  nil : ∀ i, i < n → (f i).en = true → ev i = .nilIface
  expr : ∀ i, i < n → (f i).en = false → CopyAt M W (ev i) (f i).et ((i : Int) + 1) 0 ∧ NodeAt W (R i).e (R i).eg (f i).et ((i : Int) + 1) 0 ∧ (R i).e < M ∧ (R i).eg < M
  cv : ∀ i, i < n → Row W (R i).cv 47 (f i).ct.length (fun j => ptr ((R i).v j))
  cs : ∀ i, i < n → IfRow W (R i).cs (f i).ct.length (cu i)
  cond : ∀ i, i < n → ∀ j, j < (f i).ct.length → CopyAt M W (cu i j) ((f i).tag j) ((i : Int) + 1) ((j : Int) + 1) ∧ NodeAt W ((R i).v j) ((R i).g j) ((f i).tag j) ((i : Int) + 1) ((j : Int) + 1) ∧ (R i).v j < M ∧ (R i).g j < M
  new : ∀ i, 0 < i → i < n → M ≤ Sb i
  old : ∀ i, i < n → (R i).fs < M
theorem Fin.drewN {M : Nat} {W : World} {H E K S n : Nat} {f : Nat → Lev} {R : Nat → Rec} {Sb : Nat → Nat} {ev : Nat → Value} {cu : Nat → Nat → Value} (h : Fin M W H E K S n f R Sb ev cu) (k : Nat) : Fin M (W.drewN k) H E K S n f R Sb ev cu :=
  ⟨h.heads, h.exprs, h.conds, h.slots, h.spec, h.head, h.nil, h.expr, h.cv, h.cs, h.cond, h.new, h.old⟩

theorem finish {B : Nat} {w0 X W : World} {H E K S n sb : Nat} {f : Nat → Lev} {R : Nat → Rec} {Sb : Nat → Nat} {ev : Nat → Value} {cu : Nat → Nat → Value} (hB : Built w0 B H E K S 0 n f R) (hX : Kept (fun _ => False) w0 X) (hsb : X.heap[sb]? = some (.cells (fsCells (sl (R 0).cs (f 0).ct.length) (outerOf n R 0) (evOf (f 0) (R 0)) (f 0).vn) 39 (0, 0))) (hs : w0.heap.size ≤ sb)
    (hp : ChainPost X W sb 0 n f R Sb ev cu) : Fin X.heap.size W H E K S n f R Sb ev cu := by
  have hx : ∀ b, b < w0.heap.size → X.heap[b]? = w0.heap[b]? := fun b hb => hX.block b hb (fun e => e)
  have hsz := hX.size
  -- what is neither a head nor a row of conditions stands
  have st : ∀ (b : Nat) (C : Array Value) (T : TypeId), w0.heap[b]? = some (Obj.cells C T (0, 0)) → T ≠ 46 → W.heap[b]? = some (Obj.cells C T (0, 0)) := fun b C T hb hT => by
    have hlt := (Array.getElem?_eq_some_iff.1 hb).1
    rw [hp.kept.block b (by omega) (fun e => ?_), hx b hlt, hb]
    rcases e with e | ⟨k, _, h3, e⟩
    · omega
    · obtain ⟨D, hD, _⟩ := (hB.lev k (Nat.zero_le _) h3).cs
      rw [e, hD] at hb
      cases hb
      exact hT rfl
  have rows : ∀ (b m : Nat) (T : TypeId) (u : Nat → Value), Row w0 b T m u → T ≠ 46 → Row W b T m u := fun b m T u ⟨C, hC, hc⟩ hT => ⟨C, st b C T hC hT, hc⟩
  have node : ∀ (b g : Nat) (t : ByteArray) (l c : Int), NodeAt w0 b g t l c → NodeAt W b g t l c ∧ b < X.heap.size ∧ g < X.heap.size := fun b g t l c h =>
    ⟨⟨st b _ _ h.1 (by decide), st g _ _ h.2 (by decide)⟩, Nat.lt_of_lt_of_le h.lt.1 hsz, Nat.lt_of_lt_of_le h.lt.2 hsz⟩
  refine ⟨?_, ?_, ?_, ?_, fun i hi => hp.spec i (Nat.zero_le _) hi, fun i hi => st _ _ _ (hB.lev i (Nat.zero_le _) hi).spec (by decide), fun i hi he => hp.nil i (Nat.zero_le _) hi he, fun i hi he => ?_, fun i hi => rows _ _ _ _ (hB.lev i (Nat.zero_le _) hi).cv (by decide), fun i hi => hp.row i (Nat.zero_le _) hi, fun i hi j hj => ?_, fun i h0 hi => hp.new i h0 hi, fun i hi => ?_⟩
  · exact (rows _ _ _ _ hB.heads (by decide)).congr fun i hi => if_pos (Nat.zero_le _)
  · refine (rows _ _ _ _ hB.exprs (by decide)).congr fun i hi => ?_
    have e : (0 ≤ i) = True := eq_true (Nat.zero_le _)
    simp only [e, true_and]
  · exact (rows _ _ _ _ hB.conds (by decide)).congr fun i hi => if_pos (Nat.zero_le _)
  · exact (rows _ _ _ _ hB.slots (by decide)).congr fun i hi => if_pos (Nat.zero_le _)
  · exact ⟨hp.expr i (Nat.zero_le _) hi he, node _ _ _ _ _ ((hB.lev i (Nat.zero_le _) hi).expr he)⟩
  · exact ⟨hp.cond i (Nat.zero_le _) hi j hj, node _ _ _ _ _ ((hB.lev i (Nat.zero_le _) hi).node j hj)⟩
  · have := (Array.getElem?_eq_some_iff.1 (hB.lev i (Nat.zero_le _) hi).spec).1
    omega
/-- What cloneForSpec is called with. -/
theorem chainPre {B : Nat} {w0 X : World} {H E K S n sb : Nat} {f : Nat → Lev} {R : Nat → Rec} (hB : Built w0 B H E K S 0 n f R) (hn : 0 < n) (hX : Kept (fun _ => False) w0 X) (hsb : X.heap[sb]? = some (.cells (fsCells (sl (R 0).cs (f 0).ct.length) (outerOf n R 0) (evOf (f 0) (R 0)) (f 0).vn) 39 (0, 0))) (hs : w0.heap.size ≤ sb)
    (hl : ∀ i, i < n → (f i).ct.length ≤ 1048576) : ChainPre X E sb 0 n f R := by
  refine ⟨hsb, fun k _ h => (hB.lev k (Nat.zero_le _) h).kept hX (fun e => e) (fun e => e) (fun b e _ => e.elim), fun k _ h e => ?_, fun k j _ h1 h2 => hB.inj k j (Nat.zero_le _) h1 h2, fun k _ h => hl k h⟩
  have := (Array.getElem?_eq_some_iff.1 (hB.lev k (Nat.zero_le _) h).spec).1
  omega
/-- The run's memory below the law's own. -/
theorem chainBelow {B : Nat} {w0 X W : World} {H E K S n sb : Nat} {f : Nat → Lev} {R : Nat → Rec} {Sb : Nat → Nat} {ev : Nat → Value} {cu : Nat → Nat → Value} (hB : Built w0 B H E K S 0 n f R) (hX : Kept (fun _ => False) w0 X) (hs : w0.heap.size ≤ sb) (hb : B ≤ w0.heap.size) (hp : ChainPost X W sb 0 n f R Sb ev cu) : Below B X W :=
  hp.kept.below (fun k e => by
    rcases e with e | ⟨k', _, h3, e⟩
    · omega
    · rw [e]; exact hB.csGe k' (Nat.zero_le _) h3) (Nat.le_trans hb hX.size)

theorem nbLoc (b k : Nat) (w : World) : Calls Tryf.prog 38 #[.pointer (some ⟨b, k, none⟩)] w fun e w' => e = .returned (.pointer (some ⟨b, k + 3, none⟩)) ∧ w = w' := by
  go_enter Tryf.func38, Tryf.ntmps38
  go_wp2
  go_ret
  exact ⟨rfl, rfl⟩
theorem locVar : ∀ b w, (method 318 47 (.pointer (some ⟨b, 0, none⟩)) "Loc").run Tryf.prog w = .ok (38, .pointer (some ⟨b, 1, none⟩)) w := fun _ _ => by kernel_rfl

theorem infoPv : ∃ i, Tryf.prog.info? 47 = some i ∧ i.comparable = true := by
  have h : (Tryf.prog.info? 47).map (fun i => i.comparable) = some true := by kernel_rfl
  cases hi : Tryf.prog.info? 47 with
  | none => rw [hi] at h; cases h
  | some i => rw [hi] at h; exact ⟨i, rfl, by simpa using h⟩
theorem eqI {W : World} {a b : Nat} {ca cb : Array Value} {ta tb : TypeId} (hne : a ≠ b) (ha : W.heap[a]? = some (.cells ca ta (0, 0))) (hb : W.heap[b]? = some (.cells cb tb (0, 0))) :
    (binOp .eql 36 (.iface 47 (.pointer (some ⟨a, 0, none⟩))) (.iface 47 (.pointer (some ⟨b, 0, none⟩)))).run Tryf.prog W = .ok (.bool false) W := by
  obtain ⟨i, hi, hc⟩ := infoPv
  obtain ⟨j, hj, hjs⟩ := info_size (P := Tryf.prog) (T := 66) (n := 10) (by kernel_rfl)
  exact run_eql_iface_ptr_other W Tryf.underlying36 Tryf.underlying47 hi hc hj (by rw [hjs]; decide) (fun e => hne (by cases e; rfl)) ha hb
theorem neI (W : World) (a : Nat) : (binOp .neq 36 (.iface 47 (.pointer (some ⟨a, 0, none⟩))) (.iface 47 (.pointer (some ⟨a, 0, none⟩)))).run Tryf.prog W = .ok (.bool false) W := by
  obtain ⟨i, hi, hc⟩ := infoPv
  obtain ⟨j, hj, _⟩ := info_size (P := Tryf.prog) (T := 66) (n := 10) (by kernel_rfl)
  simp only [binOp]
  simp [Op.equal, Op.maxDepth, run_equalIn_iface_ptr_same W 9998 ⟨a, 0, none⟩ Tryf.underlying36 Tryf.underlying47 hi hc hj]
theorem neF (W : World) (a : Addr) : (binOp .neq 34 (.pointer (some a)) (.pointer (some a))).run Tryf.prog W = .ok (.bool false) W := by
  obtain ⟨t, ht, _⟩ := info_size (P := Tryf.prog) (T := 39) (n := 7) (by kernel_rfl)
  exact Lib.run_neq_ptr_same (w := W) a Tryf.underlying34 ht
theorem neIf (W : World) (a : Addr) : (binOp .neq 44 (.pointer (some a)) (.pointer (some a))).run Tryf.prog W = .ok (.bool false) W := by
  obtain ⟨t, ht, _⟩ := info_size (P := Tryf.prog) (T := 46) (n := 2) (by kernel_rfl)
  exact Lib.run_neq_ptr_same (w := W) a Tryf.underlying44 ht
theorem eqF {W : World} {a b : Nat} {ca cb : Array Value} {ta tb : TypeId} (hne : a ≠ b) (ha : W.heap[a]? = some (.cells ca ta (0, 0))) (hb : W.heap[b]? = some (.cells cb tb (0, 0))) :
    (binOp .eql 34 (.pointer (some ⟨a, 0, none⟩)) (.pointer (some ⟨b, 0, none⟩))).run Tryf.prog W = .ok (.bool false) W := eq_heads (n := 7) Tryf.underlying34 (by kernel_rfl) (by decide) hne ha hb 0
/-- The cells of one level. -/
structure LevCells (M : Nat) (W : World) (H E K S n : Nat) (f : Nat → Lev) (R : Nat → Rec) (Sb : Nat → Nat) (ev : Nat → Value) (q : Nat) : Prop where
  hq : W.cell? ⟨H, q, none⟩ = some (.pointer (some ⟨(R q).fs, 0, none⟩))
  eq : (f q).en = false → W.cell? ⟨E, q, none⟩ = some (.pointer (some ⟨(R q).e, 0, none⟩))
  kq : W.cell? ⟨K, q, none⟩ = some (.slice (some ⟨(R q).cv, 0, none⟩) (f q).ct.length (f q).ct.length)
  sq : W.cell? ⟨S, q, none⟩ = some (.slice (some ⟨(R q).cs, 0, none⟩) (f q).ct.length (f q).ct.length)
  s2 : W.cell? ⟨Sb q, 2, none⟩ = some (.slice (some ⟨(R q).cs, 0, none⟩) (f q).ct.length (f q).ct.length)
  s3 : W.cell? ⟨Sb q, 3, none⟩ = some (newOuter n Sb q)
  s4 : W.cell? ⟨Sb q, 4, none⟩ = some (ev q)
  s5 : W.cell? ⟨Sb q, 5, none⟩ = some (.string (f q).vn)
  g2 : W.cell? ⟨(R q).fs, 2, none⟩ = some (.slice (some ⟨(R q).cs, 0, none⟩) (f q).ct.length (f q).ct.length)
  g3 : W.cell? ⟨(R q).fs, 3, none⟩ = some (outerOf n R q)
  g4 : W.cell? ⟨(R q).fs, 4, none⟩ = some (evOf (f q) (R q))
  g5 : W.cell? ⟨(R q).fs, 5, none⟩ = some (.string (f q).vn)
theorem Fin.cells {M : Nat} {W : World} {H E K S n : Nat} {f : Nat → Lev} {R : Nat → Rec} {Sb : Nat → Nat} {ev : Nat → Value} {cu : Nat → Nat → Value} (h : Fin M W H E K S n f R Sb ev cu) {q : Nat} (hq : q < n) : LevCells M W H E K S n f R Sb ev q := by
  have s := h.spec q hq
  have g := h.head q hq
  refine ⟨(h.heads.cell hq).1, fun he => ?_, (h.conds.cell hq).1, (h.slots.cell hq).1, (cell_of_row _ _ 2 _ _ _ s).trans rfl, (cell_of_row _ _ 3 _ _ _ s).trans rfl, (cell_of_row _ _ 4 _ _ _ s).trans rfl, (cell_of_row _ _ 5 _ _ _ s).trans rfl, (cell_of_row _ _ 2 _ _ _ g).trans rfl, (cell_of_row _ _ 3 _ _ _ g).trans rfl, (cell_of_row _ _ 4 _ _ _ g).trans rfl, (cell_of_row _ _ 5 _ _ _ g).trans rfl⟩
  exact (h.exprs.cell hq).1.trans (congrArg some (if_pos he))

end Fr
end Go.Proofs.YtpcoeakcnmeblaaFmt
