/-
  What the frame of a law's row needs, whatever the types of its arguments: if the call returns true and below the heap's old size nothing has turned, then the row's post holds. No program is named here.
-/
import Derived.ProofKit
import Derived.OpenVars
import Derived.OpenShut
namespace Go.Proofs.YtpcoeakcnmeblaaFmt.Frame
open Go Go.RowKit Go.ChangeShapes Go.WideShapes

def typesRowed (P : Program) (ts : List TypeId) : Bool := ts.all fun t => P.readableRec t && decide (t < P.types.size)

theorem trodAll_below {H : Type} {enc : TypeId × Value → H} {P : Program} (hl : laidOutB P = true) {W W' : World} (hb : Below W.heap.size W W') :
    ∀ {ts : List TypeId} {vs : List Value} {ds : List (DataW H)} {ps : List MemPlace}, typesRowed P ts = true → (∀ x ∈ ps, x.block < W.heap.size) →
      DataW.TrodAll enc P W 0 (fun _ => true) true ts vs ds ps → DataW.TrodAll enc P W' 0 (fun b => decide (b < W.heap.size)) true ts vs ds ps
  | [], [], [], _, _, _, h => h
  | t :: ts, v :: vs, d :: ds, ps, ht, hp, h => by
    obtain ⟨p, q, h1, h2, e⟩ := h
    simp only [typesRowed, List.all_cons, Bool.and_eq_true] at ht
    refine ⟨p, q, ?_, ?_, e⟩
    · exact Below.trod hl ht.1.1 (of_decide_eq_true ht.1.2) h1 hb (fun x hx => hp x (by rw [e]; simp [hx]))
    · exact trodAll_below hl hb (by simpa [typesRowed] using ht.2) (fun x hx => hp x (by rw [e]; simp [hx])) h2
  | [], [], _ :: _, _, _, _, h => h.elim
  | [], _ :: _, _, _, _, _, h => h.elim
  | _ :: _, [], _, _, _, _, h => h.elim
  | _ :: _, _ :: _, [], _, _, _, h => h.elim

/-- The post of a law's row, out of 'true' and 'Below'. -/
theorem post_true {H : Type} {enc : TypeId × Value → H} {P : Program} {f : Func} {s : ChangeSpec} {W W' : World} {args : Array Value} {ds gs : List (DataW H)} {before : List MemPlace} {tb : TypeId}
    (hl : laidOutB P = true) (ht : typesRowed P f.params.toList = true) (hv : varsRowed P s.vars = true) (hr : f.resultTypes = #[tb]) (hbool : P.underlying tb = some .bool)
    (hW : DataW.Whole enc P f.params.toList s.vars false W args.toList ds gs before) (hs : s.fn H (ds ++ gs) = { results := [.lit (.bool true)], args := ds, vars := gs })
    (hb : Below W.heap.size W W') :
    s.post enc P f false true false false W args (.bool true) W' := by
  have hW0 := hW
  obtain ⟨p, q, hA, hV, rfl, _, _⟩ := hW
  have hlt : ∀ x ∈ p ++ q, x.block < W.heap.size := hW0.lt
  refine ⟨ds, gs, p ++ q, [], p, q, hW0, ?_, ?_, ?_, hb.frame _, fun h => by cases h⟩
  · rw [hs, hr]; exact trodAll_mk1 (shut_bool hbool true)
  · rw [hs]; exact trodAll_below hl hb ht (fun x hx => hlt x (by simp [hx])) hA
  · rw [hs]; exact Below.trodVars hl hb hv hV

section
variable {H : Type} {enc : TypeId × Value → H} {P : Program} {w : World} {spare : Nat → Bool}
theorem vars_length : ∀ {ns : List String} {gs : List (DataW H)} {ps : List MemPlace}, DataW.TrodVars enc P w spare ns gs ps → gs.length = ns.length
  | [], [], _, _ => rfl
  | [], _ :: _, _, h => h.elim
  | _ :: _, [], _, h => h.elim
  | _ :: ns, _ :: gs, _, h => by
    obtain ⟨_, _, _, _, _, _, _, _, _, _, hs, _⟩ := h
    simp [vars_length hs]
theorem vars1 {n1 : String} {gs : List (DataW H)} {ps : List MemPlace} (h : DataW.TrodVars enc P w spare [n1] gs ps) : ∃ g1, gs = [g1] := by
  match gs, vars_length h with
  | [g1], _ => exact ⟨g1, rfl⟩
theorem vars2 {n1 n2 : String} {gs : List (DataW H)} {ps : List MemPlace} (h : DataW.TrodVars enc P w spare [n1, n2] gs ps) : ∃ g1 g2, gs = [g1, g2] := by
  match gs, vars_length h with
  | [g1, g2], _ => exact ⟨g1, g2, rfl⟩
theorem vars3 {n1 n2 n3 : String} {gs : List (DataW H)} {ps : List MemPlace} (h : DataW.TrodVars enc P w spare [n1, n2, n3] gs ps) : ∃ g1 g2 g3, gs = [g1, g2, g3] := by
  match gs, vars_length h with
  | [g1, g2, g3], _ => exact ⟨g1, g2, g3, rfl⟩
end

end Go.Proofs.YtpcoeakcnmeblaaFmt.Frame
