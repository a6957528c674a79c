/-
  n008_147: mark, one answer for one string; the array as Clone reads it.
-/
import Derived.Test.YtegabjiaekfmbaaFmtArH
import Derived.Test.YtegabjiaekfmbaaFmtArG
namespace Go.Proofs.YtegabjiaekfmbaaFmt
open Go Go.RowKit
namespace Arr

theorem markEx (s : ByteArray) : ∃ t : ByteArray, ∀ w, Calls Tryf.prog 13 #[.string s] w fun e w' => e = .returned (.string t) ∧ w' = w := by
  cases h : s.toList.isEmpty with
  | true =>
    refine ⟨⟨#[35]⟩, fun w => ?_⟩
    go_enter Tryf.func13, Tryf.ntmps13
    go_wp2
    go_ret
    exact ⟨rfl, rfl⟩
  | false =>
    refine ⟨⟨#[]⟩, fun w => ?_⟩
    go_enter Tryf.func13, Tryf.ntmps13
    go_wp2
    go_ret
    exact ⟨rfl, rfl⟩

theorem ctxIs {B : Nat} {W : World} {a : Option Addr} {c : Option ByteArray} (h : CtxNew B W a c) : CtxIs W a c := by
  cases c with
  | none => exact h
  | some t =>
    obtain ⟨g, _, h2, h3⟩ := h
    exact ⟨g, h2, (cell_of_row _ _ 0 _ _ _ h3).trans rfl⟩
theorem freeAt_len (md : Nat) (id : ByteArray) (fz : List ByteArray) (h : fz.length ≤ 1048576) : (freeAt md id fz).length ≤ 1048576 := by
  unfold freeAt
  split
  · simp
  · split
    · exact h
    · simp
theorem FreeSt.len {B : Nat} {W : World} {a : Option Addr} {n c : Nat} {zs : List ByteArray} (h : FreeSt B W (.slice a n c) zs) : zs.length = n := by
  rcases h with ⟨e1, e2⟩ | ⟨g, cap, e1, _⟩
  · rw [e2]; exact (Value.slice.inj e1).2.1.symm
  · exact (Value.slice.inj e1).2.1.symm
/-- The source, as Clone's contract wants it. -/
theorem arrAt {w W : World} {A O n m : Nat} {tc : Bool} {va : Option Addr} {vc : Nat} {ca cv : Option Addr} {fm : Int} {zs fz : List ByteArray} {vb : Nat → Nat} {nb : Nat → NBase} {B : Nat} {c1 c2 : Option ByteArray} (h : ArrSt w W A O n n m tc va vc ca cv fm zs fz vb nb) (hn : n ≤ 65536) (hm : m ≤ 65536) (hfl : fz.length = m) (hca : CtxNew B W ca c1) (hcv : CtxNew B W cv c2) :
    ArrAt W A n tc { nz with ca := ca, va := va, vn := m, vc := vc } fz c1 (fun i => .iface 57 (.pointer (some ⟨vb i, 0, none⟩))) (fun _ => .slice none 0 0) (fun i => zs.getD i ByteArray.empty) nb (fun i => freeAt (modeAt fm i) (zs.getD i ByteArray.empty) fz) c2 := by
  obtain ⟨⟨ev, hA, hown⟩, _, hnd, hfr, _, _, _⟩ := h
  obtain ⟨ea, ec, rfl⟩ := own_slice hown
  refine ⟨⟨ea, ec, hA, fun hp => ?_, fun e => ?_⟩, ⟨hfr.strs (by omega), hfl, by show m ≤ 1048576; omega, ctxIs hca⟩, fun i hi => ?_, fun i _ => ⟨rfl, rfl⟩, by omega⟩
  · obtain ⟨g, c', cur, e, _, hg⟩ := own_some hown hp
    obtain rfl : ea = some ⟨g, 0, none⟩ := (Value.slice.inj e).1
    refine ⟨g, rfl, cur, hg, fun i hi => ?_⟩
    have h1 := hown.cellAt (i * 2) (by omega)
    have h2 := hown.cellAt (i * 2 + 1) (by omega)
    rw [cell_of_row _ _ _ _ _ _ hg] at h1 h2
    exact ⟨h1.trans (elts_get vb n i hi).1, h2.trans (elts_get vb n i hi).2⟩
  · rcases hown.2 with ⟨_, h0⟩ | ⟨g, cap, cur, e2, _⟩
    · exact h0
    · rw [e] at e2; cases e2
  · have hi' := hnd i hi
    have hlen := FreeSt.len hi'.free
    have hle := freeAt_len (modeAt fm i) (zs.getD i ByteArray.empty) fz (by omega)
    refine ⟨vb i, rfl, hi'.row, hi'.free.strs hle, hlen, by omega, ?_⟩
    rw [hi'.eq]
    exact ctxIs hcv

end Arr
end Go.Proofs.YtegabjiaekfmbaaFmt
