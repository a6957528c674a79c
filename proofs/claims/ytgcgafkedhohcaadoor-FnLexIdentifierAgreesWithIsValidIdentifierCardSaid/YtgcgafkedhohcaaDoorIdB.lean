/-
  IsValidIdentifier, at a text whose first bytes are an identifier's.
-/
import Derived.Test.YtgcgafkedhohcaaDoorIdA
import Derived.Laws.RangeAny
import Derived.Lib.RuneLoops
namespace Go.Proofs.YtgcgafkedhohcaaDoor
open Go Go.RowKit Go.Shelf

def validB (s : ByteArray) (k : Nat) : Bool := decide (k = s.size) && (kwKind s == 10)

set_option maxHeartbeats 1600000 in
set_option maxRecDepth 100000 in
theorem isValidId (s : ByteArray) (k : Nat) (h : IdRun s 0 k) (h1 : 1 ≤ k) (hf : idF (byteAt s 0) = true) (hs : s.size ≤ 1099511627775) (w : World) :
    Calls Tryd.prog 16 #[.string s] w fun e w' => e = .returned (.bool (validB s k)) ∧ Below w.heap.size w w' := by
  have HR := Lib.hid h
  have HF := Lib.hid hf
  have hfit := h.fit
  have hne : ((s.size : Int) == 0) = false := beq_eq_false_iff_ne.2 (by omega)
  clear h hf
  go_enter Tryd.func16, Tryd.ntmps16
  go_wp2
  go_loopw [2] (fun v wr => ∃ p : Nat, v = .bool false ∧ p ≤ k ∧ wr.heap[w.heap.size]? = some (.stringIter s p) ∧ Below w.heap.size w wr) (fun _ wr => s.size - wr.iterPos w.heap.size)
  case atStart =>
    refine ⟨0, rfl, Nat.zero_le _, ?_, (Below.refl _ w).alloc (Nat.le_refl _) _⟩
    have := World.iter_heap w s 0
    simpa using this
  case round =>
    obtain ⟨p, rfl, hpk, hit, hbw⟩ := hrel
    by_cases hp : p < s.size
    · have hnx : ∀ ty, (Instr.next (.pointer (some ⟨w.heap.size, 0, none⟩)) true ty).run Tryd.prog wr = _ := fun ty => Lib.run_next_any_at wr w.heap.size s p ty hit hp
      have hit2 := Lib.iterAt_heap wr w.heap.size s p (p + (Utf8.decode s p).2) hit
      have hbw2 := Lib.below_iterAt hbw (k := w.heap.size) (by omega) s (p + (Utf8.decode s p).2)
      by_cases hpk2 : p < k
      · have hall := HR.out.all p hpk2
        rw [Nat.zero_add] at hall
        have hlow := idC_low hall
        have hd := decode_low s p hp (by omega)
        have hd1 : (Utf8.decode s p).1 = byteAt s p := by rw [hd]
        have hd2 : (Utf8.decode s p).2 = 1 := by rw [hd]
        rw [hd2] at hit2 hbw2
        have HIT := Lib.hid hit
        have HIT2 := Lib.hid hit2
        have HD := Lib.hid hall
        clear hall hlow hd hit hit2
        by_cases hp0 : p = 0
        · subst hp0
          have HF2 := Lib.hid HF.out
          go_wp2_with fail
          refine (idF_calls _ _).mono ?_
          rw [HF2.out]
          rintro e w2 ⟨rfl, rfl⟩
          go_wp2
          go_roundw
          case rel => exact ⟨1, rfl, by omega, HIT2.out, hbw2⟩
          case measure =>
            simp only [World.iterPos, HIT2.out, HIT.out]
            omega
        · have hp1 : ((p : Int) == 0) = false := beq_eq_false_iff_ne.2 (by omega)
          go_wp2_with fail
          refine (idC_calls _ _).mono ?_
          rw [HD.out]
          rintro e w2 ⟨rfl, rfl⟩
          go_wp2
          go_roundw
          case rel => exact ⟨p + 1, rfl, by omega, HIT2.out, hbw2⟩
          case measure =>
            simp only [World.iterPos, HIT2.out, HIT.out]
            omega
      · obtain rfl : p = k := by omega
        have hst : idC (Utf8.decode s p).1 = false := by
          rcases HR.out.stop with e1 | ⟨_, e1⟩
          · omega
          · rw [Nat.zero_add] at e1
            exact e1
        have hp1 : ((p : Int) == 0) = false := beq_eq_false_iff_ne.2 (by omega)
        have HST := Lib.hid hst
        have hv : validB s p = false := by unfold validB; rw [decide_eq_false (by omega)]; rfl
        have HVB := Lib.hid hv
        clear hst hit hit2 hv
        go_wp2_with fail
        refine (idC_calls _ _).mono ?_
        rw [HST.out]
        rintro e w2 ⟨rfl, rfl⟩
        go_wp2
        go_ret
        rw [HVB.out]
        exact ⟨rfl, hbw2⟩
    · have hnx : ∀ ty, (Instr.next (.pointer (some ⟨w.heap.size, 0, none⟩)) true ty).run Tryd.prog wr = _ := fun ty => Lib.run_next_end_at wr w.heap.size s p ty hit hp
      obtain rfl : p = k := by omega
      have hv : validB s p = (kwKind s == 10) := by unfold validB; rw [decide_eq_true (by omega)]; rfl
      have HVB := Lib.hid hv
      clear hv
      go_wp2_with fail
      refine (kw_calls s _).mono ?_
      rintro e w2 ⟨rfl, rfl⟩
      go_wp2
      go_ret
      rw [HVB.out]
      exact ⟨rfl, hbw⟩

end Go.Proofs.YtgcgafkedhohcaaDoor
