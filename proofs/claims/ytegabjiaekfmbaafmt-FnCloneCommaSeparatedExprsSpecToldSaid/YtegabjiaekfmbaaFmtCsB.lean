/-
  The laws' shims on comma-separated expressions (n008_19).
-/
import Derived.Test.YtegabjiaekfmbaaFmtCsA
import Derived.Laws.Rows
namespace Go.Proofs.YtegabjiaekfmbaaFmt
open Go Go.RowKit

set_option maxRecDepth 100000 in
theorem zzCseOfVar (b : Nat) (w : World) :
    Calls Tryf.prog 36 #[.pointer (some ⟨b, 0, none⟩)] w fun e w' => e = .returned (.agg #[.iface 57 (.pointer (some ⟨b, 0, none⟩)), .slice none 0 0]) ∧ Below w.heap.size w w' := by
  go_enter Tryf.func36, Tryf.ntmps36
  go_wp2
  (try simp only [Exit.inBlock, Exit.then])
  refine bodyPost_ret (results_cell_row rfl _ _ _ _ _ _ _ rfl (get_new rfl) Tryf.underlying56 rfl (by kernel_rfl)) rfl ?_
  exact ⟨rfl, by refine Below.alloc (Below.refl _ w) (Nat.le_refl _) _⟩
theorem zzCseVar (b : Nat) (fa : Option Addr) (fn fc : Nat) (w : World) :
    Calls Tryf.prog 39 #[.agg #[.iface 57 (.pointer (some ⟨b, 0, none⟩)), .slice fa fn fc]] w fun e w' => e = .returned (.pointer (some ⟨b, 0, none⟩)) ∧ Below w.heap.size w w' := by
  go_enter Tryf.func39, Tryf.ntmps39
  go_wp2
  go_ret
  exact ⟨rfl, by refine Below.alloc (Below.refl _ w) (Nat.le_refl _) _⟩
theorem zzCseNil (fa : Option Addr) (fn fc : Nat) (w : World) :
    Calls Tryf.prog 38 #[.agg #[.nilIface, .slice fa fn fc]] w fun e w' => e = .returned (.bool true) ∧ Below w.heap.size w w' := by
  go_enter Tryf.func38, Tryf.ntmps38
  go_wp2
  go_ret
  exact ⟨rfl, by refine Below.alloc (Below.refl _ w) (Nat.le_refl _) _⟩
theorem zzCseNot (b : Nat) (fa : Option Addr) (fn fc : Nat) (w : World) :
    Calls Tryf.prog 38 #[.agg #[.iface 57 (.pointer (some ⟨b, 0, none⟩)), .slice fa fn fc]] w fun e w' => e = .returned (.bool false) ∧ Below w.heap.size w w' := by
  go_enter Tryf.func38, Tryf.ntmps38
  go_wp2
  go_ret
  exact ⟨rfl, by refine Below.alloc (Below.refl _ w) (Nat.le_refl _) _⟩
theorem zzClone (a : Option Addr) (n c : Nat) (vs fs : Nat → Value) (xs : Nat → Leaf) (w : World) (hl : 0 < n → ∃ L, a = some ⟨L, 0, none⟩ ∧ CseRow w L n vs fs) (h0 : a = none → n = 0) (hx : ∀ i, i < n → LeafAt w (vs i) (xs i)) (h1 : ∀ i, i < n → (vs i).oneCell' = true ∧ (fs i).oneCell' = true) (hn : n ≤ 1048576) :
    Calls Tryf.prog 37 #[.slice a n c] w (CsePost n fs xs w) := by
  have H := Lib.hid (cloneCse a n c vs fs xs w hl h0 hx h1 hn)
  clear hl h0 hx h1
  go_enter Tryf.func37, Tryf.ntmps37
  go_wp2_with fail
  refine H.out.mono ?_
  rintro e w' ⟨g, cap, us, rfl, h2⟩
  have H2 := Lib.hid h2
  clear h2
  go_wp2
  go_ret
  exact ⟨g, cap, us, rfl, H2.out⟩

end Go.Proofs.YtegabjiaekfmbaaFmt
