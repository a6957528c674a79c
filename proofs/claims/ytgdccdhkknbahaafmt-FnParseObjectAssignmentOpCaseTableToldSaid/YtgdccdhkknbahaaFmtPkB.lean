/-
  A parser over tokens of given kinds and texts (n008_34).
-/
import Derived.Test.YtgdccdhkknbahaaFmtPkA
import Derived.StillTailTactics
import Derived.Deep.DrawnRows
import Derived.Deep.MidRow
namespace Go.Proofs.YtgdccdhkknbahaaFmt
open Go Go.RowKit

theorem infoTok : (Tryf.prog.info? 64).map (fun i => (i.zero, i.size, i.bytes)) = some (some (.agg #[.slice none 0 0, .string ⟨#[]⟩, .string ⟨#[]⟩, .string ⟨#[]⟩, .pointer none, .string ⟨#[]⟩, .int .i64 0, .int .i64 0, .int .i64 0, .int .i64 0, .int .i64 0]), 11, 136) := by kernel_rfl
/-- Block g holds n tokens; the first k of them bear these kinds and texts. -/
def TokRow (w : World) (g n k : Nat) (ks : List Int) (zs : List ByteArray) : Prop :=
  g < w.heap.size ∧ (∀ i, i < n → w.there g (i * 11) 11) ∧ ∀ i, i < k → w.cell? ⟨g, i * 11 + 10, none⟩ = some (.int .i64 (ks.getD i 0)) ∧ w.cell? ⟨g, i * 11 + 1, none⟩ = some (.string (zs.getD i ByteArray.empty))
theorem TokRow.init {w : World} {g n : Nat} (ks : List Int) (zs : List ByteArray) {C : Array Value} {t : TypeId} (hb : w.heap[g]? = some (.cells C t (0, 0))) (hs : n * 11 ≤ C.size) : TokRow w g n 0 ks zs := by
  refine ⟨(Array.getElem?_eq_some_iff.1 hb).1, fun i hi j hj => ?_, fun i hi => absurd hi (by omega)⟩
  have hlt : i * 11 + j < C.size := by omega
  refine ⟨?_, by simp [World.frozen?, hb]⟩
  rw [cell_of_row w g (i * 11 + j) _ _ _ hb, Array.getElem?_eq_getElem hlt]
  rfl
def tokVals (k : Int) (d : ByteArray) : List Value := [.slice none 0 0, .string d, .string ⟨#[]⟩, .string ⟨#[]⟩, .pointer none, .string ⟨#[]⟩, .int .i64 0, .int .i64 0, .int .i64 0, .int .i64 0, .int .i64 k]
theorem setCells_size (b : Nat) : ∀ (vs : List Value) (o : Nat) (w : World), (w.setCells b o vs).heap.size = w.heap.size
  | [], _, _ => rfl
  | v :: r, o, w => by rw [World.setCells, setCells_size b r]; simp [World.setCell]
theorem setCells_below {B b : Nat} {a : World} (hB : B ≤ b) : ∀ (vs : List Value) (o : Nat) (w : World), Below B a w → Below B a (w.setCells b o vs)
  | [], _, _, h => h
  | v :: r, o, w, h => by rw [World.setCells]; exact setCells_below hB r _ _ (h.setCell hB _)
theorem TokRow.step {w : World} {g n k : Nat} {ks : List Int} {zs : List ByteArray} {kv : Int} {zv : ByteArray} (h : TokRow w g n k ks zs) (hk : k < n) (e1 : ks.getD k 0 = kv) (e2 : zs.getD k ByteArray.empty = zv) : TokRow (w.setCells g (k * 11) (tokVals kv zv)) g n (k + 1) ks zs := by
  obtain ⟨h0, h1, h2⟩ := h
  have hin : ∀ i, i < 11 → (w.cell? ⟨g, k * 11 + i, none⟩).isSome = true := fun i hi => (h1 k hk i hi).1
  refine ⟨by rw [setCells_size]; exact h0, fun i hi => World.there_setCells (h1 i hi) _ _ _, fun i hi => ?_⟩
  by_cases e : i = k
  · subst e
    rw [e1, e2]
    exact ⟨World.cell?_setCells_in g (tokVals kv zv) (i * 11) w hin 10 (by simp [tokVals]), World.cell?_setCells_in g (tokVals kv zv) (i * 11) w hin 1 (by simp [tokVals])⟩
  · obtain ⟨a1, a2⟩ := h2 i (by omega)
    rw [World.cell?_setCells_out g _ (k * 11) w ⟨g, i * 11 + 10, none⟩ (fun _ _ => .inl (by show i * 11 + 10 < k * 11; omega)), World.cell?_setCells_out g _ (k * 11) w ⟨g, i * 11 + 1, none⟩ (fun _ _ => .inl (by show i * 11 + 1 < k * 11; omega))]
    exact ⟨a1, a2⟩
theorem TokRow.below {w w' : World} {g n k B : Nat} {ks : List Int} {zs : List ByteArray} (h : TokRow w g n k ks zs) (hb : Below B w w') (hg : g < B) : TokRow w' g n k ks zs := by
  obtain ⟨h0, h1, h2⟩ := h
  refine ⟨Nat.lt_of_lt_of_le h0 hb.size, fun i hi j hj => ?_, fun i hi => ?_⟩
  · rw [hb.cell (p := ⟨g, i * 11 + j, none⟩) hg, hb.frozen (p := ⟨g, i * 11 + j, none⟩) hg]; exact h1 i hi j hj
  · rw [hb.cell (p := ⟨g, i * 11 + 10, none⟩) hg, hb.cell (p := ⟨g, i * 11 + 1, none⟩) hg]; exact h2 i hi

theorem makePar (a : Option Addr) (n c : Nat) (w : World) :
    Calls Tryf.prog 31 #[.slice a n c] w fun e w' => e = .returned (.pointer (some ⟨w.heap.size, 0, none⟩)) ∧ w.alloc (.cells #[.slice a n c, .int .i64 0] 81 (0, 0)) = w' := by
  go_enter Tryf.func31, Tryf.ntmps31
  go_wp2
  go_ret
  exact ⟨rfl, rfl⟩

def NewPar (n : Nat) (cur : Int) (ks : List Int) (zs : List ByteArray) (w : World) (e : Ending) (w' : World) : Prop :=
  (∃ pb g, e = .returned (.pointer (some ⟨pb, 0, none⟩)) ∧ w'.heap[pb]? = some (.cells #[.slice (some ⟨g, 0, none⟩) n n, .int .i64 cur] 81 (0, 0)) ∧ TokRow w' g n n ks zs ∧ w.heap.size ≤ g ∧ g < pb) ∧ Below w.heap.size w w'

set_option maxHeartbeats 1600000 in
set_option maxRecDepth 100000 in
theorem newPar (ka : Option Addr) (n kc : Nat) (ks : List Int) (cur : Int) (a : Option Addr) (c : Nat) (zs : List ByteArray) (w : World) (hk : IntsAt w w.heap.size (.slice ka n kc) ks) (hkl : ks.length = n) (hz : StrsAt w w.heap.size (.slice a n c) zs) (hzl : zs.length = n) (hn : n ≤ 1048576) (hp : 0 < n) :
    Calls Tryf.prog 23 #[.slice ka n kc, .slice a n c, .int .i64 cur] w (NewPar n cur ks zs w) := by
  obtain ⟨i0, hi, hz0, hz1, hz2⟩ := info_parts infoTok
  obtain ⟨kb, ko, rfl, hkb, hkk⟩ := hk.cell (k := 0) (by omega)
  obtain ⟨zb, zo, rfl, hzb, hzz⟩ := hz.cell (k := 0) (by omega)
  rw [hkl] at hkk
  rw [hzl] at hzz
  have HK := Lib.hid hkk
  have HZ := Lib.hid hzz
  clear hk hz hkk hzz hkl hzl
  go_enter Tryf.func23, Tryf.ntmps23
  go_wp2_with (refine wpList_make_full _ rfl _ _ 32 rfl w.heap.size 64 i0 _ 11 Tryf.underlying32 hi hz0 hz1 .i64 .i64 _ _ n rfl rfl rfl rfl (by rw [hz2]; omega) (by unfold maxLen; omega) (Nat.le_refl _) ?_; intro w1 hown1 hg1)
  have HT1 : Hid (TokRow w1 w.heap.size n 0 ks zs) := Lib.hid (by
    rcases hown1.2 with ⟨hv, _⟩ | ⟨g, cap, cur, hv, _, hh, h1, _, h3, h4⟩
    · cases hv
    · cases hv
      exact TokRow.init ks zs hh (by omega))
  have hb1 : Below w.heap.size w w1 := (Below.refl _ _).grown hg1 (Nat.le_refl _) (by simp)
  have hlt1 : w.heap.size < w1.heap.size := HT1.out.1
  clear hown1 hg1
  go_wp2
  go_loopw [8] (fun i wr => ∃ k : Nat, k ≤ n ∧ i = .int .i64 k ∧ Hid (TokRow wr w.heap.size n k ks zs) ∧ Below w.heap.size w wr) (fun i _ => n - (intOf i).toNat)
  case atStart => exact ⟨0, Nat.zero_le _, rfl, HT1, hb1⟩
  case round =>
    obtain ⟨k, hk, rfl, HT, hbw⟩ := hrel
    have hsz := hbw.size
    by_cases hlt : k < n
    · have c1 : wr.cell? ⟨kb, ko + k, none⟩ = some (.int .i64 (ks.getD k 0)) := (hbw.cell (p := ⟨kb, ko + k, none⟩) hkb).trans (HK.out k hlt)
      have c2 : wr.cell? ⟨zb, zo + k, none⟩ = some (.string (zs.getD k ByteArray.empty)) := (hbw.cell (p := ⟨zb, zo + k, none⟩) hzb).trans (HZ.out k hlt)
      have ht := HT.out.2.1 k hlt
      obtain ⟨kv, hkv⟩ : ∃ kv, ks.getD k 0 = kv := ⟨_, rfl⟩
      obtain ⟨zv, hzv⟩ : ∃ zv, zs.getD k ByteArray.empty = zv := ⟨_, rfl⟩
      rw [hkv] at c1
      rw [hzv] at c2
      have HKV := Lib.hid hkv
      have HZV := Lib.hid hzv
      clear hkv hzv
      have hu := Tryf.underlying64
      have hi11 : (Tryf.prog.info? 64).map (·.size) = some 11 := by kernel_rfl
      have i1 : (0 : Int) ≤ (k : Int) := by omega
      have i2 : (k : Int) < (n : Int) := by omega
      go_wp2_with fail
      go_still_tail 12, (by kernel_rfl)
      change wpList _ _ _ _ _ wr.drew
      refine wpList_store_mid (by rfl) _ _ _ (by rfl) w.heap.size (k * 11) _ (by rfl) (by rfl) (by exact ht) hi11 (by simp [Value.oneCell']) ?_
      have HW : Hid (TokRow (wr.drew.setCells w.heap.size (k * 11) (tokVals kv zv)) w.heap.size n (k + 1) ks zs) := Lib.hid (TokRow.step (w := wr.drew) HT.out hlt HKV.out HZV.out)
      have HB : Hid (Below w.heap.size w (wr.drew.setCells w.heap.size (k * 11) (tokVals kv zv))) := Lib.hid (setCells_below (Nat.le_refl _) _ _ _ (drewN_below hbw 1))
      change wpList _ _ _ _ _ (wr.drew.setCells w.heap.size (k * 11) (tokVals kv zv))
      generalize wr.drew.setCells w.heap.size (k * 11) (tokVals kv zv) = w3 at HW HB ⊢
      clear c1 c2 ht hu hi11
      go_wp2
      go_roundw
      case rel => exact ⟨k + 1, by omega, by go_num, HW, HB.out⟩
      case measure => simp [intOf]; omega
    · obtain rfl : k = n := by omega
      go_wp2_with fail
      refine (makePar _ _ _ wr).mono ?_
      rintro e w4 ⟨rfl, hw4⟩
      have r4 : w4.heap[wr.heap.size]? = some (.cells #[.slice (some ⟨w.heap.size, 0, none⟩) k k, .int .i64 0] 81 (0, 0)) := by rw [← hw4]; exact heap_alloc_new wr _
      have b4 : Below w.heap.size w w4 := by rw [← hw4]; exact hbw.alloc hsz _
      have t4 : TokRow w4 w.heap.size k k ks zs := HT.out.below (B := wr.heap.size) (by rw [← hw4]; exact (Below.refl _ wr).alloc (Nat.le_refl _) _) HT.out.1
      have l1 : w4.cell? ⟨wr.heap.size, 1, none⟩ = some (.int .i64 0) := (cell_of_row _ _ 1 _ _ _ r4).trans rfl
      have z1 : w4.frozen? ⟨wr.heap.size, 1, none⟩ = false := by simp [World.frozen?, r4]
      have hgt := HT.out.1
      have HR4 := Lib.hid r4
      have HB4 := Lib.hid b4
      have HT4 := Lib.hid t4
      clear hw4 r4 b4 t4
      go_wp2
      go_ret
      refine ⟨⟨wr.heap.size, w.heap.size, rfl, (Lib.heap_setCell_same HR4.out _).trans (by simp), ?_, Nat.le_refl _, hgt⟩, HB4.out.setCell (by show w.heap.size ≤ wr.heap.size; omega) _⟩
      exact HT4.out.below (B := wr.heap.size) (Below.setCell (p := ⟨wr.heap.size, 1, none⟩) (Below.refl wr.heap.size w4) (Nat.le_refl wr.heap.size) _) hgt

/-- A parser at block pb over tokens in block g. -/
structure ParAt (w : World) (pb g n : Nat) (cur : Nat) (ks : List Int) (zs : List ByteArray) : Prop where
  par : w.heap[pb]? = some (.cells #[.slice (some ⟨g, 0, none⟩) n n, .int .i64 cur] 81 (0, 0))
  row : TokRow w g n n ks zs
  ne : g < pb

theorem peek (pb g n cur : Nat) (ks : List Int) (zs : List ByteArray) (w : World) (h : ParAt w pb g n cur ks zs) (hc : cur < n) (_hn : n ≤ 1048576) :
    Calls Tryf.prog 33 #[.pointer (some ⟨pb, 0, none⟩)] w fun e w' => e = .returned (.pointer (some ⟨g, cur * 11, none⟩)) ∧ ∃ m, w' = w.drewN m := by
  have l0 : w.cell? ⟨pb, 0, none⟩ = some (.slice (some ⟨g, 0, none⟩) n n) := (cell_of_row _ _ 0 _ _ _ h.par).trans rfl
  have l1 : w.cell? ⟨pb, 1, none⟩ = some (.int .i64 cur) := (cell_of_row _ _ 1 _ _ _ h.par).trans rfl
  have i1 : (0 : Int) ≤ (cur : Int) := by omega
  have i2 : (cur : Int) < (n : Int) := by omega
  clear h
  go_enter Tryf.func33, Tryf.ntmps33
  go_wp2_with fail
  go_quiet (fail)
  go_wp2
  go_ret
  exact ⟨rfl, _, rfl⟩
theorem zzPeek (pb g n cur : Nat) (ks : List Int) (zs : List ByteArray) (w : World) (h : ParAt w pb g n cur ks zs) (hc : cur < n) (hn : n ≤ 1048576) :
    Calls Tryf.prog 24 #[.pointer (some ⟨pb, 0, none⟩)] w fun e w' => e = .returned (.pointer (some ⟨g, cur * 11, none⟩)) ∧ ∃ m, w' = w.drewN m := by
  have H := Lib.hid (peek pb g n cur ks zs w h hc hn)
  clear h
  go_enter Tryf.func24, Tryf.ntmps24
  go_wp2_with fail
  refine H.out.mono ?_
  rintro e w' ⟨rfl, m, rfl⟩
  go_wp2
  go_ret
  exact ⟨rfl, m, rfl⟩
theorem pop (pb g n cur : Nat) (ks : List Int) (zs : List ByteArray) (w : World) (h : ParAt w pb g n cur ks zs) (hc : cur < n) (hn : n ≤ 1048576) :
    Calls Tryf.prog 42 #[.pointer (some ⟨pb, 0, none⟩)] w fun e w' => e = .returned (.pointer (some ⟨g, cur * 11, none⟩)) ∧ ∃ m, w' = (w.drewN m).setCell ⟨pb, 1, none⟩ (.int .i64 ((cur + 1 : Nat) : Int)) := by
  have l0 : w.cell? ⟨pb, 0, none⟩ = some (.slice (some ⟨g, 0, none⟩) n n) := (cell_of_row _ _ 0 _ _ _ h.par).trans rfl
  have l1 : w.cell? ⟨pb, 1, none⟩ = some (.int .i64 cur) := (cell_of_row _ _ 1 _ _ _ h.par).trans rfl
  have z1 : w.frozen? ⟨pb, 1, none⟩ = false := by simp [World.frozen?, h.par]
  have i1 : (0 : Int) ≤ (cur : Int) := by omega
  have i2 : (cur : Int) < (n : Int) := by omega
  clear h
  go_enter Tryf.func42, Tryf.ntmps42
  go_wp2_with fail
  go_quiet (fail)
  go_wp2
  go_ret
  exact ⟨rfl, _, rfl⟩
theorem ParAt.drewN {w : World} {pb g n cur : Nat} {ks : List Int} {zs : List ByteArray} (h : ParAt w pb g n cur ks zs) (m : Nat) : ParAt (w.drewN m) pb g n cur ks zs := ⟨h.par, h.row, h.ne⟩
theorem ParAt.popped {w : World} {pb g n cur : Nat} {ks : List Int} {zs : List ByteArray} (h : ParAt w pb g n cur ks zs) (m : Nat) : ParAt ((w.drewN m).setCell ⟨pb, 1, none⟩ (.int .i64 ((cur + 1 : Nat) : Int))) pb g n (cur + 1) ks zs := by
  refine ⟨(Lib.heap_setCell_same (w := w.drewN m) h.par _).trans (by simp), ?_, h.ne⟩
  have h1 : TokRow (w.drewN m) g n n ks zs := h.row
  exact h1.below (B := pb) (Below.setCell (p := ⟨pb, 1, none⟩) (Below.refl pb (w.drewN m)) (Nat.le_refl pb) _) h.ne

def Popped (pb g n cur : Nat) (ks : List Int) (zs : List ByteArray) (v : Value) (w : World) (e : Ending) (w' : World) : Prop :=
  e = .returned (.tuple #[.pointer (some ⟨g, cur * 11, none⟩), v]) ∧ ParAt w' pb g n (cur + 1) ks zs ∧ Below pb w w'
theorem popExpect (pb g n cur : Nat) (ks : List Int) (zs : List ByteArray) (kv : Int) (w : World) (h : ParAt w pb g n cur ks zs) (hc : cur < n) (hn : n ≤ 1048576) (hk : ks.getD cur 0 = kv) :
    Calls Tryf.prog 34 #[.pointer (some ⟨pb, 0, none⟩), .int .i64 kv] w (Popped pb g n cur ks zs .nilIface w) := by
  have H := Lib.hid h
  have HK := Lib.hid hk
  clear h hk
  go_enter Tryf.func34, Tryf.ntmps34
  go_wp2_with fail
  refine (pop pb g n cur ks zs w H.out hc hn).mono ?_
  rintro e w' ⟨rfl, m, hw⟩
  have hP := H.out.popped m
  have hB : Below pb w ((w.drewN m).setCell ⟨pb, 1, none⟩ (.int .i64 ((cur + 1 : Nat) : Int))) := Below.setCell (p := ⟨pb, 1, none⟩) (drewN_below (Below.refl pb w) m) (Nat.le_refl pb) _
  rw [← hw] at hP hB
  have k1 : w'.cell? ⟨g, cur * 11 + 10, none⟩ = some (.int .i64 kv) := by rw [← HK.out]; exact (hP.row.2.2 cur hc).1
  have HP := Lib.hid hP
  have HB := Lib.hid hB
  clear hw hP hB
  go_wp2
  go_ret2
  exact ⟨rfl, HP.out, HB.out⟩
theorem zzPopExpect (pb g n cur : Nat) (ks : List Int) (zs : List ByteArray) (kv : Int) (w : World) (h : ParAt w pb g n cur ks zs) (hc : cur < n) (hn : n ≤ 1048576) (hk : ks.getD cur 0 = kv) :
    Calls Tryf.prog 25 #[.pointer (some ⟨pb, 0, none⟩), .int .i64 kv] w (Popped pb g n cur ks zs (.bool true) w) := by
  have H := Lib.hid (popExpect pb g n cur ks zs kv w h hc hn hk)
  clear h hk
  go_enter Tryf.func25, Tryf.ntmps25
  go_wp2_with fail
  refine H.out.mono ?_
  rintro e w' ⟨rfl, hP, hB⟩
  have HP := Lib.hid hP
  have HB := Lib.hid hB
  clear hP hB
  go_wp2_with fail
  go_quiet (fail)
  go_wp2
  go_ret2
  exact ⟨rfl, HP.out.drewN _, drewN_below HB.out _⟩
theorem zzKind (pb g n cur : Nat) (ks : List Int) (zs : List ByteArray) (i : Nat) (kv : Int) (w : World) (h : ParAt w pb g n cur ks zs) (hi : i < n) (hk : ks.getD i 0 = kv) :
    Calls Tryf.prog 26 #[.pointer (some ⟨g, i * 11, none⟩)] w fun e w' => e = .returned (.int .i64 kv) ∧ w = w' := by
  have k1 := (h.row.2.2 i hi).1
  rw [hk] at k1
  clear h hk
  go_enter Tryf.func26, Tryf.ntmps26
  go_wp2
  go_ret
  exact ⟨rfl, rfl⟩
theorem zzData (pb g n cur : Nat) (ks : List Int) (zs : List ByteArray) (i : Nat) (zv : ByteArray) (w : World) (h : ParAt w pb g n cur ks zs) (hi : i < n) (hz : zs.getD i ByteArray.empty = zv) :
    Calls Tryf.prog 28 #[.pointer (some ⟨g, i * 11, none⟩)] w fun e w' => e = .returned (.string zv) ∧ w = w' := by
  have k1 := (h.row.2.2 i hi).2
  rw [hz] at k1
  clear h hz
  go_enter Tryf.func28, Tryf.ntmps28
  go_wp2
  go_ret
  exact ⟨rfl, rfl⟩
theorem zzCurrT (pb g n cur : Nat) (ks : List Int) (zs : List ByteArray) (w : World) (h : ParAt w pb g n cur ks zs) :
    Calls Tryf.prog 27 #[.pointer (some ⟨pb, 0, none⟩)] w fun e w' => e = .returned (.int .i64 (cur : Int)) ∧ w = w' := by
  have l1 : w.cell? ⟨pb, 1, none⟩ = some (.int .i64 cur) := (cell_of_row _ _ 1 _ _ _ h.par).trans rfl
  clear h
  go_enter Tryf.func27, Tryf.ntmps27
  go_wp2
  go_ret
  exact ⟨rfl, rfl⟩
theorem zzEof (w : World) :
    Calls Tryf.prog 21 #[] w fun e w' => e = .returned (.int .i64 36) ∧ w = w' := by
  go_enter Tryf.func21, Tryf.ntmps21
  go_wp2
  go_ret
  exact ⟨rfl, rfl⟩

end Go.Proofs.YtgdccdhkknbahaaFmt
