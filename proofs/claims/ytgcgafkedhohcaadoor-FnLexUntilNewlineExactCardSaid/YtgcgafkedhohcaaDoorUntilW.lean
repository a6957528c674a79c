/-
  The walk of FnLexUntilNewlineExact, the law itself.
-/
import Derived.Test.YtgcgafkedhohcaaDoorUntilV
namespace Go.Proofs.YtgcgafkedhohcaaDoor.fnLexUntilNewlineExact
open Go Go.RowKit Go.Shelf

theorem bytes_ok (s : ByteArray) (w : World) (h : s.size ≤ 1048576) :
    Calls Tryd.prog 26 #[.string s] w fun e w' => e = .returned (.bool true) ∧ w = w' := by
  go_enter Tryd.func26, Tryd.ntmps26
  go_wp2
  go_ret
  exact ⟨rfl, rfl⟩
theorem bytes_no (s : ByteArray) (w : World) (hs : s.size ≤ maxLen) (h : 1048576 < s.size) :
    Calls Tryd.prog 26 #[.string s] w fun e w' => e = .returned (.bool false) ∧ w = w' := by
  unfold maxLen at hs
  go_enter Tryd.func26, Tryd.ntmps26
  go_wp2
  all_goals go_ret
  all_goals exact ⟨rfl, rfl⟩

/-- What the call hands back, by the bytes' own marks. -/
theorem zpost_eq {s : ByteArray} (hv : ValidU s) {w : World} {e : Ending} {w' : World} (h : ZPost s w e w') {J T k : Nat} (j1 : J ≤ s.size) (j2 : ∀ i, i < J → byteAt s i ≠ 10) (j3 : J = s.size ∨ (J < s.size ∧ byteAt s J = 10))
    (t1 : T ≤ J) (t2 : ∀ i, T ≤ i → i < J → isHws (byteAt s i) = true) (t3 : T = 0 ∨ isHws (byteAt s (T - 1)) = false) (hk : WsRun s J k) :
    e = .returned (.tuple #[.string (s.extract 0 T), .int .i64 ((nlTo s J k - 1 : Nat) : Int), .int .i64 (indTo s J k : Int), .int .i64 ((J + k : Nat) : Int), .int .i64 (1 + (nlTo s J k : Int))]) ∧ Below w.heap.size w w' := by
  obtain ⟨m, k', M, hu, hst, hws, rfl, hb⟩ := h
  have hi := inv_init ⟨#[]⟩ ⟨#[]⟩ s M
  have h0 : (initSt ⟨#[]⟩ ⟨#[]⟩ s M).bn = 0 := rfl
  have hbp := steps_bpos hi h0 hu
  have hno := no_nl hi hu
  have hub := ubuf_valid hv hi h0 hu
  obtain ⟨u1, u2, u3⟩ := trim_ok hv hi h0 hu
  have hle := (hi.steps m).le
  have hinp := (hi.steps m).inp
  generalize (initSt ⟨#[]⟩ ⟨#[]⟩ s M).steps m = L2 at hbp hno hst hws hle hinp
  generalize hUL : ulast (initSt ⟨#[]⟩ ⟨#[]⟩ s M) m = UL at u1 u2 u3
  rw [hub]
  rw [← hbp] at u1 u2 ⊢
  have hstop : L2.bn = s.size ∨ (L2.bn < s.size ∧ byteAt s L2.bn = 10) := by
    rcases hst with e1 | e1
    · by_cases hb' : L2.bn < L2.inp.size
      · rw [LexSt.rune_in hb'] at e1
        omega
      · rw [hinp] at hb'
        exact .inl (by omega)
    · have hb' := rune_some (L := L2) (by rw [e1]; decide)
      rw [LexSt.rune_in hb', hinp] at e1
      rw [hinp] at hb'
      refine .inr ⟨hb', ?_⟩
      by_cases hl : byteAt s L2.bn < 128
      · rw [decode_low s _ hb' hl] at e1
        dsimp only at e1
        omega
      · have := (decode_hi s _ hb' (by omega)).1
        omega
  obtain rfl : J = L2.bn := first_eq (f := fun i => decide (byteAt s i ≠ 10)) j1 (fun i hi' => decide_eq_true (j2 i hi')) (by rcases j3 with a | ⟨a, b⟩; exact .inl a; exact .inr ⟨a, decide_eq_false (by simpa using b)⟩) hle
    (fun i hi' => decide_eq_true (hno i (by rw [h0]; omega) hi')) (by rcases hstop with a | ⟨a, b⟩; exact .inl a; exact .inr ⟨a, decide_eq_false (by simpa using b)⟩)
  obtain rfl : T = UL := last_eq (f := fun i => isHws (byteAt s i)) t1 t2 t3 u1 u2 u3
  obtain rfl := wsRun_eq hk hws
  have hz := nlc_zero s _ j2
  have hn := nlTo_nlc s L2.bn k
  refine ⟨?_, hb⟩
  have e1 : (⟨((s.data.toList.take L2.bn).take T).toArray⟩ : ByteArray) = s.extract 0 T := by
    apply ByteArray.ext
    rw [ByteArray.data_extract]
    apply Array.toList_inj.1
    rw [List.take_take, Nat.min_eq_left t1]
    simp
  rw [e1, hn, hz, Nat.zero_add]

set_option maxHeartbeats 3200000 in
set_option maxRecDepth 100000 in
theorem core111 (s : ByteArray) (J T k : Nat) (w : World) (hz' : s.size ≤ 1048576) (hT : Lib.Utf8Tabs 0 1 w) (j1 : J ≤ s.size) (j2 : ∀ i, i < J → byteAt s i ≠ 10) (j3 : J = s.size ∨ (J < s.size ∧ byteAt s J = 10)) (t1 : T ≤ J) (t2 : ∀ i, T ≤ i → i < J → isHws (byteAt s i) = true) (t3 : T = 0 ∨ isHws (byteAt s (T - 1)) = false) (hk : WsRun s J k) (xj : J = s.size) (xt : T = 0) (xk : J + k = s.size) (xl : lq s J k = 0) :
    Calls Tryd.prog 5 #[.string s] w fun e w' => e = .returned (.bool true) ∧ Below w.heap.size w w' := by
  have HT := Lib.hid hT
  have J2 := Lib.hid j2
  have J3 := Lib.hid j3
  have T2 := Lib.hid t2
  have T3 := Lib.hid t3
  have HK := Lib.hid hk
  have hkf := hk.fit
  have hq1 := lq_le s J k
  have hnl := nlTo_le s J k
  have hin := indTo_le s J k
  clear hT j2 j3 t2 t3 hk
  have hx : decide (J < s.size) = false := decide_eq_false (by omega)
  have xj2 : s.size ≤ J := by omega
  clear xj
  have xt2 : T ≤ 0 := by omega
  clear xt
  obtain ⟨K, hK⟩ : ∃ K, J + k = K := ⟨_, rfl⟩
  have HKK := Lib.hid hK
  have hKJ : J ≤ K := by omega
  have hKs : K ≤ s.size := by omega
  have hxk : decide (K < s.size) = false := decide_eq_false (by omega)
  clear xk
  obtain ⟨Q, hQ⟩ : ∃ Q, lq s J k = Q := ⟨_, rfl⟩
  rw [hQ] at hq1 xl
  have xl2 : Q ≤ 0 := by omega
  clear xl
  have HLQ : Hid (lq s J k = Q) := Lib.hid hQ
  clear hK hQ
  go_enter Tryd.func5, Tryd.ntmps5
  go_wp2_with fail
  refine (bytes_ok s _ hz').mono ?_
  rintro e w' ⟨rfl, rfl⟩
  go_wp2_with fail
  refine (validUTF8B3 s (by omega) _).mono ?_
  rintro e w' ⟨b, rfl, hbv, rfl⟩
  have HBV := Lib.hid hbv
  clear hbv
  cases b
  · go_wp2
    go_ret
    exact ⟨rfl, Below.refl _ _⟩
  have HV := Lib.hid (HBV.out rfl)
  clear HBV
  go_wp2
  go_loop [3] (fun i => ∃ q : Nat, q ≤ J ∧ i = .int .i64 q) (fun i => J - (intOf i).toNat)
  case atStart => exact ⟨0, Nat.zero_le _, rfl⟩
  case round =>
    obtain ⟨q, hq, rfl⟩ := hrel
    by_cases hlt : q < J
    · have hqs : q < s.size := by omega
      have hB1 : (((s[q]'hqs).toNat : Int) != 10) = true := bne_iff_ne.2 (by rw [byte_of_get s q hqs]; have := J2.out q hlt; omega)
      go_wp2
      go_round
      case rel => exact ⟨q + 1, by omega, by go_num⟩
      case measure => first | (simp [intOf]; done) | (simp [intOf]; omega)
    obtain rfl : q = J := by omega
    clear hq hlt
    go_wp2
    go_loopw [4] (fun t wr => ∃ r : Nat, T ≤ r ∧ r ≤ q ∧ t = .int .i64 r ∧ w = wr) (fun t _ => (intOf t).toNat - (T))
    case atStart => exact ⟨q, t1, Nat.le_refl _, rfl, by trivial⟩
    case round =>
      obtain ⟨r, hr1, hr2, rfl, rfl⟩ := hrel
      by_cases hlt2 : T < r
      · obtain ⟨r', rfl⟩ : ∃ r', r = r' + 1 := ⟨r - 1, by omega⟩
        have hrs : r' < s.size := by omega
        have HB2 : Hid (isHws (((s[r']'hrs).toNat : Nat) : Int) = true) := Lib.hid (by rw [byte_of_get s r' hrs]; exact T2.out r' (by omega) (by omega))
        go_wp2_with fail
        refine (hwsB _ _).mono ?_
        rw [HB2.out]
        rintro e w' ⟨rfl, rfl⟩
        go_wp2
        go_roundw
        case rel => exact ⟨r', by omega, by omega, by go_num, by trivial⟩
        case measure => first | (simp [intOf]; done) | (simp [intOf]; omega)
      obtain rfl : r = T := by omega
      clear hr1 hr2 hlt2
      go_wp2
      go_loopw [5] (fun t wr => ∃ r : Nat, q ≤ r ∧ r ≤ K ∧ t = .int .i64 r ∧ w = wr) (fun t _ => K - (intOf t).toNat)
      case atStart => exact ⟨q, Nat.le_refl _, hKJ, rfl, by trivial⟩
      case round =>
        obtain ⟨r, hr1, hr2, rfl, rfl⟩ := hrel
        by_cases hlt3 : r < K
        · have hrs : r < s.size := by omega
          have HB3 : Hid (isWs (((s[r]'hrs).toNat : Nat) : Int) = true) := Lib.hid (by
            rw [byte_of_get s r hrs]
            have := HK.out.all (r - q) (by have := HKK.out; omega)
            rwa [show q + (r - q) = r by omega] at this)
          go_wp2_with fail
          refine (wsB _ _).mono ?_
          rw [HB3.out]
          rintro e w' ⟨rfl, rfl⟩
          go_wp2
          go_roundw
          case rel => exact ⟨r + 1, by omega, by omega, by go_num, by trivial⟩
          case measure => first | (simp [intOf]; done) | (simp [intOf]; omega)
        obtain rfl : r = K := by omega
        clear hr1 hr2 hlt3
        go_wp2
        go_loop [6, 7] (fun n i => ∃ c d : Nat, c ≤ k ∧ i = .int .i64 d ∧ n = .int .i64 (nlTo s q c : Int) ∧ Hid (d = q + c) ∧ d ≤ r) (fun _ i => r - (intOf i).toNat)
        case atStart => exact ⟨0, q, Nat.zero_le _, rfl, rfl, Lib.hid rfl, hKJ⟩
        case round =>
          obtain ⟨c, d, hc, rfl, rfl, HD, hdr⟩ := hrel
          by_cases hlt4 : d < r
          · have hds : d < s.size := by omega
            have hb0 := byte_of_get s d hds
            have hcn := nlTo_le s q c
            have hck : c < k := by have := HD.out; have := HKK.out; omega
            by_cases h10 : byteAt s d = 10
            · have e1 : nlTo s q (c + 1) = nlTo s q c + 1 := by rw [nlTo, ← HD.out, if_pos h10]
              have E1 := Lib.hid e1
              have hB4 : (((s[d]'hds).toNat : Int) == 10) = true := beq_iff_eq.2 (by omega)
              clear e1 h10 hb0
              go_wp2
              go_round
              case rel => exact ⟨c + 1, d + 1, by omega, by go_num, by rw [E1.out]; go_num, Lib.hid (by have := HD.out; omega), by omega⟩
              case measure => first | (simp [intOf]; done) | (simp [intOf]; omega)
            · have e1 : nlTo s q (c + 1) = nlTo s q c := by rw [nlTo, ← HD.out, if_neg h10]; rfl
              have E1 := Lib.hid e1
              have hB4 : (((s[d]'hds).toNat : Int) == 10) = false := beq_eq_false_iff_ne.2 (by omega)
              clear e1 h10 hb0
              go_wp2
              go_round
              case rel => exact ⟨c + 1, d + 1, by omega, by go_num, by rw [E1.out], Lib.hid (by have := HD.out; omega), by omega⟩
              case measure => first | (simp [intOf]; done) | (simp [intOf]; omega)
          obtain rfl : d = r := by omega
          obtain rfl : c = k := by have := HD.out; have := HKK.out; omega
          clear hlt4 hdr hc
          go_wp2
          go_loop [8] (fun p => ∃ (u : Int) (v : Nat), p = .int .i64 u ∧ Hid (u = (q : Int) + v - 1) ∧ Q ≤ v ∧ v ≤ c ∧ (q : Int) - 1 ≤ u ∧ u ≤ d) (fun p => (intOf p + 2 - q).toNat)
          case atStart => exact ⟨_, c, rfl, Lib.hid (by have := HKK.out; omega), hq1, Nat.le_refl _, by omega, by omega⟩
          case round =>
            obtain ⟨u, v, rfl, HU, hv1, hv2, hu1, hu2⟩ := hrel
            by_cases hlt5 : Q < v
            · obtain ⟨x, rfl⟩ : ∃ x, v = x + 1 := ⟨v - 1, by omega⟩
              obtain ⟨y, rfl⟩ : ∃ y : Nat, u = (y : Int) := ⟨q + x, by have := HU.out; omega⟩
              have hyx : y = q + x := by have := HU.out; omega
              have hys : y < s.size := by have := HKK.out; omega
              have hB5 : (((s[y]'hys).toNat : Int) != 10) = true := bne_iff_ne.2 (by
                rw [byte_of_get s y hys, hyx]
                have := lq_behind s q c x (by rw [HLQ.out]; omega) (by omega)
                omega)
              have hyq : q ≤ y := by omega
              clear hyx
              go_wp2
              go_round
              case rel => exact ⟨_, x, rfl, Lib.hid (by have := HU.out; omega), by omega, by omega, by omega, by omega⟩
              case measure => first | (simp [intOf]; done) | (simp [intOf]; omega)
            obtain rfl : v = Q := by omega
            have hu3 : decide ((q : Int) ≤ u) = false := decide_eq_false (by have := HU.out; omega)
            have hu4 : 0 ≤ (q : Int) + v := by omega
            go_wp2
            go_loopw [9, 10] (fun n i wr => ∃ x d : Nat, v ≤ x ∧ x ≤ c ∧ i = .int .i64 d ∧ n = .int .i64 (indTo s q x : Int) ∧ Hid (d = q + x) ∧ w = wr) (fun _ i _ => d - (intOf i).toNat)
            case atStart => exact ⟨v, q + v, Nat.le_refl _, by omega, by first | rfl | (have := HU.out; go_num), by rw [← HLQ.out, ind_lq]; rfl, Lib.hid rfl, by trivial⟩
            case round =>
              obtain ⟨x, dd, hx1, hx2, rfl, rfl, HD2, rfl⟩ := hrel
              have hil := indTo_le s q x
              by_cases hlt6 : dd < d
              · have hds : dd < s.size := by omega
                have hb0 := byte_of_get s dd hds
                have hxc : x < c := by have := HD2.out; have := HKK.out; omega
                have e1 : indTo s q (x + 1) = indTo s q x + wid (s[dd]'hds).toNat := by
                  rw [ind_next s q x (lq_behind s q c x (by rw [HLQ.out]; exact hx1) hxc), hb0, HD2.out]
                have E1 := Lib.hid e1
                have hw8 : wid (s[dd]'hds).toNat ≤ 8 := by unfold wid; split; omega; split <;> omega
                generalize hWV : wid (s[dd]'hds).toNat = WV at hw8
                have HWV := Lib.hid hWV
                rw [HWV.out] at E1
                clear e1 hb0 hWV
                go_wp2_with fail
                refine (widB _ _).mono ?_
                rw [HWV.out]
                rintro e w' ⟨rfl, rfl⟩
                go_wp2
                go_roundw
                case rel => exact ⟨x + 1, dd + 1, by omega, by omega, by go_num, by rw [E1.out]; go_num, Lib.hid (by have := HD2.out; omega), by trivial⟩
                case measure => first | (simp [intOf]; done) | (simp [intOf]; omega)
              obtain rfl : dd = d := by have := HD2.out; have := HKK.out; omega
              obtain rfl : x = c := by have := HD2.out; have := HKK.out; omega
              clear hlt6 hx1 hx2
              by_cases hn0 : nlTo s q x = 0
              · have hn1 : decide (0 < nlTo s q x) = false := decide_eq_false (by omega)
                have hn2 : ((nlTo s q x - 1 : Nat) : Int) = 0 := by omega
                have HN2 := Lib.hid hn2
                clear hn0 hn2
                go_wp2_with fail
                refine (zzUntil s (by omega) _ HT.out).mono ?_
                intro e w' hzp
                obtain ⟨rfl, hbz⟩ := zpost_eq HV.out hzp j1 J2.out J3.out t1 T2.out T3.out HK.out
                rw [HN2.out, HKK.out]
                clear hzp
                go_wp2
                go_ret
                exact ⟨rfl, hbz⟩
              · have hn1 : 0 < nlTo s q x := by omega
                have hn2 : ((nlTo s q x - 1 : Nat) : Int) = (nlTo s q x : Int) - 1 := by omega
                have HN2 := Lib.hid hn2
                clear hn0 hn2
                go_wp2_with fail
                refine (zzUntil s (by omega) _ HT.out).mono ?_
                intro e w' hzp
                obtain ⟨rfl, hbz⟩ := zpost_eq HV.out hzp j1 J2.out J3.out t1 T2.out T3.out HK.out
                rw [HN2.out, HKK.out]
                clear hzp
                go_wp2
                go_ret
                exact ⟨rfl, hbz⟩

set_option maxHeartbeats 3200000 in
set_option maxRecDepth 100000 in
theorem core101 (s : ByteArray) (J T k : Nat) (w : World) (hz' : s.size ≤ 1048576) (hT : Lib.Utf8Tabs 0 1 w) (j1 : J ≤ s.size) (j2 : ∀ i, i < J → byteAt s i ≠ 10) (j3 : J = s.size ∨ (J < s.size ∧ byteAt s J = 10)) (t1 : T ≤ J) (t2 : ∀ i, T ≤ i → i < J → isHws (byteAt s i) = true) (t3 : T = 0 ∨ isHws (byteAt s (T - 1)) = false) (hk : WsRun s J k) (xj : J = s.size) (xt : 0 < T) (yt : isHws (byteAt s (T - 1)) = false) (xk : J + k = s.size) (xl : lq s J k = 0) :
    Calls Tryd.prog 5 #[.string s] w fun e w' => e = .returned (.bool true) ∧ Below w.heap.size w w' := by
  have HT := Lib.hid hT
  have J2 := Lib.hid j2
  have J3 := Lib.hid j3
  have T2 := Lib.hid t2
  have T3 := Lib.hid t3
  have HK := Lib.hid hk
  have hkf := hk.fit
  have hq1 := lq_le s J k
  have hnl := nlTo_le s J k
  have hin := indTo_le s J k
  clear hT j2 j3 t2 t3 hk
  have hx : decide (J < s.size) = false := decide_eq_false (by omega)
  have xj2 : s.size ≤ J := by omega
  clear xj
  have hTs : T - 1 < s.size := by omega
  have YT : Hid (isHws (((s[T - 1]'hTs).toNat : Nat) : Int) = false) := Lib.hid (by rw [byte_of_get s (T - 1) hTs]; exact yt)
  clear yt
  obtain ⟨K, hK⟩ : ∃ K, J + k = K := ⟨_, rfl⟩
  have HKK := Lib.hid hK
  have hKJ : J ≤ K := by omega
  have hKs : K ≤ s.size := by omega
  have hxk : decide (K < s.size) = false := decide_eq_false (by omega)
  clear xk
  obtain ⟨Q, hQ⟩ : ∃ Q, lq s J k = Q := ⟨_, rfl⟩
  rw [hQ] at hq1 xl
  have xl2 : Q ≤ 0 := by omega
  clear xl
  have HLQ : Hid (lq s J k = Q) := Lib.hid hQ
  clear hK hQ
  go_enter Tryd.func5, Tryd.ntmps5
  go_wp2_with fail
  refine (bytes_ok s _ hz').mono ?_
  rintro e w' ⟨rfl, rfl⟩
  go_wp2_with fail
  refine (validUTF8B3 s (by omega) _).mono ?_
  rintro e w' ⟨b, rfl, hbv, rfl⟩
  have HBV := Lib.hid hbv
  clear hbv
  cases b
  · go_wp2
    go_ret
    exact ⟨rfl, Below.refl _ _⟩
  have HV := Lib.hid (HBV.out rfl)
  clear HBV
  go_wp2
  go_loop [3] (fun i => ∃ q : Nat, q ≤ J ∧ i = .int .i64 q) (fun i => J - (intOf i).toNat)
  case atStart => exact ⟨0, Nat.zero_le _, rfl⟩
  case round =>
    obtain ⟨q, hq, rfl⟩ := hrel
    by_cases hlt : q < J
    · have hqs : q < s.size := by omega
      have hB1 : (((s[q]'hqs).toNat : Int) != 10) = true := bne_iff_ne.2 (by rw [byte_of_get s q hqs]; have := J2.out q hlt; omega)
      go_wp2
      go_round
      case rel => exact ⟨q + 1, by omega, by go_num⟩
      case measure => first | (simp [intOf]; done) | (simp [intOf]; omega)
    obtain rfl : q = J := by omega
    clear hq hlt
    go_wp2
    go_loopw [4] (fun t wr => ∃ r : Nat, T ≤ r ∧ r ≤ q ∧ t = .int .i64 r ∧ w = wr) (fun t _ => (intOf t).toNat - (T))
    case atStart => exact ⟨q, t1, Nat.le_refl _, rfl, by trivial⟩
    case round =>
      obtain ⟨r, hr1, hr2, rfl, rfl⟩ := hrel
      by_cases hlt2 : T < r
      · obtain ⟨r', rfl⟩ : ∃ r', r = r' + 1 := ⟨r - 1, by omega⟩
        have hrs : r' < s.size := by omega
        have HB2 : Hid (isHws (((s[r']'hrs).toNat : Nat) : Int) = true) := Lib.hid (by rw [byte_of_get s r' hrs]; exact T2.out r' (by omega) (by omega))
        go_wp2_with fail
        refine (hwsB _ _).mono ?_
        rw [HB2.out]
        rintro e w' ⟨rfl, rfl⟩
        go_wp2
        go_roundw
        case rel => exact ⟨r', by omega, by omega, by go_num, by trivial⟩
        case measure => first | (simp [intOf]; done) | (simp [intOf]; omega)
      obtain rfl : r = T := by omega
      clear hr1 hr2 hlt2
      go_wp2_with fail
      refine (hwsB _ _).mono ?_
      rw [YT.out]
      rintro e w' ⟨rfl, rfl⟩
      go_wp2
      go_loopw [5] (fun t wr => ∃ r : Nat, q ≤ r ∧ r ≤ K ∧ t = .int .i64 r ∧ w = wr) (fun t _ => K - (intOf t).toNat)
      case atStart => exact ⟨q, Nat.le_refl _, hKJ, rfl, by trivial⟩
      case round =>
        obtain ⟨r, hr1, hr2, rfl, rfl⟩ := hrel
        by_cases hlt3 : r < K
        · have hrs : r < s.size := by omega
          have HB3 : Hid (isWs (((s[r]'hrs).toNat : Nat) : Int) = true) := Lib.hid (by
            rw [byte_of_get s r hrs]
            have := HK.out.all (r - q) (by have := HKK.out; omega)
            rwa [show q + (r - q) = r by omega] at this)
          go_wp2_with fail
          refine (wsB _ _).mono ?_
          rw [HB3.out]
          rintro e w' ⟨rfl, rfl⟩
          go_wp2
          go_roundw
          case rel => exact ⟨r + 1, by omega, by omega, by go_num, by trivial⟩
          case measure => first | (simp [intOf]; done) | (simp [intOf]; omega)
        obtain rfl : r = K := by omega
        clear hr1 hr2 hlt3
        go_wp2
        go_loop [6, 7] (fun n i => ∃ c d : Nat, c ≤ k ∧ i = .int .i64 d ∧ n = .int .i64 (nlTo s q c : Int) ∧ Hid (d = q + c) ∧ d ≤ r) (fun _ i => r - (intOf i).toNat)
        case atStart => exact ⟨0, q, Nat.zero_le _, rfl, rfl, Lib.hid rfl, hKJ⟩
        case round =>
          obtain ⟨c, d, hc, rfl, rfl, HD, hdr⟩ := hrel
          by_cases hlt4 : d < r
          · have hds : d < s.size := by omega
            have hb0 := byte_of_get s d hds
            have hcn := nlTo_le s q c
            have hck : c < k := by have := HD.out; have := HKK.out; omega
            by_cases h10 : byteAt s d = 10
            · have e1 : nlTo s q (c + 1) = nlTo s q c + 1 := by rw [nlTo, ← HD.out, if_pos h10]
              have E1 := Lib.hid e1
              have hB4 : (((s[d]'hds).toNat : Int) == 10) = true := beq_iff_eq.2 (by omega)
              clear e1 h10 hb0
              go_wp2
              go_round
              case rel => exact ⟨c + 1, d + 1, by omega, by go_num, by rw [E1.out]; go_num, Lib.hid (by have := HD.out; omega), by omega⟩
              case measure => first | (simp [intOf]; done) | (simp [intOf]; omega)
            · have e1 : nlTo s q (c + 1) = nlTo s q c := by rw [nlTo, ← HD.out, if_neg h10]; rfl
              have E1 := Lib.hid e1
              have hB4 : (((s[d]'hds).toNat : Int) == 10) = false := beq_eq_false_iff_ne.2 (by omega)
              clear e1 h10 hb0
              go_wp2
              go_round
              case rel => exact ⟨c + 1, d + 1, by omega, by go_num, by rw [E1.out], Lib.hid (by have := HD.out; omega), by omega⟩
              case measure => first | (simp [intOf]; done) | (simp [intOf]; omega)
          obtain rfl : d = r := by omega
          obtain rfl : c = k := by have := HD.out; have := HKK.out; omega
          clear hlt4 hdr hc
          go_wp2
          go_loop [8] (fun p => ∃ (u : Int) (v : Nat), p = .int .i64 u ∧ Hid (u = (q : Int) + v - 1) ∧ Q ≤ v ∧ v ≤ c ∧ (q : Int) - 1 ≤ u ∧ u ≤ d) (fun p => (intOf p + 2 - q).toNat)
          case atStart => exact ⟨_, c, rfl, Lib.hid (by have := HKK.out; omega), hq1, Nat.le_refl _, by omega, by omega⟩
          case round =>
            obtain ⟨u, v, rfl, HU, hv1, hv2, hu1, hu2⟩ := hrel
            by_cases hlt5 : Q < v
            · obtain ⟨x, rfl⟩ : ∃ x, v = x + 1 := ⟨v - 1, by omega⟩
              obtain ⟨y, rfl⟩ : ∃ y : Nat, u = (y : Int) := ⟨q + x, by have := HU.out; omega⟩
              have hyx : y = q + x := by have := HU.out; omega
              have hys : y < s.size := by have := HKK.out; omega
              have hB5 : (((s[y]'hys).toNat : Int) != 10) = true := bne_iff_ne.2 (by
                rw [byte_of_get s y hys, hyx]
                have := lq_behind s q c x (by rw [HLQ.out]; omega) (by omega)
                omega)
              have hyq : q ≤ y := by omega
              clear hyx
              go_wp2
              go_round
              case rel => exact ⟨_, x, rfl, Lib.hid (by have := HU.out; omega), by omega, by omega, by omega, by omega⟩
              case measure => first | (simp [intOf]; done) | (simp [intOf]; omega)
            obtain rfl : v = Q := by omega
            have hu3 : decide ((q : Int) ≤ u) = false := decide_eq_false (by have := HU.out; omega)
            have hu4 : 0 ≤ (q : Int) + v := by omega
            go_wp2
            go_loopw [9, 10] (fun n i wr => ∃ x d : Nat, v ≤ x ∧ x ≤ c ∧ i = .int .i64 d ∧ n = .int .i64 (indTo s q x : Int) ∧ Hid (d = q + x) ∧ w = wr) (fun _ i _ => d - (intOf i).toNat)
            case atStart => exact ⟨v, q + v, Nat.le_refl _, by omega, by first | rfl | (have := HU.out; go_num), by rw [← HLQ.out, ind_lq]; rfl, Lib.hid rfl, by trivial⟩
            case round =>
              obtain ⟨x, dd, hx1, hx2, rfl, rfl, HD2, rfl⟩ := hrel
              have hil := indTo_le s q x
              by_cases hlt6 : dd < d
              · have hds : dd < s.size := by omega
                have hb0 := byte_of_get s dd hds
                have hxc : x < c := by have := HD2.out; have := HKK.out; omega
                have e1 : indTo s q (x + 1) = indTo s q x + wid (s[dd]'hds).toNat := by
                  rw [ind_next s q x (lq_behind s q c x (by rw [HLQ.out]; exact hx1) hxc), hb0, HD2.out]
                have E1 := Lib.hid e1
                have hw8 : wid (s[dd]'hds).toNat ≤ 8 := by unfold wid; split; omega; split <;> omega
                generalize hWV : wid (s[dd]'hds).toNat = WV at hw8
                have HWV := Lib.hid hWV
                rw [HWV.out] at E1
                clear e1 hb0 hWV
                go_wp2_with fail
                refine (widB _ _).mono ?_
                rw [HWV.out]
                rintro e w' ⟨rfl, rfl⟩
                go_wp2
                go_roundw
                case rel => exact ⟨x + 1, dd + 1, by omega, by omega, by go_num, by rw [E1.out]; go_num, Lib.hid (by have := HD2.out; omega), by trivial⟩
                case measure => first | (simp [intOf]; done) | (simp [intOf]; omega)
              obtain rfl : dd = d := by have := HD2.out; have := HKK.out; omega
              obtain rfl : x = c := by have := HD2.out; have := HKK.out; omega
              clear hlt6 hx1 hx2
              by_cases hn0 : nlTo s q x = 0
              · have hn1 : decide (0 < nlTo s q x) = false := decide_eq_false (by omega)
                have hn2 : ((nlTo s q x - 1 : Nat) : Int) = 0 := by omega
                have HN2 := Lib.hid hn2
                clear hn0 hn2
                go_wp2_with fail
                refine (zzUntil s (by omega) _ HT.out).mono ?_
                intro e w' hzp
                obtain ⟨rfl, hbz⟩ := zpost_eq HV.out hzp j1 J2.out J3.out t1 T2.out T3.out HK.out
                rw [HN2.out, HKK.out]
                clear hzp
                go_wp2
                go_ret
                exact ⟨rfl, hbz⟩
              · have hn1 : 0 < nlTo s q x := by omega
                have hn2 : ((nlTo s q x - 1 : Nat) : Int) = (nlTo s q x : Int) - 1 := by omega
                have HN2 := Lib.hid hn2
                clear hn0 hn2
                go_wp2_with fail
                refine (zzUntil s (by omega) _ HT.out).mono ?_
                intro e w' hzp
                obtain ⟨rfl, hbz⟩ := zpost_eq HV.out hzp j1 J2.out J3.out t1 T2.out T3.out HK.out
                rw [HN2.out, HKK.out]
                clear hzp
                go_wp2
                go_ret
                exact ⟨rfl, hbz⟩

set_option maxHeartbeats 3200000 in
set_option maxRecDepth 100000 in
theorem core011 (s : ByteArray) (J T k : Nat) (w : World) (hz' : s.size ≤ 1048576) (hT : Lib.Utf8Tabs 0 1 w) (j1 : J ≤ s.size) (j2 : ∀ i, i < J → byteAt s i ≠ 10) (j3 : J = s.size ∨ (J < s.size ∧ byteAt s J = 10)) (t1 : T ≤ J) (t2 : ∀ i, T ≤ i → i < J → isHws (byteAt s i) = true) (t3 : T = 0 ∨ isHws (byteAt s (T - 1)) = false) (hk : WsRun s J k) (xj : J < s.size) (yj : byteAt s J = 10) (xt : T = 0) (xk : J + k = s.size) (xl : 0 < lq s J k) :
    Calls Tryd.prog 5 #[.string s] w fun e w' => e = .returned (.bool true) ∧ Below w.heap.size w w' := by
  have HT := Lib.hid hT
  have J2 := Lib.hid j2
  have J3 := Lib.hid j3
  have T2 := Lib.hid t2
  have T3 := Lib.hid t3
  have HK := Lib.hid hk
  have hkf := hk.fit
  have hq1 := lq_le s J k
  have hnl := nlTo_le s J k
  have hin := indTo_le s J k
  clear hT j2 j3 t2 t3 hk
  have hB : (((s[J]'xj).toNat : Int) != 10) = false := by rw [byte_of_get s J xj, yj]; rfl
  clear yj
  have xt2 : T ≤ 0 := by omega
  clear xt
  obtain ⟨K, hK⟩ : ∃ K, J + k = K := ⟨_, rfl⟩
  have HKK := Lib.hid hK
  have hKJ : J ≤ K := by omega
  have hKs : K ≤ s.size := by omega
  have hxk : decide (K < s.size) = false := decide_eq_false (by omega)
  clear xk
  have hYL : byteAt s (J + (lq s J k - 1)) = 10 := by
    rcases lq_at s J k with a | a
    · omega
    · exact a
  have HYL := Lib.hid hYL
  clear hYL
  obtain ⟨Q, hQ⟩ : ∃ Q, lq s J k = Q := ⟨_, rfl⟩
  rw [hQ] at hq1 xl
  rw [hQ] at HYL
  have HLQ : Hid (lq s J k = Q) := Lib.hid hQ
  clear hK hQ
  go_enter Tryd.func5, Tryd.ntmps5
  go_wp2_with fail
  refine (bytes_ok s _ hz').mono ?_
  rintro e w' ⟨rfl, rfl⟩
  go_wp2_with fail
  refine (validUTF8B3 s (by omega) _).mono ?_
  rintro e w' ⟨b, rfl, hbv, rfl⟩
  have HBV := Lib.hid hbv
  clear hbv
  cases b
  · go_wp2
    go_ret
    exact ⟨rfl, Below.refl _ _⟩
  have HV := Lib.hid (HBV.out rfl)
  clear HBV
  go_wp2
  go_loop [3] (fun i => ∃ q : Nat, q ≤ J ∧ i = .int .i64 q) (fun i => J - (intOf i).toNat)
  case atStart => exact ⟨0, Nat.zero_le _, rfl⟩
  case round =>
    obtain ⟨q, hq, rfl⟩ := hrel
    by_cases hlt : q < J
    · have hqs : q < s.size := by omega
      have hB1 : (((s[q]'hqs).toNat : Int) != 10) = true := bne_iff_ne.2 (by rw [byte_of_get s q hqs]; have := J2.out q hlt; omega)
      go_wp2
      go_round
      case rel => exact ⟨q + 1, by omega, by go_num⟩
      case measure => first | (simp [intOf]; done) | (simp [intOf]; omega)
    obtain rfl : q = J := by omega
    clear hq hlt
    go_wp2
    go_loopw [4] (fun t wr => ∃ r : Nat, T ≤ r ∧ r ≤ q ∧ t = .int .i64 r ∧ w = wr) (fun t _ => (intOf t).toNat - (T))
    case atStart => exact ⟨q, t1, Nat.le_refl _, rfl, by trivial⟩
    case round =>
      obtain ⟨r, hr1, hr2, rfl, rfl⟩ := hrel
      by_cases hlt2 : T < r
      · obtain ⟨r', rfl⟩ : ∃ r', r = r' + 1 := ⟨r - 1, by omega⟩
        have hrs : r' < s.size := by omega
        have HB2 : Hid (isHws (((s[r']'hrs).toNat : Nat) : Int) = true) := Lib.hid (by rw [byte_of_get s r' hrs]; exact T2.out r' (by omega) (by omega))
        go_wp2_with fail
        refine (hwsB _ _).mono ?_
        rw [HB2.out]
        rintro e w' ⟨rfl, rfl⟩
        go_wp2
        go_roundw
        case rel => exact ⟨r', by omega, by omega, by go_num, by trivial⟩
        case measure => first | (simp [intOf]; done) | (simp [intOf]; omega)
      obtain rfl : r = T := by omega
      clear hr1 hr2 hlt2
      go_wp2
      go_loopw [5] (fun t wr => ∃ r : Nat, q ≤ r ∧ r ≤ K ∧ t = .int .i64 r ∧ w = wr) (fun t _ => K - (intOf t).toNat)
      case atStart => exact ⟨q, Nat.le_refl _, hKJ, rfl, by trivial⟩
      case round =>
        obtain ⟨r, hr1, hr2, rfl, rfl⟩ := hrel
        by_cases hlt3 : r < K
        · have hrs : r < s.size := by omega
          have HB3 : Hid (isWs (((s[r]'hrs).toNat : Nat) : Int) = true) := Lib.hid (by
            rw [byte_of_get s r hrs]
            have := HK.out.all (r - q) (by have := HKK.out; omega)
            rwa [show q + (r - q) = r by omega] at this)
          go_wp2_with fail
          refine (wsB _ _).mono ?_
          rw [HB3.out]
          rintro e w' ⟨rfl, rfl⟩
          go_wp2
          go_roundw
          case rel => exact ⟨r + 1, by omega, by omega, by go_num, by trivial⟩
          case measure => first | (simp [intOf]; done) | (simp [intOf]; omega)
        obtain rfl : r = K := by omega
        clear hr1 hr2 hlt3
        go_wp2
        go_loop [6, 7] (fun n i => ∃ c d : Nat, c ≤ k ∧ i = .int .i64 d ∧ n = .int .i64 (nlTo s q c : Int) ∧ Hid (d = q + c) ∧ d ≤ r) (fun _ i => r - (intOf i).toNat)
        case atStart => exact ⟨0, q, Nat.zero_le _, rfl, rfl, Lib.hid rfl, hKJ⟩
        case round =>
          obtain ⟨c, d, hc, rfl, rfl, HD, hdr⟩ := hrel
          by_cases hlt4 : d < r
          · have hds : d < s.size := by omega
            have hb0 := byte_of_get s d hds
            have hcn := nlTo_le s q c
            have hck : c < k := by have := HD.out; have := HKK.out; omega
            by_cases h10 : byteAt s d = 10
            · have e1 : nlTo s q (c + 1) = nlTo s q c + 1 := by rw [nlTo, ← HD.out, if_pos h10]
              have E1 := Lib.hid e1
              have hB4 : (((s[d]'hds).toNat : Int) == 10) = true := beq_iff_eq.2 (by omega)
              clear e1 h10 hb0
              go_wp2
              go_round
              case rel => exact ⟨c + 1, d + 1, by omega, by go_num, by rw [E1.out]; go_num, Lib.hid (by have := HD.out; omega), by omega⟩
              case measure => first | (simp [intOf]; done) | (simp [intOf]; omega)
            · have e1 : nlTo s q (c + 1) = nlTo s q c := by rw [nlTo, ← HD.out, if_neg h10]; rfl
              have E1 := Lib.hid e1
              have hB4 : (((s[d]'hds).toNat : Int) == 10) = false := beq_eq_false_iff_ne.2 (by omega)
              clear e1 h10 hb0
              go_wp2
              go_round
              case rel => exact ⟨c + 1, d + 1, by omega, by go_num, by rw [E1.out], Lib.hid (by have := HD.out; omega), by omega⟩
              case measure => first | (simp [intOf]; done) | (simp [intOf]; omega)
          obtain rfl : d = r := by omega
          obtain rfl : c = k := by have := HD.out; have := HKK.out; omega
          clear hlt4 hdr hc
          go_wp2
          go_loop [8] (fun p => ∃ (u : Int) (v : Nat), p = .int .i64 u ∧ Hid (u = (q : Int) + v - 1) ∧ Q ≤ v ∧ v ≤ c ∧ (q : Int) - 1 ≤ u ∧ u ≤ d) (fun p => (intOf p + 2 - q).toNat)
          case atStart => exact ⟨_, c, rfl, Lib.hid (by have := HKK.out; omega), hq1, Nat.le_refl _, by omega, by omega⟩
          case round =>
            obtain ⟨u, v, rfl, HU, hv1, hv2, hu1, hu2⟩ := hrel
            by_cases hlt5 : Q < v
            · obtain ⟨x, rfl⟩ : ∃ x, v = x + 1 := ⟨v - 1, by omega⟩
              obtain ⟨y, rfl⟩ : ∃ y : Nat, u = (y : Int) := ⟨q + x, by have := HU.out; omega⟩
              have hyx : y = q + x := by have := HU.out; omega
              have hys : y < s.size := by have := HKK.out; omega
              have hB5 : (((s[y]'hys).toNat : Int) != 10) = true := bne_iff_ne.2 (by
                rw [byte_of_get s y hys, hyx]
                have := lq_behind s q c x (by rw [HLQ.out]; omega) (by omega)
                omega)
              have hyq : q ≤ y := by omega
              clear hyx
              go_wp2
              go_round
              case rel => exact ⟨_, x, rfl, Lib.hid (by have := HU.out; omega), by omega, by omega, by omega, by omega⟩
              case measure => first | (simp [intOf]; done) | (simp [intOf]; omega)
            obtain rfl : v = Q := by omega
            obtain ⟨y, rfl⟩ : ∃ y : Nat, u = (y : Int) := ⟨q + (v - 1), by have := HU.out; omega⟩
            have hyx : y = q + (v - 1) := by have := HU.out; omega
            have hys : y < s.size := by have := HKK.out; omega
            have hyq : q ≤ y := by omega
            have hBL : (((s[y]'hys).toNat : Int) != 10) = false := by rw [byte_of_get s y hys, hyx, HYL.out]; rfl
            clear hyx
            have hu4 : 0 ≤ (q : Int) + v := by omega
            go_wp2
            go_loopw [9, 10] (fun n i wr => ∃ x d : Nat, v ≤ x ∧ x ≤ c ∧ i = .int .i64 d ∧ n = .int .i64 (indTo s q x : Int) ∧ Hid (d = q + x) ∧ w = wr) (fun _ i _ => d - (intOf i).toNat)
            case atStart => exact ⟨v, q + v, Nat.le_refl _, by omega, by first | rfl | (have := HU.out; go_num), by rw [← HLQ.out, ind_lq]; rfl, Lib.hid rfl, by trivial⟩
            case round =>
              obtain ⟨x, dd, hx1, hx2, rfl, rfl, HD2, rfl⟩ := hrel
              have hil := indTo_le s q x
              by_cases hlt6 : dd < d
              · have hds : dd < s.size := by omega
                have hb0 := byte_of_get s dd hds
                have hxc : x < c := by have := HD2.out; have := HKK.out; omega
                have e1 : indTo s q (x + 1) = indTo s q x + wid (s[dd]'hds).toNat := by
                  rw [ind_next s q x (lq_behind s q c x (by rw [HLQ.out]; exact hx1) hxc), hb0, HD2.out]
                have E1 := Lib.hid e1
                have hw8 : wid (s[dd]'hds).toNat ≤ 8 := by unfold wid; split; omega; split <;> omega
                generalize hWV : wid (s[dd]'hds).toNat = WV at hw8
                have HWV := Lib.hid hWV
                rw [HWV.out] at E1
                clear e1 hb0 hWV
                go_wp2_with fail
                refine (widB _ _).mono ?_
                rw [HWV.out]
                rintro e w' ⟨rfl, rfl⟩
                go_wp2
                go_roundw
                case rel => exact ⟨x + 1, dd + 1, by omega, by omega, by go_num, by rw [E1.out]; go_num, Lib.hid (by have := HD2.out; omega), by trivial⟩
                case measure => first | (simp [intOf]; done) | (simp [intOf]; omega)
              obtain rfl : dd = d := by have := HD2.out; have := HKK.out; omega
              obtain rfl : x = c := by have := HD2.out; have := HKK.out; omega
              clear hlt6 hx1 hx2
              by_cases hn0 : nlTo s q x = 0
              · have hn1 : decide (0 < nlTo s q x) = false := decide_eq_false (by omega)
                have hn2 : ((nlTo s q x - 1 : Nat) : Int) = 0 := by omega
                have HN2 := Lib.hid hn2
                clear hn0 hn2
                go_wp2_with fail
                refine (zzUntil s (by omega) _ HT.out).mono ?_
                intro e w' hzp
                obtain ⟨rfl, hbz⟩ := zpost_eq HV.out hzp j1 J2.out J3.out t1 T2.out T3.out HK.out
                rw [HN2.out, HKK.out]
                clear hzp
                go_wp2
                go_ret
                exact ⟨rfl, hbz⟩
              · have hn1 : 0 < nlTo s q x := by omega
                have hn2 : ((nlTo s q x - 1 : Nat) : Int) = (nlTo s q x : Int) - 1 := by omega
                have HN2 := Lib.hid hn2
                clear hn0 hn2
                go_wp2_with fail
                refine (zzUntil s (by omega) _ HT.out).mono ?_
                intro e w' hzp
                obtain ⟨rfl, hbz⟩ := zpost_eq HV.out hzp j1 J2.out J3.out t1 T2.out T3.out HK.out
                rw [HN2.out, HKK.out]
                clear hzp
                go_wp2
                go_ret
                exact ⟨rfl, hbz⟩

set_option maxHeartbeats 3200000 in
set_option maxRecDepth 100000 in
theorem core010 (s : ByteArray) (J T k : Nat) (w : World) (hz' : s.size ≤ 1048576) (hT : Lib.Utf8Tabs 0 1 w) (j1 : J ≤ s.size) (j2 : ∀ i, i < J → byteAt s i ≠ 10) (j3 : J = s.size ∨ (J < s.size ∧ byteAt s J = 10)) (t1 : T ≤ J) (t2 : ∀ i, T ≤ i → i < J → isHws (byteAt s i) = true) (t3 : T = 0 ∨ isHws (byteAt s (T - 1)) = false) (hk : WsRun s J k) (xj : J < s.size) (yj : byteAt s J = 10) (xt : T = 0) (xk : J + k < s.size) (yk : isWs (byteAt s (J + k)) = false) (xl : 0 < lq s J k) :
    Calls Tryd.prog 5 #[.string s] w fun e w' => e = .returned (.bool true) ∧ Below w.heap.size w w' := by
  have HT := Lib.hid hT
  have J2 := Lib.hid j2
  have J3 := Lib.hid j3
  have T2 := Lib.hid t2
  have T3 := Lib.hid t3
  have HK := Lib.hid hk
  have hkf := hk.fit
  have hq1 := lq_le s J k
  have hnl := nlTo_le s J k
  have hin := indTo_le s J k
  clear hT j2 j3 t2 t3 hk
  have hB : (((s[J]'xj).toNat : Int) != 10) = false := by rw [byte_of_get s J xj, yj]; rfl
  clear yj
  have xt2 : T ≤ 0 := by omega
  clear xt
  obtain ⟨K, hK⟩ : ∃ K, J + k = K := ⟨_, rfl⟩
  have HKK := Lib.hid hK
  have hKJ : J ≤ K := by omega
  have hKs : K ≤ s.size := by omega
  have hKs2 : K < s.size := by omega
  have YK : Hid (isWs (((s[K]'hKs2).toNat : Nat) : Int) = false) := Lib.hid (by rw [byte_of_get s K hKs2, ← hK]; exact yk)
  clear xk yk
  have hYL : byteAt s (J + (lq s J k - 1)) = 10 := by
    rcases lq_at s J k with a | a
    · omega
    · exact a
  have HYL := Lib.hid hYL
  clear hYL
  obtain ⟨Q, hQ⟩ : ∃ Q, lq s J k = Q := ⟨_, rfl⟩
  rw [hQ] at hq1 xl
  rw [hQ] at HYL
  have HLQ : Hid (lq s J k = Q) := Lib.hid hQ
  clear hK hQ
  go_enter Tryd.func5, Tryd.ntmps5
  go_wp2_with fail
  refine (bytes_ok s _ hz').mono ?_
  rintro e w' ⟨rfl, rfl⟩
  go_wp2_with fail
  refine (validUTF8B3 s (by omega) _).mono ?_
  rintro e w' ⟨b, rfl, hbv, rfl⟩
  have HBV := Lib.hid hbv
  clear hbv
  cases b
  · go_wp2
    go_ret
    exact ⟨rfl, Below.refl _ _⟩
  have HV := Lib.hid (HBV.out rfl)
  clear HBV
  go_wp2
  go_loop [3] (fun i => ∃ q : Nat, q ≤ J ∧ i = .int .i64 q) (fun i => J - (intOf i).toNat)
  case atStart => exact ⟨0, Nat.zero_le _, rfl⟩
  case round =>
    obtain ⟨q, hq, rfl⟩ := hrel
    by_cases hlt : q < J
    · have hqs : q < s.size := by omega
      have hB1 : (((s[q]'hqs).toNat : Int) != 10) = true := bne_iff_ne.2 (by rw [byte_of_get s q hqs]; have := J2.out q hlt; omega)
      go_wp2
      go_round
      case rel => exact ⟨q + 1, by omega, by go_num⟩
      case measure => first | (simp [intOf]; done) | (simp [intOf]; omega)
    obtain rfl : q = J := by omega
    clear hq hlt
    go_wp2
    go_loopw [4] (fun t wr => ∃ r : Nat, T ≤ r ∧ r ≤ q ∧ t = .int .i64 r ∧ w = wr) (fun t _ => (intOf t).toNat - (T))
    case atStart => exact ⟨q, t1, Nat.le_refl _, rfl, by trivial⟩
    case round =>
      obtain ⟨r, hr1, hr2, rfl, rfl⟩ := hrel
      by_cases hlt2 : T < r
      · obtain ⟨r', rfl⟩ : ∃ r', r = r' + 1 := ⟨r - 1, by omega⟩
        have hrs : r' < s.size := by omega
        have HB2 : Hid (isHws (((s[r']'hrs).toNat : Nat) : Int) = true) := Lib.hid (by rw [byte_of_get s r' hrs]; exact T2.out r' (by omega) (by omega))
        go_wp2_with fail
        refine (hwsB _ _).mono ?_
        rw [HB2.out]
        rintro e w' ⟨rfl, rfl⟩
        go_wp2
        go_roundw
        case rel => exact ⟨r', by omega, by omega, by go_num, by trivial⟩
        case measure => first | (simp [intOf]; done) | (simp [intOf]; omega)
      obtain rfl : r = T := by omega
      clear hr1 hr2 hlt2
      go_wp2
      go_loopw [5] (fun t wr => ∃ r : Nat, q ≤ r ∧ r ≤ K ∧ t = .int .i64 r ∧ w = wr) (fun t _ => K - (intOf t).toNat)
      case atStart => exact ⟨q, Nat.le_refl _, hKJ, rfl, by trivial⟩
      case round =>
        obtain ⟨r, hr1, hr2, rfl, rfl⟩ := hrel
        by_cases hlt3 : r < K
        · have hrs : r < s.size := by omega
          have HB3 : Hid (isWs (((s[r]'hrs).toNat : Nat) : Int) = true) := Lib.hid (by
            rw [byte_of_get s r hrs]
            have := HK.out.all (r - q) (by have := HKK.out; omega)
            rwa [show q + (r - q) = r by omega] at this)
          go_wp2_with fail
          refine (wsB _ _).mono ?_
          rw [HB3.out]
          rintro e w' ⟨rfl, rfl⟩
          go_wp2
          go_roundw
          case rel => exact ⟨r + 1, by omega, by omega, by go_num, by trivial⟩
          case measure => first | (simp [intOf]; done) | (simp [intOf]; omega)
        obtain rfl : r = K := by omega
        clear hr1 hr2 hlt3
        go_wp2_with fail
        refine (wsB _ _).mono ?_
        rw [YK.out]
        rintro e w' ⟨rfl, rfl⟩
        go_wp2
        go_loop [6, 7] (fun n i => ∃ c d : Nat, c ≤ k ∧ i = .int .i64 d ∧ n = .int .i64 (nlTo s q c : Int) ∧ Hid (d = q + c) ∧ d ≤ r) (fun _ i => r - (intOf i).toNat)
        case atStart => exact ⟨0, q, Nat.zero_le _, rfl, rfl, Lib.hid rfl, hKJ⟩
        case round =>
          obtain ⟨c, d, hc, rfl, rfl, HD, hdr⟩ := hrel
          by_cases hlt4 : d < r
          · have hds : d < s.size := by omega
            have hb0 := byte_of_get s d hds
            have hcn := nlTo_le s q c
            have hck : c < k := by have := HD.out; have := HKK.out; omega
            by_cases h10 : byteAt s d = 10
            · have e1 : nlTo s q (c + 1) = nlTo s q c + 1 := by rw [nlTo, ← HD.out, if_pos h10]
              have E1 := Lib.hid e1
              have hB4 : (((s[d]'hds).toNat : Int) == 10) = true := beq_iff_eq.2 (by omega)
              clear e1 h10 hb0
              go_wp2
              go_round
              case rel => exact ⟨c + 1, d + 1, by omega, by go_num, by rw [E1.out]; go_num, Lib.hid (by have := HD.out; omega), by omega⟩
              case measure => first | (simp [intOf]; done) | (simp [intOf]; omega)
            · have e1 : nlTo s q (c + 1) = nlTo s q c := by rw [nlTo, ← HD.out, if_neg h10]; rfl
              have E1 := Lib.hid e1
              have hB4 : (((s[d]'hds).toNat : Int) == 10) = false := beq_eq_false_iff_ne.2 (by omega)
              clear e1 h10 hb0
              go_wp2
              go_round
              case rel => exact ⟨c + 1, d + 1, by omega, by go_num, by rw [E1.out], Lib.hid (by have := HD.out; omega), by omega⟩
              case measure => first | (simp [intOf]; done) | (simp [intOf]; omega)
          obtain rfl : d = r := by omega
          obtain rfl : c = k := by have := HD.out; have := HKK.out; omega
          clear hlt4 hdr hc
          go_wp2
          go_loop [8] (fun p => ∃ (u : Int) (v : Nat), p = .int .i64 u ∧ Hid (u = (q : Int) + v - 1) ∧ Q ≤ v ∧ v ≤ c ∧ (q : Int) - 1 ≤ u ∧ u ≤ d) (fun p => (intOf p + 2 - q).toNat)
          case atStart => exact ⟨_, c, rfl, Lib.hid (by have := HKK.out; omega), hq1, Nat.le_refl _, by omega, by omega⟩
          case round =>
            obtain ⟨u, v, rfl, HU, hv1, hv2, hu1, hu2⟩ := hrel
            by_cases hlt5 : Q < v
            · obtain ⟨x, rfl⟩ : ∃ x, v = x + 1 := ⟨v - 1, by omega⟩
              obtain ⟨y, rfl⟩ : ∃ y : Nat, u = (y : Int) := ⟨q + x, by have := HU.out; omega⟩
              have hyx : y = q + x := by have := HU.out; omega
              have hys : y < s.size := by have := HKK.out; omega
              have hB5 : (((s[y]'hys).toNat : Int) != 10) = true := bne_iff_ne.2 (by
                rw [byte_of_get s y hys, hyx]
                have := lq_behind s q c x (by rw [HLQ.out]; omega) (by omega)
                omega)
              have hyq : q ≤ y := by omega
              clear hyx
              go_wp2
              go_round
              case rel => exact ⟨_, x, rfl, Lib.hid (by have := HU.out; omega), by omega, by omega, by omega, by omega⟩
              case measure => first | (simp [intOf]; done) | (simp [intOf]; omega)
            obtain rfl : v = Q := by omega
            obtain ⟨y, rfl⟩ : ∃ y : Nat, u = (y : Int) := ⟨q + (v - 1), by have := HU.out; omega⟩
            have hyx : y = q + (v - 1) := by have := HU.out; omega
            have hys : y < s.size := by have := HKK.out; omega
            have hyq : q ≤ y := by omega
            have hBL : (((s[y]'hys).toNat : Int) != 10) = false := by rw [byte_of_get s y hys, hyx, HYL.out]; rfl
            clear hyx
            have hu4 : 0 ≤ (q : Int) + v := by omega
            go_wp2
            go_loopw [9, 10] (fun n i wr => ∃ x d : Nat, v ≤ x ∧ x ≤ c ∧ i = .int .i64 d ∧ n = .int .i64 (indTo s q x : Int) ∧ Hid (d = q + x) ∧ w = wr) (fun _ i _ => d - (intOf i).toNat)
            case atStart => exact ⟨v, q + v, Nat.le_refl _, by omega, by first | rfl | (have := HU.out; go_num), by rw [← HLQ.out, ind_lq]; rfl, Lib.hid rfl, by trivial⟩
            case round =>
              obtain ⟨x, dd, hx1, hx2, rfl, rfl, HD2, rfl⟩ := hrel
              have hil := indTo_le s q x
              by_cases hlt6 : dd < d
              · have hds : dd < s.size := by omega
                have hb0 := byte_of_get s dd hds
                have hxc : x < c := by have := HD2.out; have := HKK.out; omega
                have e1 : indTo s q (x + 1) = indTo s q x + wid (s[dd]'hds).toNat := by
                  rw [ind_next s q x (lq_behind s q c x (by rw [HLQ.out]; exact hx1) hxc), hb0, HD2.out]
                have E1 := Lib.hid e1
                have hw8 : wid (s[dd]'hds).toNat ≤ 8 := by unfold wid; split; omega; split <;> omega
                generalize hWV : wid (s[dd]'hds).toNat = WV at hw8
                have HWV := Lib.hid hWV
                rw [HWV.out] at E1
                clear e1 hb0 hWV
                go_wp2_with fail
                refine (widB _ _).mono ?_
                rw [HWV.out]
                rintro e w' ⟨rfl, rfl⟩
                go_wp2
                go_roundw
                case rel => exact ⟨x + 1, dd + 1, by omega, by omega, by go_num, by rw [E1.out]; go_num, Lib.hid (by have := HD2.out; omega), by trivial⟩
                case measure => first | (simp [intOf]; done) | (simp [intOf]; omega)
              obtain rfl : dd = d := by have := HD2.out; have := HKK.out; omega
              obtain rfl : x = c := by have := HD2.out; have := HKK.out; omega
              clear hlt6 hx1 hx2
              by_cases hn0 : nlTo s q x = 0
              · have hn1 : decide (0 < nlTo s q x) = false := decide_eq_false (by omega)
                have hn2 : ((nlTo s q x - 1 : Nat) : Int) = 0 := by omega
                have HN2 := Lib.hid hn2
                clear hn0 hn2
                go_wp2_with fail
                refine (zzUntil s (by omega) _ HT.out).mono ?_
                intro e w' hzp
                obtain ⟨rfl, hbz⟩ := zpost_eq HV.out hzp j1 J2.out J3.out t1 T2.out T3.out HK.out
                rw [HN2.out, HKK.out]
                clear hzp
                go_wp2
                go_ret
                exact ⟨rfl, hbz⟩
              · have hn1 : 0 < nlTo s q x := by omega
                have hn2 : ((nlTo s q x - 1 : Nat) : Int) = (nlTo s q x : Int) - 1 := by omega
                have HN2 := Lib.hid hn2
                clear hn0 hn2
                go_wp2_with fail
                refine (zzUntil s (by omega) _ HT.out).mono ?_
                intro e w' hzp
                obtain ⟨rfl, hbz⟩ := zpost_eq HV.out hzp j1 J2.out J3.out t1 T2.out T3.out HK.out
                rw [HN2.out, HKK.out]
                clear hzp
                go_wp2
                go_ret
                exact ⟨rfl, hbz⟩

set_option maxHeartbeats 3200000 in
set_option maxRecDepth 100000 in
theorem core001 (s : ByteArray) (J T k : Nat) (w : World) (hz' : s.size ≤ 1048576) (hT : Lib.Utf8Tabs 0 1 w) (j1 : J ≤ s.size) (j2 : ∀ i, i < J → byteAt s i ≠ 10) (j3 : J = s.size ∨ (J < s.size ∧ byteAt s J = 10)) (t1 : T ≤ J) (t2 : ∀ i, T ≤ i → i < J → isHws (byteAt s i) = true) (t3 : T = 0 ∨ isHws (byteAt s (T - 1)) = false) (hk : WsRun s J k) (xj : J < s.size) (yj : byteAt s J = 10) (xt : 0 < T) (yt : isHws (byteAt s (T - 1)) = false) (xk : J + k = s.size) (xl : 0 < lq s J k) :
    Calls Tryd.prog 5 #[.string s] w fun e w' => e = .returned (.bool true) ∧ Below w.heap.size w w' := by
  have HT := Lib.hid hT
  have J2 := Lib.hid j2
  have J3 := Lib.hid j3
  have T2 := Lib.hid t2
  have T3 := Lib.hid t3
  have HK := Lib.hid hk
  have hkf := hk.fit
  have hq1 := lq_le s J k
  have hnl := nlTo_le s J k
  have hin := indTo_le s J k
  clear hT j2 j3 t2 t3 hk
  have hB : (((s[J]'xj).toNat : Int) != 10) = false := by rw [byte_of_get s J xj, yj]; rfl
  clear yj
  have hTs : T - 1 < s.size := by omega
  have YT : Hid (isHws (((s[T - 1]'hTs).toNat : Nat) : Int) = false) := Lib.hid (by rw [byte_of_get s (T - 1) hTs]; exact yt)
  clear yt
  obtain ⟨K, hK⟩ : ∃ K, J + k = K := ⟨_, rfl⟩
  have HKK := Lib.hid hK
  have hKJ : J ≤ K := by omega
  have hKs : K ≤ s.size := by omega
  have hxk : decide (K < s.size) = false := decide_eq_false (by omega)
  clear xk
  have hYL : byteAt s (J + (lq s J k - 1)) = 10 := by
    rcases lq_at s J k with a | a
    · omega
    · exact a
  have HYL := Lib.hid hYL
  clear hYL
  obtain ⟨Q, hQ⟩ : ∃ Q, lq s J k = Q := ⟨_, rfl⟩
  rw [hQ] at hq1 xl
  rw [hQ] at HYL
  have HLQ : Hid (lq s J k = Q) := Lib.hid hQ
  clear hK hQ
  go_enter Tryd.func5, Tryd.ntmps5
  go_wp2_with fail
  refine (bytes_ok s _ hz').mono ?_
  rintro e w' ⟨rfl, rfl⟩
  go_wp2_with fail
  refine (validUTF8B3 s (by omega) _).mono ?_
  rintro e w' ⟨b, rfl, hbv, rfl⟩
  have HBV := Lib.hid hbv
  clear hbv
  cases b
  · go_wp2
    go_ret
    exact ⟨rfl, Below.refl _ _⟩
  have HV := Lib.hid (HBV.out rfl)
  clear HBV
  go_wp2
  go_loop [3] (fun i => ∃ q : Nat, q ≤ J ∧ i = .int .i64 q) (fun i => J - (intOf i).toNat)
  case atStart => exact ⟨0, Nat.zero_le _, rfl⟩
  case round =>
    obtain ⟨q, hq, rfl⟩ := hrel
    by_cases hlt : q < J
    · have hqs : q < s.size := by omega
      have hB1 : (((s[q]'hqs).toNat : Int) != 10) = true := bne_iff_ne.2 (by rw [byte_of_get s q hqs]; have := J2.out q hlt; omega)
      go_wp2
      go_round
      case rel => exact ⟨q + 1, by omega, by go_num⟩
      case measure => first | (simp [intOf]; done) | (simp [intOf]; omega)
    obtain rfl : q = J := by omega
    clear hq hlt
    go_wp2
    go_loopw [4] (fun t wr => ∃ r : Nat, T ≤ r ∧ r ≤ q ∧ t = .int .i64 r ∧ w = wr) (fun t _ => (intOf t).toNat - (T))
    case atStart => exact ⟨q, t1, Nat.le_refl _, rfl, by trivial⟩
    case round =>
      obtain ⟨r, hr1, hr2, rfl, rfl⟩ := hrel
      by_cases hlt2 : T < r
      · obtain ⟨r', rfl⟩ : ∃ r', r = r' + 1 := ⟨r - 1, by omega⟩
        have hrs : r' < s.size := by omega
        have HB2 : Hid (isHws (((s[r']'hrs).toNat : Nat) : Int) = true) := Lib.hid (by rw [byte_of_get s r' hrs]; exact T2.out r' (by omega) (by omega))
        go_wp2_with fail
        refine (hwsB _ _).mono ?_
        rw [HB2.out]
        rintro e w' ⟨rfl, rfl⟩
        go_wp2
        go_roundw
        case rel => exact ⟨r', by omega, by omega, by go_num, by trivial⟩
        case measure => first | (simp [intOf]; done) | (simp [intOf]; omega)
      obtain rfl : r = T := by omega
      clear hr1 hr2 hlt2
      go_wp2_with fail
      refine (hwsB _ _).mono ?_
      rw [YT.out]
      rintro e w' ⟨rfl, rfl⟩
      go_wp2
      go_loopw [5] (fun t wr => ∃ r : Nat, q ≤ r ∧ r ≤ K ∧ t = .int .i64 r ∧ w = wr) (fun t _ => K - (intOf t).toNat)
      case atStart => exact ⟨q, Nat.le_refl _, hKJ, rfl, by trivial⟩
      case round =>
        obtain ⟨r, hr1, hr2, rfl, rfl⟩ := hrel
        by_cases hlt3 : r < K
        · have hrs : r < s.size := by omega
          have HB3 : Hid (isWs (((s[r]'hrs).toNat : Nat) : Int) = true) := Lib.hid (by
            rw [byte_of_get s r hrs]
            have := HK.out.all (r - q) (by have := HKK.out; omega)
            rwa [show q + (r - q) = r by omega] at this)
          go_wp2_with fail
          refine (wsB _ _).mono ?_
          rw [HB3.out]
          rintro e w' ⟨rfl, rfl⟩
          go_wp2
          go_roundw
          case rel => exact ⟨r + 1, by omega, by omega, by go_num, by trivial⟩
          case measure => first | (simp [intOf]; done) | (simp [intOf]; omega)
        obtain rfl : r = K := by omega
        clear hr1 hr2 hlt3
        go_wp2
        go_loop [6, 7] (fun n i => ∃ c d : Nat, c ≤ k ∧ i = .int .i64 d ∧ n = .int .i64 (nlTo s q c : Int) ∧ Hid (d = q + c) ∧ d ≤ r) (fun _ i => r - (intOf i).toNat)
        case atStart => exact ⟨0, q, Nat.zero_le _, rfl, rfl, Lib.hid rfl, hKJ⟩
        case round =>
          obtain ⟨c, d, hc, rfl, rfl, HD, hdr⟩ := hrel
          by_cases hlt4 : d < r
          · have hds : d < s.size := by omega
            have hb0 := byte_of_get s d hds
            have hcn := nlTo_le s q c
            have hck : c < k := by have := HD.out; have := HKK.out; omega
            by_cases h10 : byteAt s d = 10
            · have e1 : nlTo s q (c + 1) = nlTo s q c + 1 := by rw [nlTo, ← HD.out, if_pos h10]
              have E1 := Lib.hid e1
              have hB4 : (((s[d]'hds).toNat : Int) == 10) = true := beq_iff_eq.2 (by omega)
              clear e1 h10 hb0
              go_wp2
              go_round
              case rel => exact ⟨c + 1, d + 1, by omega, by go_num, by rw [E1.out]; go_num, Lib.hid (by have := HD.out; omega), by omega⟩
              case measure => first | (simp [intOf]; done) | (simp [intOf]; omega)
            · have e1 : nlTo s q (c + 1) = nlTo s q c := by rw [nlTo, ← HD.out, if_neg h10]; rfl
              have E1 := Lib.hid e1
              have hB4 : (((s[d]'hds).toNat : Int) == 10) = false := beq_eq_false_iff_ne.2 (by omega)
              clear e1 h10 hb0
              go_wp2
              go_round
              case rel => exact ⟨c + 1, d + 1, by omega, by go_num, by rw [E1.out], Lib.hid (by have := HD.out; omega), by omega⟩
              case measure => first | (simp [intOf]; done) | (simp [intOf]; omega)
          obtain rfl : d = r := by omega
          obtain rfl : c = k := by have := HD.out; have := HKK.out; omega
          clear hlt4 hdr hc
          go_wp2
          go_loop [8] (fun p => ∃ (u : Int) (v : Nat), p = .int .i64 u ∧ Hid (u = (q : Int) + v - 1) ∧ Q ≤ v ∧ v ≤ c ∧ (q : Int) - 1 ≤ u ∧ u ≤ d) (fun p => (intOf p + 2 - q).toNat)
          case atStart => exact ⟨_, c, rfl, Lib.hid (by have := HKK.out; omega), hq1, Nat.le_refl _, by omega, by omega⟩
          case round =>
            obtain ⟨u, v, rfl, HU, hv1, hv2, hu1, hu2⟩ := hrel
            by_cases hlt5 : Q < v
            · obtain ⟨x, rfl⟩ : ∃ x, v = x + 1 := ⟨v - 1, by omega⟩
              obtain ⟨y, rfl⟩ : ∃ y : Nat, u = (y : Int) := ⟨q + x, by have := HU.out; omega⟩
              have hyx : y = q + x := by have := HU.out; omega
              have hys : y < s.size := by have := HKK.out; omega
              have hB5 : (((s[y]'hys).toNat : Int) != 10) = true := bne_iff_ne.2 (by
                rw [byte_of_get s y hys, hyx]
                have := lq_behind s q c x (by rw [HLQ.out]; omega) (by omega)
                omega)
              have hyq : q ≤ y := by omega
              clear hyx
              go_wp2
              go_round
              case rel => exact ⟨_, x, rfl, Lib.hid (by have := HU.out; omega), by omega, by omega, by omega, by omega⟩
              case measure => first | (simp [intOf]; done) | (simp [intOf]; omega)
            obtain rfl : v = Q := by omega
            obtain ⟨y, rfl⟩ : ∃ y : Nat, u = (y : Int) := ⟨q + (v - 1), by have := HU.out; omega⟩
            have hyx : y = q + (v - 1) := by have := HU.out; omega
            have hys : y < s.size := by have := HKK.out; omega
            have hyq : q ≤ y := by omega
            have hBL : (((s[y]'hys).toNat : Int) != 10) = false := by rw [byte_of_get s y hys, hyx, HYL.out]; rfl
            clear hyx
            have hu4 : 0 ≤ (q : Int) + v := by omega
            go_wp2
            go_loopw [9, 10] (fun n i wr => ∃ x d : Nat, v ≤ x ∧ x ≤ c ∧ i = .int .i64 d ∧ n = .int .i64 (indTo s q x : Int) ∧ Hid (d = q + x) ∧ w = wr) (fun _ i _ => d - (intOf i).toNat)
            case atStart => exact ⟨v, q + v, Nat.le_refl _, by omega, by first | rfl | (have := HU.out; go_num), by rw [← HLQ.out, ind_lq]; rfl, Lib.hid rfl, by trivial⟩
            case round =>
              obtain ⟨x, dd, hx1, hx2, rfl, rfl, HD2, rfl⟩ := hrel
              have hil := indTo_le s q x
              by_cases hlt6 : dd < d
              · have hds : dd < s.size := by omega
                have hb0 := byte_of_get s dd hds
                have hxc : x < c := by have := HD2.out; have := HKK.out; omega
                have e1 : indTo s q (x + 1) = indTo s q x + wid (s[dd]'hds).toNat := by
                  rw [ind_next s q x (lq_behind s q c x (by rw [HLQ.out]; exact hx1) hxc), hb0, HD2.out]
                have E1 := Lib.hid e1
                have hw8 : wid (s[dd]'hds).toNat ≤ 8 := by unfold wid; split; omega; split <;> omega
                generalize hWV : wid (s[dd]'hds).toNat = WV at hw8
                have HWV := Lib.hid hWV
                rw [HWV.out] at E1
                clear e1 hb0 hWV
                go_wp2_with fail
                refine (widB _ _).mono ?_
                rw [HWV.out]
                rintro e w' ⟨rfl, rfl⟩
                go_wp2
                go_roundw
                case rel => exact ⟨x + 1, dd + 1, by omega, by omega, by go_num, by rw [E1.out]; go_num, Lib.hid (by have := HD2.out; omega), by trivial⟩
                case measure => first | (simp [intOf]; done) | (simp [intOf]; omega)
              obtain rfl : dd = d := by have := HD2.out; have := HKK.out; omega
              obtain rfl : x = c := by have := HD2.out; have := HKK.out; omega
              clear hlt6 hx1 hx2
              by_cases hn0 : nlTo s q x = 0
              · have hn1 : decide (0 < nlTo s q x) = false := decide_eq_false (by omega)
                have hn2 : ((nlTo s q x - 1 : Nat) : Int) = 0 := by omega
                have HN2 := Lib.hid hn2
                clear hn0 hn2
                go_wp2_with fail
                refine (zzUntil s (by omega) _ HT.out).mono ?_
                intro e w' hzp
                obtain ⟨rfl, hbz⟩ := zpost_eq HV.out hzp j1 J2.out J3.out t1 T2.out T3.out HK.out
                rw [HN2.out, HKK.out]
                clear hzp
                go_wp2
                go_ret
                exact ⟨rfl, hbz⟩
              · have hn1 : 0 < nlTo s q x := by omega
                have hn2 : ((nlTo s q x - 1 : Nat) : Int) = (nlTo s q x : Int) - 1 := by omega
                have HN2 := Lib.hid hn2
                clear hn0 hn2
                go_wp2_with fail
                refine (zzUntil s (by omega) _ HT.out).mono ?_
                intro e w' hzp
                obtain ⟨rfl, hbz⟩ := zpost_eq HV.out hzp j1 J2.out J3.out t1 T2.out T3.out HK.out
                rw [HN2.out, HKK.out]
                clear hzp
                go_wp2
                go_ret
                exact ⟨rfl, hbz⟩

set_option maxHeartbeats 3200000 in
set_option maxRecDepth 100000 in
theorem core000 (s : ByteArray) (J T k : Nat) (w : World) (hz' : s.size ≤ 1048576) (hT : Lib.Utf8Tabs 0 1 w) (j1 : J ≤ s.size) (j2 : ∀ i, i < J → byteAt s i ≠ 10) (j3 : J = s.size ∨ (J < s.size ∧ byteAt s J = 10)) (t1 : T ≤ J) (t2 : ∀ i, T ≤ i → i < J → isHws (byteAt s i) = true) (t3 : T = 0 ∨ isHws (byteAt s (T - 1)) = false) (hk : WsRun s J k) (xj : J < s.size) (yj : byteAt s J = 10) (xt : 0 < T) (yt : isHws (byteAt s (T - 1)) = false) (xk : J + k < s.size) (yk : isWs (byteAt s (J + k)) = false) (xl : 0 < lq s J k) :
    Calls Tryd.prog 5 #[.string s] w fun e w' => e = .returned (.bool true) ∧ Below w.heap.size w w' := by
  have HT := Lib.hid hT
  have J2 := Lib.hid j2
  have J3 := Lib.hid j3
  have T2 := Lib.hid t2
  have T3 := Lib.hid t3
  have HK := Lib.hid hk
  have hkf := hk.fit
  have hq1 := lq_le s J k
  have hnl := nlTo_le s J k
  have hin := indTo_le s J k
  clear hT j2 j3 t2 t3 hk
  have hB : (((s[J]'xj).toNat : Int) != 10) = false := by rw [byte_of_get s J xj, yj]; rfl
  clear yj
  have hTs : T - 1 < s.size := by omega
  have YT : Hid (isHws (((s[T - 1]'hTs).toNat : Nat) : Int) = false) := Lib.hid (by rw [byte_of_get s (T - 1) hTs]; exact yt)
  clear yt
  obtain ⟨K, hK⟩ : ∃ K, J + k = K := ⟨_, rfl⟩
  have HKK := Lib.hid hK
  have hKJ : J ≤ K := by omega
  have hKs : K ≤ s.size := by omega
  have hKs2 : K < s.size := by omega
  have YK : Hid (isWs (((s[K]'hKs2).toNat : Nat) : Int) = false) := Lib.hid (by rw [byte_of_get s K hKs2, ← hK]; exact yk)
  clear xk yk
  have hYL : byteAt s (J + (lq s J k - 1)) = 10 := by
    rcases lq_at s J k with a | a
    · omega
    · exact a
  have HYL := Lib.hid hYL
  clear hYL
  obtain ⟨Q, hQ⟩ : ∃ Q, lq s J k = Q := ⟨_, rfl⟩
  rw [hQ] at hq1 xl
  rw [hQ] at HYL
  have HLQ : Hid (lq s J k = Q) := Lib.hid hQ
  clear hK hQ
  go_enter Tryd.func5, Tryd.ntmps5
  go_wp2_with fail
  refine (bytes_ok s _ hz').mono ?_
  rintro e w' ⟨rfl, rfl⟩
  go_wp2_with fail
  refine (validUTF8B3 s (by omega) _).mono ?_
  rintro e w' ⟨b, rfl, hbv, rfl⟩
  have HBV := Lib.hid hbv
  clear hbv
  cases b
  · go_wp2
    go_ret
    exact ⟨rfl, Below.refl _ _⟩
  have HV := Lib.hid (HBV.out rfl)
  clear HBV
  go_wp2
  go_loop [3] (fun i => ∃ q : Nat, q ≤ J ∧ i = .int .i64 q) (fun i => J - (intOf i).toNat)
  case atStart => exact ⟨0, Nat.zero_le _, rfl⟩
  case round =>
    obtain ⟨q, hq, rfl⟩ := hrel
    by_cases hlt : q < J
    · have hqs : q < s.size := by omega
      have hB1 : (((s[q]'hqs).toNat : Int) != 10) = true := bne_iff_ne.2 (by rw [byte_of_get s q hqs]; have := J2.out q hlt; omega)
      go_wp2
      go_round
      case rel => exact ⟨q + 1, by omega, by go_num⟩
      case measure => first | (simp [intOf]; done) | (simp [intOf]; omega)
    obtain rfl : q = J := by omega
    clear hq hlt
    go_wp2
    go_loopw [4] (fun t wr => ∃ r : Nat, T ≤ r ∧ r ≤ q ∧ t = .int .i64 r ∧ w = wr) (fun t _ => (intOf t).toNat - (T))
    case atStart => exact ⟨q, t1, Nat.le_refl _, rfl, by trivial⟩
    case round =>
      obtain ⟨r, hr1, hr2, rfl, rfl⟩ := hrel
      by_cases hlt2 : T < r
      · obtain ⟨r', rfl⟩ : ∃ r', r = r' + 1 := ⟨r - 1, by omega⟩
        have hrs : r' < s.size := by omega
        have HB2 : Hid (isHws (((s[r']'hrs).toNat : Nat) : Int) = true) := Lib.hid (by rw [byte_of_get s r' hrs]; exact T2.out r' (by omega) (by omega))
        go_wp2_with fail
        refine (hwsB _ _).mono ?_
        rw [HB2.out]
        rintro e w' ⟨rfl, rfl⟩
        go_wp2
        go_roundw
        case rel => exact ⟨r', by omega, by omega, by go_num, by trivial⟩
        case measure => first | (simp [intOf]; done) | (simp [intOf]; omega)
      obtain rfl : r = T := by omega
      clear hr1 hr2 hlt2
      go_wp2_with fail
      refine (hwsB _ _).mono ?_
      rw [YT.out]
      rintro e w' ⟨rfl, rfl⟩
      go_wp2
      go_loopw [5] (fun t wr => ∃ r : Nat, q ≤ r ∧ r ≤ K ∧ t = .int .i64 r ∧ w = wr) (fun t _ => K - (intOf t).toNat)
      case atStart => exact ⟨q, Nat.le_refl _, hKJ, rfl, by trivial⟩
      case round =>
        obtain ⟨r, hr1, hr2, rfl, rfl⟩ := hrel
        by_cases hlt3 : r < K
        · have hrs : r < s.size := by omega
          have HB3 : Hid (isWs (((s[r]'hrs).toNat : Nat) : Int) = true) := Lib.hid (by
            rw [byte_of_get s r hrs]
            have := HK.out.all (r - q) (by have := HKK.out; omega)
            rwa [show q + (r - q) = r by omega] at this)
          go_wp2_with fail
          refine (wsB _ _).mono ?_
          rw [HB3.out]
          rintro e w' ⟨rfl, rfl⟩
          go_wp2
          go_roundw
          case rel => exact ⟨r + 1, by omega, by omega, by go_num, by trivial⟩
          case measure => first | (simp [intOf]; done) | (simp [intOf]; omega)
        obtain rfl : r = K := by omega
        clear hr1 hr2 hlt3
        go_wp2_with fail
        refine (wsB _ _).mono ?_
        rw [YK.out]
        rintro e w' ⟨rfl, rfl⟩
        go_wp2
        go_loop [6, 7] (fun n i => ∃ c d : Nat, c ≤ k ∧ i = .int .i64 d ∧ n = .int .i64 (nlTo s q c : Int) ∧ Hid (d = q + c) ∧ d ≤ r) (fun _ i => r - (intOf i).toNat)
        case atStart => exact ⟨0, q, Nat.zero_le _, rfl, rfl, Lib.hid rfl, hKJ⟩
        case round =>
          obtain ⟨c, d, hc, rfl, rfl, HD, hdr⟩ := hrel
          by_cases hlt4 : d < r
          · have hds : d < s.size := by omega
            have hb0 := byte_of_get s d hds
            have hcn := nlTo_le s q c
            have hck : c < k := by have := HD.out; have := HKK.out; omega
            by_cases h10 : byteAt s d = 10
            · have e1 : nlTo s q (c + 1) = nlTo s q c + 1 := by rw [nlTo, ← HD.out, if_pos h10]
              have E1 := Lib.hid e1
              have hB4 : (((s[d]'hds).toNat : Int) == 10) = true := beq_iff_eq.2 (by omega)
              clear e1 h10 hb0
              go_wp2
              go_round
              case rel => exact ⟨c + 1, d + 1, by omega, by go_num, by rw [E1.out]; go_num, Lib.hid (by have := HD.out; omega), by omega⟩
              case measure => first | (simp [intOf]; done) | (simp [intOf]; omega)
            · have e1 : nlTo s q (c + 1) = nlTo s q c := by rw [nlTo, ← HD.out, if_neg h10]; rfl
              have E1 := Lib.hid e1
              have hB4 : (((s[d]'hds).toNat : Int) == 10) = false := beq_eq_false_iff_ne.2 (by omega)
              clear e1 h10 hb0
              go_wp2
              go_round
              case rel => exact ⟨c + 1, d + 1, by omega, by go_num, by rw [E1.out], Lib.hid (by have := HD.out; omega), by omega⟩
              case measure => first | (simp [intOf]; done) | (simp [intOf]; omega)
          obtain rfl : d = r := by omega
          obtain rfl : c = k := by have := HD.out; have := HKK.out; omega
          clear hlt4 hdr hc
          go_wp2
          go_loop [8] (fun p => ∃ (u : Int) (v : Nat), p = .int .i64 u ∧ Hid (u = (q : Int) + v - 1) ∧ Q ≤ v ∧ v ≤ c ∧ (q : Int) - 1 ≤ u ∧ u ≤ d) (fun p => (intOf p + 2 - q).toNat)
          case atStart => exact ⟨_, c, rfl, Lib.hid (by have := HKK.out; omega), hq1, Nat.le_refl _, by omega, by omega⟩
          case round =>
            obtain ⟨u, v, rfl, HU, hv1, hv2, hu1, hu2⟩ := hrel
            by_cases hlt5 : Q < v
            · obtain ⟨x, rfl⟩ : ∃ x, v = x + 1 := ⟨v - 1, by omega⟩
              obtain ⟨y, rfl⟩ : ∃ y : Nat, u = (y : Int) := ⟨q + x, by have := HU.out; omega⟩
              have hyx : y = q + x := by have := HU.out; omega
              have hys : y < s.size := by have := HKK.out; omega
              have hB5 : (((s[y]'hys).toNat : Int) != 10) = true := bne_iff_ne.2 (by
                rw [byte_of_get s y hys, hyx]
                have := lq_behind s q c x (by rw [HLQ.out]; omega) (by omega)
                omega)
              have hyq : q ≤ y := by omega
              clear hyx
              go_wp2
              go_round
              case rel => exact ⟨_, x, rfl, Lib.hid (by have := HU.out; omega), by omega, by omega, by omega, by omega⟩
              case measure => first | (simp [intOf]; done) | (simp [intOf]; omega)
            obtain rfl : v = Q := by omega
            obtain ⟨y, rfl⟩ : ∃ y : Nat, u = (y : Int) := ⟨q + (v - 1), by have := HU.out; omega⟩
            have hyx : y = q + (v - 1) := by have := HU.out; omega
            have hys : y < s.size := by have := HKK.out; omega
            have hyq : q ≤ y := by omega
            have hBL : (((s[y]'hys).toNat : Int) != 10) = false := by rw [byte_of_get s y hys, hyx, HYL.out]; rfl
            clear hyx
            have hu4 : 0 ≤ (q : Int) + v := by omega
            go_wp2
            go_loopw [9, 10] (fun n i wr => ∃ x d : Nat, v ≤ x ∧ x ≤ c ∧ i = .int .i64 d ∧ n = .int .i64 (indTo s q x : Int) ∧ Hid (d = q + x) ∧ w = wr) (fun _ i _ => d - (intOf i).toNat)
            case atStart => exact ⟨v, q + v, Nat.le_refl _, by omega, by first | rfl | (have := HU.out; go_num), by rw [← HLQ.out, ind_lq]; rfl, Lib.hid rfl, by trivial⟩
            case round =>
              obtain ⟨x, dd, hx1, hx2, rfl, rfl, HD2, rfl⟩ := hrel
              have hil := indTo_le s q x
              by_cases hlt6 : dd < d
              · have hds : dd < s.size := by omega
                have hb0 := byte_of_get s dd hds
                have hxc : x < c := by have := HD2.out; have := HKK.out; omega
                have e1 : indTo s q (x + 1) = indTo s q x + wid (s[dd]'hds).toNat := by
                  rw [ind_next s q x (lq_behind s q c x (by rw [HLQ.out]; exact hx1) hxc), hb0, HD2.out]
                have E1 := Lib.hid e1
                have hw8 : wid (s[dd]'hds).toNat ≤ 8 := by unfold wid; split; omega; split <;> omega
                generalize hWV : wid (s[dd]'hds).toNat = WV at hw8
                have HWV := Lib.hid hWV
                rw [HWV.out] at E1
                clear e1 hb0 hWV
                go_wp2_with fail
                refine (widB _ _).mono ?_
                rw [HWV.out]
                rintro e w' ⟨rfl, rfl⟩
                go_wp2
                go_roundw
                case rel => exact ⟨x + 1, dd + 1, by omega, by omega, by go_num, by rw [E1.out]; go_num, Lib.hid (by have := HD2.out; omega), by trivial⟩
                case measure => first | (simp [intOf]; done) | (simp [intOf]; omega)
              obtain rfl : dd = d := by have := HD2.out; have := HKK.out; omega
              obtain rfl : x = c := by have := HD2.out; have := HKK.out; omega
              clear hlt6 hx1 hx2
              by_cases hn0 : nlTo s q x = 0
              · have hn1 : decide (0 < nlTo s q x) = false := decide_eq_false (by omega)
                have hn2 : ((nlTo s q x - 1 : Nat) : Int) = 0 := by omega
                have HN2 := Lib.hid hn2
                clear hn0 hn2
                go_wp2_with fail
                refine (zzUntil s (by omega) _ HT.out).mono ?_
                intro e w' hzp
                obtain ⟨rfl, hbz⟩ := zpost_eq HV.out hzp j1 J2.out J3.out t1 T2.out T3.out HK.out
                rw [HN2.out, HKK.out]
                clear hzp
                go_wp2
                go_ret
                exact ⟨rfl, hbz⟩
              · have hn1 : 0 < nlTo s q x := by omega
                have hn2 : ((nlTo s q x - 1 : Nat) : Int) = (nlTo s q x : Int) - 1 := by omega
                have HN2 := Lib.hid hn2
                clear hn0 hn2
                go_wp2_with fail
                refine (zzUntil s (by omega) _ HT.out).mono ?_
                intro e w' hzp
                obtain ⟨rfl, hbz⟩ := zpost_eq HV.out hzp j1 J2.out J3.out t1 T2.out T3.out HK.out
                rw [HN2.out, HKK.out]
                clear hzp
                go_wp2
                go_ret
                exact ⟨rfl, hbz⟩

set_option maxRecDepth 100000 in
theorem walk (s : ByteArray) (w : World) (hs : s.size ≤ maxLen) (hL : laidMetH Tryd.prog Rows.fnLexUntilNewlineExactRow.laid w) :
    Calls Tryd.prog 5 #[.string s] w fun e w' => e = .returned (.bool true) ∧ Below w.heap.size w w' := by
  have hT := tabs_of_laid (by kernel_rfl) (by simp [Rows.fnLexUntilNewlineExactRow]) (by simp [Rows.fnLexUntilNewlineExactRow]) hL
  clear hL
  by_cases hz : 1048576 < s.size
  · clear hT
    go_enter Tryd.func5, Tryd.ntmps5
    go_wp2_with (go_at_call 26; refine (bytes_no s _ hs hz).mono ?_; rintro e w' ⟨rfl, rfl⟩)
    go_ret
    exact ⟨rfl, Below.refl _ _⟩
  have hz' : s.size ≤ 1048576 := by omega
  obtain ⟨J, j1, j2, j3⟩ := firstStop (fun i => decide (byteAt s i ≠ 10)) s.size
  have j2' : ∀ i, i < J → byteAt s i ≠ 10 := fun i hi => of_decide_eq_true (j2 i hi)
  have j3' : J = s.size ∨ (J < s.size ∧ byteAt s J = 10) := by
    rcases j3 with a | ⟨a, b⟩
    · exact .inl a
    · exact .inr ⟨a, by simpa using b⟩
  obtain ⟨T, t1, t2, t3⟩ := lastStop (fun i => isHws (byteAt s i)) J
  obtain ⟨k, hk⟩ := wsRun_ex s J j1
  have hkf := hk.fit
  have ht0 : T = 0 ∨ 0 < T := by omega
  have t3' : 0 < T → isHws (byteAt s (T - 1)) = false := fun h => by
    rcases t3 with a | a
    · omega
    · exact a
  rcases j3' with xj | ⟨xj, yj⟩
  · have hk0 : k = 0 := by omega
    have xl : lq s J k = 0 := by rw [hk0]; rfl
    rcases ht0 with xt | xt
    · exact core111 s J T k w hz' hT j1 j2' (.inl xj) t1 t2 t3 hk xj xt (by omega) xl
    · exact core101 s J T k w hz' hT j1 j2' (.inl xj) t1 t2 t3 hk xj xt (t3' xt) (by omega) xl
  · have hk1 : 0 < k := by
      rcases Nat.eq_zero_or_pos k with h0 | h0
      · subst h0
        rcases hk.stop with a | ⟨_, a⟩
        · omega
        · rw [Nat.add_zero, yj] at a
          cases a
      · exact h0
    have xl : 0 < lq s J k := by
      rcases Nat.eq_zero_or_pos (lq s J k) with h0 | h0
      · exact absurd yj (lq_behind s J k 0 (by omega) hk1)
      · exact h0
    rcases hk.stop with xk | ⟨xk, yk⟩
    · rcases ht0 with xt | xt
      · exact core011 s J T k w hz' hT j1 j2' (.inr ⟨xj, yj⟩) t1 t2 t3 hk xj yj xt xk xl
      · exact core001 s J T k w hz' hT j1 j2' (.inr ⟨xj, yj⟩) t1 t2 t3 hk xj yj xt (t3' xt) xk xl
    · rcases ht0 with xt | xt
      · exact core010 s J T k w hz' hT j1 j2' (.inr ⟨xj, yj⟩) t1 t2 t3 hk xj yj xt xk yk xl
      · exact core000 s J T k w hz' hT j1 j2' (.inr ⟨xj, yj⟩) t1 t2 t3 hk xj yj xt (t3' xt) xk yk xl

end Go.Proofs.YtgcgafkedhohcaaDoor.fnLexUntilNewlineExact
