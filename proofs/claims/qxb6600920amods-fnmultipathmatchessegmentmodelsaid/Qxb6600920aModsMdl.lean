/- zzMultipathModel (13): its walk, under four cuts. -/
import Derived.Test.Qxb6600920aModsMw
import Derived.Deep.LoopGhost
import Derived.Deep.CutBlock
import Derived.Deep.DeepCutAuto
namespace Go.Proofs.Qxb6600920aMods
open Go.RowKit


/-- What the second loop keeps. -/
def R2 (s : ByteArray) (w : World) (q : Nat) (g : Nat) (d e c k : Value) (wx : World) : Prop :=
  ∃ (K : Nat) (D E : Int) (V : Value), V = c ∧ d = .int .i64 D ∧ e = .int .i64 E ∧ k = .int .i64 K ∧ W2 s w q K V wx ∧ K ≤ s.size ∧ g = s.size + 1 - K ∧
    ((E = -1 ∧ D = dAt s.data.toList K ∧ ∀ j, j < K → finB s.data.toList j = false) ∨ (∃ x : Nat, K = x + 1 ∧ E = x ∧ finB s.data.toList x = true ∧ ∀ j, j < x → finB s.data.toList j = false))

theorem fin_to {L : List UInt8} {K : Nat} (h : ∀ j, j < K → finB L j = false) (hk : finB L K = false) : ∀ j, j < K + 1 → finB L j = false := fun j hj => by
  by_cases e : j = K
  · subst e; exact hk
  · exact h j (by omega)

theorem r2_idle (s : ByteArray) (K : Nat) (hs : synB s.data.toList K = false) (h : ∀ j, j < K → finB s.data.toList j = false) :
    dAt s.data.toList (K + 1) = dAt s.data.toList K ∧ ∀ j, j < K + 1 → finB s.data.toList j = false :=
  ⟨by simp [dAt, hs], fin_to h (by simp only [finB, hs, Bool.false_and])⟩

theorem open_not_comma {L : List UInt8} {K : Nat} (h : isOpen (L.getD K 0) = true ∨ isClose (L.getD K 0) = true) : comB L K = false := by
  have q1 : (L.getD K 0 == 44) = false := by
    rw [beq_eq_false_iff_ne]
    intro e
    rw [e] at h
    simp [isOpen, isClose] at h
  simp only [comB, q1, Bool.and_false, Bool.false_and]

theorem r2_open (s : ByteArray) (K : Nat) (hs : synB s.data.toList K = true) (h : ∀ j, j < K → finB s.data.toList j = false) (ho : isOpen (s.data.toList.getD K 0) = true) :
    dAt s.data.toList (K + 1) = dAt s.data.toList K + 1 ∧ comB s.data.toList K = false ∧ ∀ j, j < K + 1 → finB s.data.toList j = false := by
  have hcl := (open_ne _ ho).2.2.2.2.2
  refine ⟨by rw [dAt, if_pos hs, if_pos ho], open_not_comma (.inl ho), fin_to h ?_⟩
  simp only [finB, hcl, Bool.and_false, Bool.false_and]

theorem r2_close (s : ByteArray) (K : Nat) (hs : synB s.data.toList K = true) (hc : isClose (s.data.toList.getD K 0) = true) :
    dAt s.data.toList (K + 1) = (if isOpen (s.data.toList.getD K 0) = true then dAt s.data.toList K + 1 else dAt s.data.toList K - 1) ∧ comB s.data.toList K = false ∧
    (1 = dAt s.data.toList K → finB s.data.toList K = true) ∧ (dAt s.data.toList K ≠ 1 → finB s.data.toList K = false) := by
  refine ⟨by rw [dAt, if_pos hs, if_pos hc], open_not_comma (.inr hc), fun hd => ?_, fun hd => ?_⟩
  · simp only [finB, hs, hc, ← hd]; rfl
  · have q : (dAt s.data.toList K == 1) = false := beq_eq_false_iff_ne.2 hd
    simp only [finB, q, Bool.and_false]

theorem r2_plain (s : ByteArray) (K : Nat) (hs : synB s.data.toList K = true) (h : ∀ j, j < K → finB s.data.toList j = false) (ho : isOpen (s.data.toList.getD K 0) = false) (hc : isClose (s.data.toList.getD K 0) = false) :
    dAt s.data.toList (K + 1) = dAt s.data.toList K ∧ ∀ j, j < K + 1 → finB s.data.toList j = false := by
  refine ⟨by rw [dAt, if_pos hs, ho, hc]; simp, fin_to h ?_⟩
  simp only [finB, hc, Bool.and_false, Bool.false_and]

theorem r2_nocomma (s : ByteArray) (K : Nat) (h : ¬ (s.data.toList.getD K 0 = 44 ∧ dAt s.data.toList K = 1)) : comB s.data.toList K = false := by
  by_cases h1 : s.data.toList.getD K 0 = 44
  · have q : (dAt s.data.toList K == 1) = false := beq_eq_false_iff_ne.2 (fun h2 => h ⟨h1, h2⟩)
    simp only [comB, q, Bool.and_false]
  · have q : (s.data.toList.getD K 0 == 44) = false := beq_eq_false_iff_ne.2 h1
    simp only [comB, q, Bool.and_false, Bool.false_and]

theorem r2_comma (s : ByteArray) (K : Nat) (hs : synB s.data.toList K = true) (h1 : s.data.toList.getD K 0 = 44) (h2 : dAt s.data.toList K = 1) : comB s.data.toList K = true := by
  simp only [comB, hs, h1, h2]; rfl


/-- What the third pass's outer loop keeps. -/
def R3 (s : ByteArray) (wd : World) (x m : Nat) (g : Nat) (v a e : Value) (wx : World) : Prop :=
  ∃ (E A : Nat) (V : Value), V = v ∧ a = .int .i64 A ∧ e = .int .i64 E ∧ Hid (A = startOf 1 ((ends s.data.toList x).take E)) ∧ E ≤ m + 1 ∧ g = m + 2 - E ∧ Hid (Below wd.heap.size wd wx) ∧
    Hid (wx.ownsRow wd.heap.size 9 1 V E (elems s (segsOf s.data.toList 1 ((ends s.data.toList x).take E))))

theorem atAfter_succ (s : ByteArray) (j : Nat) (hj : j < s.size) : atAfter s.data.toList (j + 1) = (s[j] == 46 || s[j] == 124) := by
  simp only [atAfter, Nat.add_sub_cancel, getD_byte s j hj]
  simp

set_option maxRecDepth 100000 in
set_option maxHeartbeats 8000000 in
theorem model_any (s : ByteArray) (w : World) (hs : s.size ≤ 65536) :
    Calls Trym.prog 13 #[.string s] w fun e w' => MPost s w e w' := by
  have hm1 := run_make_row' (P := Trym.prog) 33 4 (.bool false) 1 Trym.underlying33 info4 rfl .i64 .i64 s.size (by omega) (by omega)
  have hm2 := run_make_row' (P := Trym.prog) 35 3 (.int .i64 0) 8 Trym.underlying35 info3 rfl .i64 .i64 s.size (by omega) (by omega)
  go_enter Trym.func13, Trym.ntmps13
  go_upto_block 0 with fail
  go_cut [6, 7, 8] (fun _ _ _ wx => W1d s w wx)
  case first =>
    clear hm1 hm2
    go_wp2_with fail
    go_loopg [6] (s.size + 1) (fun g i wx => ∃ k : Nat, k ≤ s.size + 1 ∧ g = s.size + 1 - k ∧ i = .int .i64 k ∧ Hid (modeAt s.data.toList k = 0) ∧ Hid (W1 s w k wx))
    case atStart => exact ⟨0, by omega, by omega, rfl, rfl, W1.start s w⟩
    case round =>
      obtain ⟨k, hk, rfl, rfl, HM, HW⟩ := hrel
      by_cases hlt : k < s.size
      · have hgd : s.data.toList.getD k 0 = s[k] := getD_byte s k hlt
        have hki : (k : Int) < (s.size : Int) := by omega
        by_cases h92 : s[k] = 92
        · have e1 : (s[k].toNat : Int) = 92 := byte_int s[k] 92 (by omega) h92
          have hq := mode_esc HM.out (hgd.trans h92)
          have HM2 : Hid (modeAt s.data.toList (k + 2) = 0) := hq.1
          have HW2 : Hid (W1 s w (k + 2) wr) := HW.out.skip (k + 2) (by omega) hq.2
          clear h92 HM HW hgd hq
          go_wp2
          go_roundg (s.size + 1 - (k + 2))
          case measure => omega
          case rel => exact ⟨k + 2, by omega, rfl, by go_num, HM2, HW2⟩
        have b92 : ((s[k].toNat : Int) == 92) = false := byte_ne s[k] 92 (by omega) h92
        by_cases h34 : s[k] = 34
        · have e1 : (s[k].toNat : Int) = 34 := byte_int s[k] 34 (by omega) h34
          cases hn : sScan false (s.data.toList.drop (k + 1)) with
          | none =>
            have HW2 : Hid (W1d s w wr) := HW.out.done (fun j h1 h2 => mode_open HM.out (hgd.trans h34) hn j h1 (by simpa using h2))
            have HQ : Hid (qClose s.data.toList k = -1) := by show _ = _; unfold qClose; rw [hn]
            clear h92 HM HW hgd hn h34 b92
            go_wp2_with fail
            refine (quoteClose_any s k _ (by omega) hlt).mono ?_
            rintro e w' ⟨rfl, rfl⟩
            rw [HQ.out]
            go_wp2
            go_meet
            exact HW2.out
          | some n =>
            have hnl : k + n < s.size := by
              have := (sScan_le _ _ _ hn).2
              simp at this
              omega
            have hq := mode_quote HM.out (hgd.trans h34) hn
            have HM2 : Hid (modeAt s.data.toList (k + n + 1) = 0) := hq.1
            have HW2 : Hid (W1 s w (k + n + 1) wr) := HW.out.skip (k + n + 1) (by omega) hq.2
            have HQ : Hid (qClose s.data.toList k = (k : Int) + n) := by show _ = _; unfold qClose; rw [hn]
            clear h92 HM HW hgd hn h34 b92 hq
            go_wp2_with fail
            refine (quoteClose_any s k _ (by omega) hlt).mono ?_
            rintro e w' ⟨rfl, rfl⟩
            rw [HQ.out]
            go_wp2
            go_roundg (s.size + 1 - (k + n + 1))
            case measure => omega
            case rel => exact ⟨k + n + 1, by omega, rfl, by go_num, HM2, HW2⟩
        have b34 : ((s[k].toNat : Int) == 34) = false := byte_ne s[k] 34 (by omega) h34
        have hq := mode_plain HM.out (by rw [hgd]; exact h92) (by rw [hgd]; exact h34)
        have HM2 : Hid (modeAt s.data.toList (k + 1) = 0) := hq.1
        have HW2 : Hid (W1 s w (k + 1) (wr.setCell ⟨w.heap.size, k, none⟩ (.bool true))) := HW.out.mark hq.2
        have hc := HW.out.1.cell hlt
        have hf := HW.out.1.frozen k
        clear h92 HM HW hgd h34 hq
        go_wp2
        go_roundg (s.size + 1 - (k + 1))
        case measure => omega
        case rel => exact ⟨k + 1, by omega, rfl, by go_num, HM2, HW2⟩
      · have HW2 : Hid (W1d s w wr) := HW.out.done (fun j h1 h2 => by omega)
        clear HM HW
        go_wp2
        go_meet
        exact HW2.out
  case rest =>
    have HC : Hid (W1d s w wc) := hcut
    clear hcut
    obtain ⟨wb, rfl⟩ : ∃ wb, wb = wc := ⟨wc, rfl⟩
    obtain ⟨i0, hi, hz0, hz1, hz2⟩ := info_parts info3
    go_upto_block 2 with fail
    clear hm1 hm2
    go_cut [10, 11, 12, 13, 14] (fun _ e c _ _ wx => ∃ (E : Int) (K : Nat) (V : Value), V = c ∧ e = .int .i64 E ∧ Hid (W2 s w wb.heap.size K V wx) ∧ Hid ((E = -1 ∧ ∀ j, j < s.size → finB s.data.toList j = false) ∨ (∃ x : Nat, K = x + 1 ∧ x < s.size ∧ E = x ∧ finB s.data.toList x = true ∧ ∀ j, j < x → finB s.data.toList j = false)))
    case first =>
      go_wp2_with fail
      go_loopg [10, 11, 12, 13] (s.size + 1) (fun g d e c k wx => R2 s w wb.heap.size g d e c k wx)
      case atStart => exact ⟨0, 0, -1, _, rfl, rfl, rfl, rfl, W2.start HC.out, by omega, by omega, .inl ⟨rfl, rfl, fun j hj => by omega⟩⟩
      case round =>
        clear HC
        obtain ⟨K, D, E, V, rfl, rfl, rfl, rfl, hw2, hk, rfl, hcase⟩ := hrel
        have HW : Hid (W2 s w wb.heap.size K V wr) := hw2
        clear hw2
        rcases hcase with ⟨rfl, hd, hfin⟩ | ⟨x, rfl, rfl, hf1, hf2⟩
        · have HF : Hid (∀ j, j < K → finB s.data.toList j = false) := hfin
          have HD : Hid (D = dAt s.data.toList K) := hd
          have hb := dAt_bound s.data.toList K
          have hb1 : -(K : Int) ≤ D := by rw [hd]; exact hb.1
          have hb2 : D ≤ (K : Int) := by rw [hd]; exact hb.2
          clear hb hd hfin
          by_cases hlt : K < s.size
          · have hki : (K : Int) < (s.size : Int) := by omega
            have hgd : s.data.toList.getD K 0 = s[K] := getD_byte s K hlt
            have hc1 := HW.out.syn.cell hlt
            cases hsy : synB s.data.toList K with
            | false =>
              rw [hsy] at hc1
              have HW2 := HW.out.idle hsy
              have HN := r2_idle s K hsy HF.out
              have HW3 : Hid (W2 s w wb.heap.size (K + 1) V wr) := HW2
              have HN3 : Hid (dAt s.data.toList (K + 1) = dAt s.data.toList K ∧ ∀ j, j < K + 1 → finB s.data.toList j = false) := HN
              clear HW2 HN hsy HW hgd HF
              go_wp2
              go_roundg (s.size + 1 - (K + 1))
              case measure => omega
              case rel => exact ⟨K + 1, D, -1, V, rfl, rfl, rfl, by go_num, HW3.out, by omega, rfl, .inl ⟨rfl, HD.out.trans HN3.out.1.symm, HN3.out.2⟩⟩
            | true =>
              rw [hsy] at hc1
              have hc2 := HW.out.dep.cell hlt
              have hf2 := HW.out.dep.frozen K
              have hne : w.heap.size ≠ wb.heap.size := by have := HW.out.lq; omega
              generalize hgen : (Value.int IntKind.i64 (if K < K ∧ synB s.data.toList K = true then dAt s.data.toList K else 0)) = vold at hc2
              clear hgen
              have HS : Hid (synB s.data.toList K = true) := hsy
              clear hsy
              cases ho : isOpen s[K] with
              | true =>
                have HO : Hid (isOpen s[K] = true) := ho
                have HN3 := r2_open s K HS.out HF.out (by rw [hgd]; exact ho)
                have HN : Hid (dAt s.data.toList (K + 1) = D + 1 ∧ ∀ j, j < K + 1 → finB s.data.toList j = false) := ⟨by rw [HN3.1, ← HD.out], HN3.2.2⟩
                have HW3 : Hid (W2 s w wb.heap.size (K + 1) V (wr.setCell ⟨wb.heap.size, K, none⟩ (.int .i64 D))) := by
                  have := HW.out.note HS.out HN3.2.1
                  rw [← HD.out] at this
                  exact this
                clear HN3 ho hgd HF HW
                go_wp2_with fail
                refine (isOpen_any s[K] _).mono ?_
                rintro e w1 ⟨rfl, hw⟩
                have hw2 := hw.symm
                subst hw2
                clear hw
                rw [HO.out]
                go_wp2
                go_roundg (s.size + 1 - (K + 1))
                case measure => omega
                case rel => exact ⟨K + 1, D + 1, -1, V, rfl, by go_num, rfl, by go_num, HW3.out, by omega, rfl, .inl ⟨rfl, HN.out.1.symm, HN.out.2⟩⟩
              | false =>
                have HO : Hid (isOpen s[K] = false) := ho
                cases hcl : isClose s[K] with
                | true =>
                  have HCl : Hid (isClose s[K] = true) := hcl
                  have HN3 := r2_close s K HS.out (by rw [hgd]; exact hcl)
                  have HW3 : Hid (W2 s w wb.heap.size (K + 1) V (wr.setCell ⟨wb.heap.size, K, none⟩ (.int .i64 D))) := by
                    have := HW.out.note HS.out HN3.2.1
                    rw [← HD.out] at this
                    exact this
                  by_cases q1 : D = 1
                  · have HN : Hid (finB s.data.toList K = true) := HN3.2.2.1 (q1.symm.trans HD.out)
                    have g1 : (D == 1) = true := by simpa using q1
                    clear HN3 ho hgd HW q1 hcl
                    go_wp2_with fail
                    refine (isOpen_any s[K] _).mono ?_
                    rintro e w1 ⟨rfl, hw⟩
                    have hw2 := hw.symm
                    subst hw2
                    clear hw
                    rw [HO.out]
                    go_wp2_with fail
                    refine (isClose_any s[K] _).mono ?_
                    rintro e w1 ⟨rfl, hw⟩
                    have hw2 := hw.symm
                    subst hw2
                    clear hw
                    rw [HCl.out]
                    go_wp2
                    go_roundg (s.size + 1 - (K + 1))
                    case measure => omega
                    case rel => exact ⟨K + 1, D - 1, (K : Int), V, rfl, by go_num, rfl, by go_num, HW3.out, by omega, rfl, .inr ⟨K, rfl, rfl, HN.out, HF.out⟩⟩
                  · have HN : Hid (dAt s.data.toList (K + 1) = D - 1 ∧ ∀ j, j < K + 1 → finB s.data.toList j = false) := ⟨by rw [HN3.1, hgd, ho, ← HD.out]; simp, fun j hj => by
                      by_cases e : j = K
                      · subst e; exact HN3.2.2.2 (fun h => q1 (HD.out.trans h))
                      · exact HF.out j (by omega)⟩
                    have g1 : (D == 1) = false := by simpa using q1
                    clear HN3 ho hgd HW q1 HF hcl
                    go_wp2_with fail
                    refine (isOpen_any s[K] _).mono ?_
                    rintro e w1 ⟨rfl, hw⟩
                    have hw2 := hw.symm
                    subst hw2
                    clear hw
                    rw [HO.out]
                    go_wp2_with fail
                    refine (isClose_any s[K] _).mono ?_
                    rintro e w1 ⟨rfl, hw⟩
                    have hw2 := hw.symm
                    subst hw2
                    clear hw
                    rw [HCl.out]
                    go_wp2
                    go_roundg (s.size + 1 - (K + 1))
                    case measure => omega
                    case rel => exact ⟨K + 1, D - 1, -1, V, rfl, by go_num, rfl, by go_num, HW3.out, by omega, rfl, .inl ⟨rfl, HN.out.1.symm, HN.out.2⟩⟩
                | false =>
                  have HCl : Hid (isClose s[K] = false) := hcl
                  have HN0 := r2_plain s K HS.out HF.out (by rw [hgd]; exact ho) (by rw [hgd]; exact hcl)
                  have HN : Hid (dAt s.data.toList (K + 1) = D ∧ ∀ j, j < K + 1 → finB s.data.toList j = false) := ⟨by rw [HN0.1, ← HD.out], HN0.2⟩
                  by_cases hcm : s[K] = 44 ∧ D = 1
                  · obtain ⟨h44, q1⟩ := hcm
                    have hct : comB s.data.toList K = true := r2_comma s K HS.out (hgd.trans h44) (HD.out.symm.trans q1)
                    have HCM : Hid (comB s.data.toList K = true) := hct
                    have H44 : Hid (s[K] = 44) := h44
                    have g1 : (D == 1) = true := by simpa using q1
                    obtain ⟨m, hm⟩ : ∃ m, m = (commasTo s.data.toList K).length := ⟨_, rfl⟩
                    have hmk : m ≤ K := by rw [hm]; exact (commas_bound _ K).1
                    have HML : Hid (m = (commasTo s.data.toList K).length) := hm
                    have hqs : wb.heap.size < wr.heap.size := HW.out.dep.lt
                    have HO2 : Hid ((wr.setCell ⟨wb.heap.size, K, none⟩ (.int .i64 D)).ownsRow (wb.heap.size + 1) 3 1 V m (cvals (commasTo s.data.toList K))) := by
                      have := ownsRow_setCell_below HW.out.com (a := ⟨wb.heap.size, K, none⟩) (by show wb.heap.size < wb.heap.size + 1; omega) (.int .i64 D)
                      rw [← hm] at this
                      exact this
                    clear hct h44 q1 hm HN0 hcl ho hgd HF
                    go_wp2_with fail
                    refine (isOpen_any s[K] _).mono ?_
                    rintro e w1 ⟨rfl, hw⟩
                    have hw2 := hw.symm
                    subst hw2
                    clear hw
                    rw [HO.out]
                    go_wp2_with fail
                    refine (isClose_any s[K] _).mono ?_
                    rintro e w1 ⟨rfl, hw⟩
                    have hw2 := hw.symm
                    subst hw2
                    clear hw
                    rw [HCl.out]
                    have e1 : (s[K].toNat : Int) = 44 := byte_int s[K] 44 (by omega) H44.out
                    go_wp2_with (at_builtin; refine wpList_append_lies _ rfl (.tmp 90) (.tmp 92) 35 rfl (wb.heap.size + 1) 3 i0 (.int .i64 0) 1 8 Trym.underlying35 hi hz0 hz1 hz2 rfl (by decide) _ _ _ rfl (HO2.out.alloc _) ⟨wr.heap.size, 0, none⟩ 1 1 [.int .i64 (K : Int)] rfl rfl ?_ ?_ (by decide) ?_ ?_ ?_ _ rfl ?_)
                    · have hz := World.news_of_block (heap_alloc_new (wr.setCell ⟨wb.heap.size, K, none⟩ (.int .i64 D)) (.cells #[Value.int .i64 (K : Int)] 3))
                      simp [World.setCell] at hz ⊢
                      exact hz
                    · intro u hu; simp at hu; subst hu; rfl
                    · unfold maxLen; omega
                    · omega
                    · simp [World.setCell]; omega
                    intro g cap w1 hown1 hgrow1 x1 hlt1
                    have HW3 : Hid (W2 s w wb.heap.size (K + 1) (.slice (some ⟨g, 0, none⟩) (m + 1) cap) w1) := by
                      refine HW.out.comma HS.out HCM.out HML.out (.cells #[Value.int .i64 (K : Int)] 3) hown1 ?_
                      rw [← HD.out]
                      exact hgrow1
                    clear hown1 hgrow1 x1 hlt1
                    go_wp2
                    go_roundg (s.size + 1 - (K + 1))
                    case measure => omega
                    case rel => exact ⟨K + 1, D, -1, _, rfl, by first | rfl | go_num, rfl, by go_num, HW3.out, by omega, rfl, .inl ⟨rfl, HN.out.1.symm, HN.out.2⟩⟩
                  · have hcf : comB s.data.toList K = false := r2_nocomma s K (by rw [hgd]; intro h; exact hcm ⟨h.1, HD.out.trans h.2⟩)
                    have HW3 : Hid (W2 s w wb.heap.size (K + 1) V (wr.setCell ⟨wb.heap.size, K, none⟩ (.int .i64 D))) := by
                      have := HW.out.note HS.out hcf
                      rw [← HD.out] at this
                      exact this
                    by_cases h44 : s[K] = 44
                    · have g1 : (D == 1) = false := by rw [beq_eq_false_iff_ne]; intro h; exact hcm ⟨h44, h⟩
                      have H44 : Hid (s[K] = 44) := h44
                      clear HN0 ho hgd HW hcf hcm hcl HF h44
                      go_wp2_with fail
                      refine (isOpen_any s[K] _).mono ?_
                      rintro e w1 ⟨rfl, hw⟩
                      have hw2 := hw.symm
                      subst hw2
                      clear hw
                      rw [HO.out]
                      go_wp2_with fail
                      refine (isClose_any s[K] _).mono ?_
                      rintro e w1 ⟨rfl, hw⟩
                      have hw2 := hw.symm
                      subst hw2
                      clear hw
                      rw [HCl.out]
                      have e1 : (s[K].toNat : Int) = 44 := byte_int s[K] 44 (by omega) H44.out
                      go_wp2
                      go_roundg (s.size + 1 - (K + 1))
                      case measure => omega
                      case rel => exact ⟨K + 1, D, -1, V, rfl, by go_num, rfl, by go_num, HW3.out, by omega, rfl, .inl ⟨rfl, HN.out.1.symm, HN.out.2⟩⟩
                    · have e1 : ((s[K].toNat : Int) == 44) = false := byte_ne s[K] 44 (by omega) h44
                      clear HN0 ho hgd HW hcf hcm hcl HF h44
                      go_wp2_with fail
                      refine (isOpen_any s[K] _).mono ?_
                      rintro e w1 ⟨rfl, hw⟩
                      have hw2 := hw.symm
                      subst hw2
                      clear hw
                      rw [HO.out]
                      go_wp2_with fail
                      refine (isClose_any s[K] _).mono ?_
                      rintro e w1 ⟨rfl, hw⟩
                      have hw2 := hw.symm
                      subst hw2
                      clear hw
                      rw [HCl.out]
                      go_wp2
                      go_roundg (s.size + 1 - (K + 1))
                      case measure => omega
                      case rel => exact ⟨K + 1, D, -1, V, rfl, by go_num, rfl, by go_num, HW3.out, by omega, rfl, .inl ⟨rfl, HN.out.1.symm, HN.out.2⟩⟩
          · have HR : Hid (∀ j, j < s.size → finB s.data.toList j = false) := fun j hj => HF.out j (by omega)
            clear HF HD
            go_wp2
            go_meet
            exact ⟨-1, K, V, rfl, rfl, HW, .inl ⟨rfl, HR.out⟩⟩
        · have HR : Hid (((x : Int) = -1 ∧ ∀ j, j < s.size → finB s.data.toList j = false) ∨ (∃ y : Nat, x + 1 = y + 1 ∧ y < s.size ∧ (x : Int) = y ∧ finB s.data.toList y = true ∧ ∀ j, j < y → finB s.data.toList j = false)) := .inr ⟨x, rfl, by omega, rfl, hf1, hf2⟩
          clear hf1 hf2
          by_cases hlt : x + 1 < s.size
          · have hki : (x : Int) + 1 < (s.size : Int) := by omega
            go_wp2
            go_meet
            exact ⟨x, x + 1, V, rfl, rfl, HW, HR⟩
          · have hki : ¬ ((x : Int) + 1 < (s.size : Int)) := by omega
            go_wp2
            go_meet
            exact ⟨x, x + 1, V, rfl, rfl, HW, HR⟩
    case rest =>
      obtain ⟨wd, rfl⟩ : ∃ wd, wd = wc := ⟨wc, rfl⟩
      obtain ⟨E, K, V, rfl, rfl, HW, HR⟩ := hcut
      clear HC
      rcases HR.out with ⟨rfl, hno⟩ | ⟨x, rfl, hx, rfl, hf, hfb⟩
      · have HN : Hid (mPath s.data.toList = none) := mPath_no _ (fun j hj => hno j (by simpa using hj))
        have HB : Hid (Below w.heap.size w wd) := HW.out.bel
        clear HR hno HW
        go_wp2
        go_ret2
        exact ⟨HB.out, fun _ => rfl, fun acc n h => by rw [HN.out] at h; cases h⟩
      · have HN : Hid (mPath s.data.toList = some (segsOf s.data.toList 1 (ends s.data.toList x), x + 1)) := mPath_yes _ x (by simpa using hx) hf hfb
        have HF : Hid (finB s.data.toList x = true) := hf
        obtain ⟨ao, m, cap, rfl, h3⟩ := HW.out.third hf
        have H3 : Hid (W3 s w wb.heap.size x m ao wd) := h3
        have hmx : m ≤ x := by rw [h3.len]; exact (commas_bound _ x).1
        clear HR HW hf hfb h3 hi hz0 hz1 hz2
        obtain ⟨i9, hi, hz0, hz1, hz2⟩ := info_parts info9
        go_wp2
        go_loopg [15, 16, 17] (m + 2) (fun g v a e wx => R3 s wd x m g v a e wx)
        case atStart => exact ⟨0, 1, _, rfl, rfl, rfl, rfl, by omega, by omega, Below.refl _ _, World.ownsRow_nil _ _ _ _⟩
        case round =>
          obtain ⟨E, A, V, rfl, rfl, rfl, HA, hE, rfl, HB, HO⟩ := hrel
          obtain ⟨wo, rfl⟩ : ∃ wo, wo = wr := ⟨wr, rfl⟩
          have hlen : (ends s.data.toList x).length = m + 1 := by simp [ends, H3.out.len]
          have hsz : wd.heap.size ≤ wo.heap.size := HB.out.size
          by_cases hEm : E ≤ m
          · obtain ⟨b, hb⟩ : ∃ b, (ends s.data.toList x)[E]? = some b := ⟨_, List.getElem?_eq_getElem (by omega)⟩
            have hbx : b ≤ x := ends_bound _ x E b hb
            have hAb : A ≤ b := by rw [HA.out]; exact ordered_at _ 1 E b (ends_ordered _ x HF.out) hb
            have hA1 : 1 ≤ A := by rw [HA.out]; exact startOf_pos _ 1 (Nat.le_refl _)
            have HBB : Hid ((ends s.data.toList x)[E]? = some b) := hb
            have hEmi : (E : Int) ≤ (m : Int) := by omega
            clear hb hlen
            go_upto_if 106 with fail
            go_cut [18] (fun bb wx => bb = .int .i64 (b : Int) ∧ wo = wx)
            case first =>
              by_cases hlt : E < m
              · have hci : (commasTo s.data.toList x)[E]? = some b := by
                  have := HBB.out
                  unfold ends at this
                  rwa [List.getElem?_append_left (by rw [← H3.out.len]; exact hlt)] at this
                obtain ⟨g, rfl, hg, hcell⟩ := H3.out.com E b hci
                have hc2 : wo.cell? ⟨g, E, none⟩ = some (.int .i64 (b : Int)) := (HB.out.cell (p := ⟨g, E, none⟩) hg).trans hcell
                have hlti : (E : Int) < (m : Int) := by omega
                clear hci hcell
                go_wp2
                go_meet
                exact ⟨rfl, rfl⟩
              · obtain rfl : E = m := by omega
                have hbe : b = x := by
                  have := HBB.out
                  unfold ends at this
                  rw [List.getElem?_append_right (by rw [← H3.out.len]; exact Nat.le_refl _), ← H3.out.len] at this
                  simpa using this.symm
                have HBE : Hid (x = b) := hbe.symm
                clear hbe
                go_wp2
                go_meet
                exact ⟨by rw [HBE.out], rfl⟩
            case rest =>
              obtain ⟨rfl, rfl⟩ := hcut
              go_upto_block 6 with fail
              go_cut [19, 20, 21] (fun cc _ _ wx => ∃ C : Nat, cc = .int .i64 (C : Int) ∧ wo = wx ∧ Hid (C = (segScan s.data.toList A b).1))
              case first =>
                go_wp2_with fail
                go_loopg [19, 20] (b - A) (fun g c k wx => wo = wx ∧ c = .int .i64 (A : Int) ∧ ∃ K : Nat, A ≤ K ∧ K ≤ b ∧ g = b - K ∧ k = .int .i64 (K : Int) ∧ Hid (segScan s.data.toList A K = (A, false)))
                case atStart => exact ⟨rfl, rfl, A, Nat.le_refl _, hAb, rfl, rfl, segScan_le _ _ _ (Nat.le_refl _)⟩
                case round =>
                  obtain ⟨rfl, rfl, K, hAK, hKb, rfl, rfl, HS⟩ := hrel
                  by_cases hlt : K < b
                  · have hlti : (K : Int) < (b : Int) := by omega
                    have hks : K < s.size := by omega
                    have hksi : (K : Int) < (s.size : Int) := by omega
                    have hgd : s.data.toList.getD K 0 = s[K] := getD_byte s K hks
                    have hc1 : wo.cell? ⟨w.heap.size, K, none⟩ = some (.bool (synB s.data.toList K)) := (HB.out.cell (p := ⟨w.heap.size, K, none⟩) H3.out.lw).trans (H3.out.syn K hks)
                    cases hsy : synB s.data.toList K with
                    | false =>
                      rw [hsy] at hc1
                      have HS2 : Hid (segScan s.data.toList A (K + 1) = (A, false)) := seg_idle hAK HS.out (.inl hsy)
                      clear hsy HS hgd
                      go_wp2
                      go_roundg (b - (K + 1))
                      case measure => omega
                      case rel => exact ⟨rfl, rfl, K + 1, by omega, by omega, rfl, by go_num, HS2⟩
                    | true =>
                      rw [hsy] at hc1
                      by_cases h64 : s[K] = 64
                      · have e1 : (s[K].toNat : Int) = 64 := byte_int s[K] 64 (by omega) h64
                        obtain ⟨j, rfl⟩ : ∃ j, K = j + 1 := ⟨K - 1, by omega⟩
                        have hj : j < s.size := by omega
                        have hji : (j : Int) < (s.size : Int) := by omega
                        have ha := atAfter_succ s j hj
                        by_cases h46 : s[j] = 46
                        · have f1 : (s[j].toNat : Int) = 46 := byte_int s[j] 46 (by omega) h46
                          have HS2 : Hid (A = (segScan s.data.toList A b).1) := (seg_at hAK hlt HS.out hsy (hgd.trans h64) (by rw [ha, h46]; rfl)).symm
                          clear hsy HS hgd ha h46 h64
                          go_wp2
                          go_meet
                          exact ⟨A, by first | rfl | go_num, rfl, HS2⟩
                        · have g1 : ((s[j].toNat : Int) == 46) = false := byte_ne s[j] 46 (by omega) h46
                          by_cases h124 : s[j] = 124
                          · have f1 : (s[j].toNat : Int) = 124 := byte_int s[j] 124 (by omega) h124
                            have HS2 : Hid (A = (segScan s.data.toList A b).1) := (seg_at hAK hlt HS.out hsy (hgd.trans h64) (by rw [ha, h124]; rfl)).symm
                            clear hsy HS hgd ha h46 h64 h124 g1
                            go_wp2
                            go_meet
                            exact ⟨A, by first | rfl | go_num, rfl, HS2⟩
                          · have g2 : ((s[j].toNat : Int) == 124) = false := byte_ne s[j] 124 (by omega) h124
                            have q1 : (s[j] == 46) = false := by simpa using h46
                            have q2 : (s[j] == 124) = false := by simpa using h124
                            have HS2 : Hid (segScan s.data.toList A (j + 1 + 1) = (A, false)) := seg_idle hAK HS.out (.inr ⟨fun _ => by rw [ha, q1, q2]; rfl, fun h => by rw [hgd, h64] at h; exact absurd h (by decide)⟩)
                            clear hsy HS hgd ha h46 h64 h124 q1 q2
                            go_wp2
                            go_roundg (b - ((j + 1) + 1))
                            case measure => omega
                            case rel => exact ⟨rfl, rfl, (j + 1) + 1, by omega, by omega, rfl, by go_num, HS2⟩
                      have b64 : ((s[K].toNat : Int) == 64) = false := byte_ne s[K] 64 (by omega) h64
                      by_cases h58 : s[K] = 58
                      · have e1 : (s[K].toNat : Int) = 58 := byte_int s[K] 58 (by omega) h58
                        have hc2 : wo.cell? ⟨wb.heap.size, K, none⟩ = some (.int .i64 (dAt s.data.toList K)) := (HB.out.cell (p := ⟨wb.heap.size, K, none⟩) H3.out.lq).trans (H3.out.dep K hks (by omega) hsy)
                        by_cases hd : dAt s.data.toList K = 1
                        · rw [hd] at hc2
                          have HS2 : Hid (K + 1 = (segScan s.data.toList A b).1) := (seg_colon hAK hlt HS.out hsy (hgd.trans h58) hd).symm
                          clear hsy HS hgd h64 h58 hd b64
                          go_wp2
                          go_meet
                          exact ⟨K + 1, by first | rfl | go_num, rfl, HS2⟩
                        · have HS2 : Hid (segScan s.data.toList A (K + 1) = (A, false)) := seg_idle hAK HS.out (.inr ⟨fun h => absurd (hgd.symm.trans h) h64, fun _ => hd⟩)
                          obtain ⟨D, hD⟩ : ∃ D, D = dAt s.data.toList K := ⟨_, rfl⟩
                          rw [← hD] at hc2 hd
                          have g1 : (D == 1) = false := by simpa using hd
                          clear hsy HS hgd h64 h58 hd b64 hD
                          go_wp2
                          go_roundg (b - (K + 1))
                          case measure => omega
                          case rel => exact ⟨rfl, rfl, K + 1, by omega, by omega, rfl, by go_num, HS2⟩
                      · have b58 : ((s[K].toNat : Int) == 58) = false := byte_ne s[K] 58 (by omega) h58
                        have HS2 : Hid (segScan s.data.toList A (K + 1) = (A, false)) := seg_idle hAK HS.out (.inr ⟨fun h => absurd (hgd.symm.trans h) h64, fun h => absurd (hgd.symm.trans h) h58⟩)
                        clear hsy HS hgd h64 h58
                        go_wp2
                        go_roundg (b - (K + 1))
                        case measure => omega
                        case rel => exact ⟨rfl, rfl, K + 1, by omega, by omega, rfl, by go_num, HS2⟩
                  · obtain rfl : b = K := by omega
                    have HS2 : Hid (A = (segScan s.data.toList A b).1) := by show _ = _; rw [HS.out]
                    clear HS
                    go_wp2
                    go_meet
                    exact ⟨A, by first | rfl | go_num, rfl, HS2⟩
              case rest =>
                obtain ⟨C, rfl, rfl, HC⟩ := hcut
                have hcb := segScan_bound s.data.toList A b hAb
                have hCb : C ≤ b := by rw [HC.out]; exact hcb.2
                have hCi : (C : Int) ≤ (b : Int) := by omega
                have hbs : (b : Int) ≤ (s.size : Int) := by omega
                clear hcb
                go_wp2_with (at_builtin; refine wpList_append_lies _ rfl (.tmp 153) (.tmp 158) 26 rfl wd.heap.size 9 i9 (.string ByteArray.empty) 1 16 Trym.underlying26 hi hz0 hz1 hz2 rfl (by decide) _ _ _ rfl (HO.out.alloc _) ⟨wo.heap.size, 0, none⟩ 1 1 [.string (s.extract C b)] rfl rfl ?_ ?_ (by decide) ?_ ?_ ?_ _ rfl ?_)
                · exact World.news_of_block (heap_alloc_new wo (.cells #[Value.string (s.extract C b)] 9))
                · intro u hu; simp at hu; subst hu; rfl
                · unfold maxLen; omega
                · omega
                · simp; omega
                intro g cp w1 hown1 hgrow1 x1 hlt1
                have O1 : Hid (w1.ownsRow wd.heap.size 9 1 (.slice (some ⟨g, 0, none⟩) (E + 1) cp) (E + 1) (elems s (segsOf s.data.toList 1 ((ends s.data.toList x).take (E + 1))))) := by
                  show World.ownsRow _ _ _ _ _ _ _
                  rw [segsOf_take _ _ E b HBB.out, ← HA.out, ← HC.out, ← elems_snoc]
                  exact hown1
                have B1 : Hid (Below wd.heap.size wd w1) := (HB.out.alloc hsz _).grown hgrow1 (by simp; omega) (fun r hr => (HO.out.lt r hr).1)
                have A1 : Hid (b + 1 = startOf 1 ((ends s.data.toList x).take (E + 1))) := (startOf_take _ E b HBB.out).symm
                clear hown1 hgrow1 x1 hlt1
                go_wp2
                go_roundg (m + 2 - (E + 1))
                case measure => omega
                case rel => exact ⟨E + 1, b + 1, _, rfl, by go_num, by go_num, A1, by omega, rfl, B1, O1⟩
          · obtain rfl : E = m + 1 := by omega
            have hki : ¬ ((m : Int) + 1 ≤ (m : Int)) := by omega
            obtain ⟨g, cp, rfl, hbg, hgl⟩ := HO.out.form (by omega)
            have HG : Hid (g < wo.heap.size) := hgl
            clear hgl hbg hlen
            have HB2 : Hid (Below w.heap.size w wo) := H3.out.bel.trans (HB.out.mono (Nat.le_of_lt H3.out.lw))
            have HO2 : Hid (wo.ownsRow w.heap.size 9 1 (.slice (some ⟨g, 0, none⟩) (m + 1) cp) (m + 1) (elems s (segsOf s.data.toList 1 (ends s.data.toList x)))) := by
              have h1 := ownsRow_base HO.out (Nat.le_of_lt H3.out.lw)
              rw [List.take_of_length_le (by simp [ends, H3.out.len])] at h1
              exact h1
            have HL : Hid ((segsOf s.data.toList 1 (ends s.data.toList x)).length = m + 1) := by
              show _ = _
              rw [segsOf_length]
              simp [ends, H3.out.len]
            go_wp2
            go_ret2
            refine ⟨HB2.out, fun h => by (rw [HN.out] at h; cases h), fun acc n h => ?_⟩
            rw [HN.out] at h
            cases h
            refine ⟨g, cp, ?_, HG.out, ?_⟩
            · rw [HL.out]; simp
            · have h1 := HO2.out
              rw [HL.out]
              exact h1

end Go.Proofs.Qxb6600920aMods
