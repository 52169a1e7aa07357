/- multipath (20): its contract. -/
import Derived.Test.Qxb6600920aModsGrp
import Derived.Test.Qxb6600920aModsPlainM
import Derived.Deep.AppendLies
namespace Go.Proofs.Qxb6600920aMods
open Go.RowKit

theorem info9 : (Trym.prog.info? 9).map (fun i => (i.zero, i.size, i.bytes)) = some (some (.string ByteArray.empty), 1, 16) := by kernel_rfl

/-- The elements' values. -/
def elems (s : ByteArray) (acc : List (Nat × Nat)) : List Value := acc.map fun p => Value.string (s.extract p.1 p.2)

theorem elems_snoc (s : ByteArray) (acc : List (Nat × Nat)) (a b : Nat) : elems s acc ++ [.string (s.extract a b)] = elems s (acc ++ [(a, b)]) := by simp [elems]

/-- What the loop keeps. -/
def MInv (s : ByteArray) (w : World) (v st ps dp cl i : Value) (wr : World) : Prop :=
  ∃ (k : Nat) (D : Int) (A P : Nat) (C : Bool) (R : List (Nat × Nat)), k ≤ s.size + 1 ∧ st = .int .i64 A ∧ ps = .int .i64 P ∧ dp = .int .i64 D ∧ cl = .bool C ∧ i = .int .i64 k ∧ wr.ownsRow w.heap.size 9 1 v R.length (elems s R) ∧
    Below w.heap.size w wr ∧ -(k : Int) ≤ D ∧ D ≤ k ∧ A ≤ k + 1 ∧ P ≤ k + 1 ∧ (1 ≤ k → P ≤ k) ∧ R.length ≤ k ∧ mPath s.data.toList = mLeft s.data.toList ⟨D, A, P, C, R⟩ k

/-- What multipath answers. -/
def MPost (s : ByteArray) (w : World) (e : Ending) (w' : World) : Prop :=
  Below w.heap.size w w' ∧ (mPath s.data.toList = none → e = .returned (.tuple #[.slice none 0 0, .int .i64 (-1)])) ∧
  ∀ acc n, mPath s.data.toList = some (acc, n) → ∃ g cap, e = .returned (.tuple #[.slice (some ⟨g, 0, none⟩) acc.length cap, .int .i64 (n : Int)]) ∧ g < w'.heap.size ∧
    w'.ownsRow w.heap.size 9 1 (.slice (some ⟨g, 0, none⟩) acc.length cap) acc.length (elems s acc)

theorem getD_byte (s : ByteArray) (j : Nat) (h : j < s.size) : s.data.toList.getD j 0 = s[j] := by
  rw [List.getD_eq_getElem?_getD, List.getElem?_eq_getElem (by simpa using h)]
  rfl

theorem byte_int (c : UInt8) (n : Nat) (hn : n < 256) (h : c = UInt8.ofNat n) : (c.toNat : Int) = (n : Int) := (byte_eq c n hn).1 h

set_option maxRecDepth 100000 in
set_option maxHeartbeats 8000000 in
theorem multipath_any (s : ByteArray) (w : World) (hs : s.size ≤ 1048576) :
    Calls Trym.prog 20 #[.string s] w fun e w' => MPost s w e w' := by
  obtain ⟨i0, hi, hz0, hz1, hz2⟩ := info_parts info9
  go_enter Trym.func20, Trym.ntmps20
  go_wp2
  go_loopw [4, 5, 6, 7, 8, 9] (fun v st ps dp cl i wr => MInv s w v st ps dp cl i wr) (fun _ _ _ _ _ i _ => s.size + 1 - (intOf i).toNat)
  case atStart => exact ⟨0, 0, 1, 1, false, [], by omega, rfl, rfl, rfl, rfl, rfl, World.ownsRow_nil _ _ _ _, Below.refl _ _, by omega, by omega, by omega, by omega, by omega, by simp, rfl⟩
  case round =>
    obtain ⟨k, D, A, P, C, R, hk, rfl, rfl, rfl, rfl, rfl, hown, hbel, hd1, hd2, hst, hps, hps1, hacc, hm⟩ := hrel
    have HO : Hid (wr.ownsRow w.heap.size 9 1 _ R.length (elems s R)) := hown
    have HB : Hid (Below w.heap.size w wr) := hbel
    have HM : Hid (mPath s.data.toList = mLeft s.data.toList ⟨D, A, P, C, R⟩ k) := hm
    have hz : w.heap.size ≤ wr.heap.size := hbel.size
    clear hown hbel hm
    by_cases hlt : k < s.size
    · have hdr := drop_byte s k hlt
      by_cases h92 : s[k] = 92
      · have e1 : (s[k].toNat : Int) = 92 := by rw [h92]; rfl
        rw [h92] at hdr
        have HN : Hid (mPath s.data.toList = mLeft s.data.toList ⟨D, A, P, C, R⟩ (k + 2)) := HM.out.trans (mLeft_92 _ ⟨D, A, P, C, R⟩ k hdr)
        clear h92 hdr HM
        go_wp2
        go_roundw
        case rel => exact ⟨k + 2, D, A, P, C, R, by omega, rfl, rfl, rfl, rfl, by go_num, HO.out, HB.out, by omega, by omega, by omega, by omega, by omega, by omega, HN.out⟩
        case measure => simp [intOf]; omega
      by_cases h34 : s[k] = 34
      · have e1 : (s[k].toNat : Int) = 34 := by rw [h34]; rfl
        have hx : (s.extract k s.size).size ≤ 1048576 := by simp; omega
        rw [h34] at hdr
        have h3 := mLeft_34 _ ⟨D, A, P, C, R⟩ k hdr
        cases hn : sScan false (s.data.toList.drop (k + 1)) with
        | none =>
          have HN : Hid (mPath s.data.toList = none) := by show _ = _; rw [HM.out, h3, hn]
          have HE : Hid (strE (s.extract k s.size).data.toList = -1) := by show _ = _; rw [extract_drop, strE_drop, hn]
          clear h34 h92 hdr HM hn h3
          go_wp2_with fail
          refine (stringEnd_any _ _ hx).mono ?_
          rintro e w' ⟨rfl, rfl⟩
          rw [HE.out]
          go_wp2
          go_ret2
          exact ⟨HB.out, fun _ => rfl, fun acc n h => by rw [HN.out] at h; cases h⟩
        | some n =>
          have hnl : k + n < s.size := by
            have := (sScan_le _ _ _ hn).2
            simp at this
            omega
          have HE : Hid (strE (s.extract k s.size).data.toList = (n : Int) + 1) := by show _ = _; rw [extract_drop, strE_drop, hn]
          have HN : Hid (mPath s.data.toList = mLeft s.data.toList ⟨D, A, P, C, R⟩ (k + n + 1)) := by show _ = _; rw [HM.out, h3, hn]
          clear h34 h92 hdr HM hn h3
          go_wp2_with fail
          refine (stringEnd_any _ _ hx).mono ?_
          rintro e w' ⟨rfl, rfl⟩
          rw [HE.out]
          go_wp2
          go_roundw
          case rel => exact ⟨k + n + 1, D, A, P, C, R, by omega, rfl, rfl, rfl, rfl, by go_num, HO.out, HB.out, by omega, by omega, by omega, by omega, by omega, by omega, HN.out⟩
          case measure => simp [intOf]; omega
      have b92 : ((s[k].toNat : Int) == 92) = false := byte_ne s[k] 92 (by omega) h92
      have b34 : ((s[k].toNat : Int) == 34) = false := byte_ne s[k] 34 (by omega) h34
      by_cases h64 : s[k] = 64
      · have e1 : (s[k].toNat : Int) = 64 := byte_int s[k] 64 (by omega) h64
        have hst64 : mStep s.data.toList ⟨D, A, P, C, R⟩ k s[k] = ⟨D, A, P, C || atAfter s.data.toList k, R⟩ := by simp [mStep, h64]
        have HN0 : Hid (mPath s.data.toList = mLeft s.data.toList ⟨D, A, P, C || atAfter s.data.toList k, R⟩ (k + 1)) := by
          show _ = _
          rw [HM.out, mLeft_step _ ⟨D, A, P, C, R⟩ k _ hdr h92 h34 (by rw [h64]; simp [isClose]), hst64]
        clear h34 h92 hdr HM h64 hst64 b92 b34
        cases C with
        | true =>
          have HN : Hid (mPath s.data.toList = mLeft s.data.toList ⟨D, A, P, true, R⟩ (k + 1)) := by show _ = _; rw [HN0.out]; rfl
          clear HN0
          go_wp2
          go_roundw
          case rel => exact ⟨k + 1, D, A, P, true, R, by omega, rfl, rfl, rfl, rfl, by go_num, HO.out, HB.out, by omega, by omega, by omega, by omega, by omega, by omega, HN.out⟩
          case measure => simp [intOf]; omega
        | false =>
          by_cases hk0 : k = 0
          · subst hk0
            have HN : Hid (mPath s.data.toList = mLeft s.data.toList ⟨D, A, P, false, R⟩ 1) := by
              show _ = _
              rw [HN0.out]
              simp [atAfter]
            clear HN0
            go_wp2
            go_roundw
            case rel => exact ⟨1, D, A, P, false, R, by omega, rfl, rfl, rfl, rfl, by go_num, HO.out, HB.out, by omega, by omega, by omega, by omega, by omega, by omega, HN.out⟩
            case measure => simp [intOf]
          · obtain ⟨j, rfl⟩ : ∃ j, k = j + 1 := ⟨k - 1, by omega⟩
            have hj : j < s.size := by omega
            have ha : atAfter s.data.toList (j + 1) = (s[j] == 46 || s[j] == 124) := by
              simp only [atAfter, Nat.add_sub_cancel, getD_byte s j hj]
              simp
            by_cases h46 : s[j] = 46
            · have f1 : (s[j].toNat : Int) = 46 := byte_int s[j] 46 (by omega) h46
              have HN : Hid (mPath s.data.toList = mLeft s.data.toList ⟨D, A, P, true, R⟩ (j + 1 + 1)) := by
                show _ = _
                rw [HN0.out, ha, h46]
                rfl
              clear HN0 ha h46
              go_wp2
              go_roundw
              case rel => exact ⟨j + 1 + 1, D, A, P, true, R, by omega, rfl, rfl, rfl, rfl, by go_num, HO.out, HB.out, by omega, by omega, by omega, by omega, by omega, by omega, HN.out⟩
              case measure => simp [intOf]; omega
            · have g1 : ((s[j].toNat : Int) == 46) = false := byte_ne s[j] 46 (by omega) h46
              by_cases h124 : s[j] = 124
              · have f1 : (s[j].toNat : Int) = 124 := byte_int s[j] 124 (by omega) h124
                have HN : Hid (mPath s.data.toList = mLeft s.data.toList ⟨D, A, P, true, R⟩ (j + 1 + 1)) := by
                  show _ = _
                  rw [HN0.out, ha, h124]
                  rfl
                clear HN0 ha h46 h124 g1
                go_wp2
                go_roundw
                case rel => exact ⟨j + 1 + 1, D, A, P, true, R, by omega, rfl, rfl, rfl, rfl, by go_num, HO.out, HB.out, by omega, by omega, by omega, by omega, by omega, by omega, HN.out⟩
                case measure => simp [intOf]; omega
              · have g2 : ((s[j].toNat : Int) == 124) = false := byte_ne s[j] 124 (by omega) h124
                have HN : Hid (mPath s.data.toList = mLeft s.data.toList ⟨D, A, P, false, R⟩ (j + 1 + 1)) := by
                  show _ = _
                  have q1 : (s[j] == 46) = false := by simpa using h46
                  have q2 : (s[j] == 124) = false := by simpa using h124
                  rw [HN0.out, ha, q1, q2]
                  rfl
                clear HN0 ha h46 h124
                go_wp2
                go_roundw
                case rel => exact ⟨j + 1 + 1, D, A, P, false, R, by omega, rfl, rfl, rfl, rfl, by go_num, HO.out, HB.out, by omega, by omega, by omega, by omega, by omega, by omega, HN.out⟩
                case measure => simp [intOf]; omega
      have b64 : ((s[k].toNat : Int) == 64) = false := byte_ne s[k] 64 (by omega) h64
      by_cases h58 : s[k] = 58
      · have e1 : (s[k].toNat : Int) = 58 := byte_int s[k] 58 (by omega) h58
        have hstep := mLeft_step _ ⟨D, A, P, C, R⟩ k _ hdr h92 h34 (by rw [h58]; simp [isClose])
        by_cases hq : D = 1 ∧ C = false ∧ P = A
        · obtain ⟨q1, q2, q3⟩ := hq
          have HN : Hid (mPath s.data.toList = mLeft s.data.toList ⟨D, A, k + 1, C, R⟩ (k + 1)) := by
            show _ = _
            rw [HM.out, hstep, h58]
            simp [mStep, q1, q2, q3]
          have g1 : (D == 1) = true := by simpa using q1
          have g2 : (!C) = true := by simp [q2]
          have g3 : ((P : Int) == (A : Int)) = true := by rw [beq_iff_eq]; omega
          subst q2
          have hk1 : 1 ≤ k := by omega
          clear h34 h92 hdr HM h64 b92 b34 b64 h58 hstep q1 q3
          go_wp2
          go_roundw
          case rel => exact ⟨k + 1, D, A, k + 1, false, R, by omega, by first | rfl | go_num, by first | rfl | go_num, rfl, rfl, by go_num, HO.out, HB.out, by omega, by omega, by omega, by omega, by omega, by omega, HN.out⟩
          case measure => simp [intOf]; omega
        · have HN : Hid (mPath s.data.toList = mLeft s.data.toList ⟨D, A, P, C, R⟩ (k + 1)) := by
            show _ = _
            rw [HM.out, hstep, h58]
            simp [mStep, hq]
          clear h34 h92 hdr HM h64 b92 b34 b64 h58 hstep
          by_cases q1 : D = 1
          · have g1 : (D == 1) = true := by simpa using q1
            cases C with
            | true =>
              clear hq q1
              go_wp2
              go_roundw
              case rel => exact ⟨k + 1, D, A, P, true, R, by omega, by first | rfl | go_num, by first | rfl | go_num, rfl, rfl, by go_num, HO.out, HB.out, by omega, by omega, by omega, by omega, by omega, by omega, HN.out⟩
              case measure => simp [intOf]; omega
            | false =>
              have g3 : ((P : Int) == (A : Int)) = false := by
                rw [beq_eq_false_iff_ne]
                intro e
                exact hq ⟨q1, rfl, by omega⟩
              clear hq q1
              go_wp2
              go_roundw
              case rel => exact ⟨k + 1, D, A, P, false, R, by omega, by first | rfl | go_num, by first | rfl | go_num, rfl, rfl, by go_num, HO.out, HB.out, by omega, by omega, by omega, by omega, by omega, by omega, HN.out⟩
              case measure => simp [intOf]; omega
          · have g1 : (D == 1) = false := by simpa using q1
            clear hq q1
            go_wp2
            go_roundw
            case rel => exact ⟨k + 1, D, A, P, C, R, by omega, by first | rfl | go_num, by first | rfl | go_num, rfl, rfl, by go_num, HO.out, HB.out, by omega, by omega, by omega, by omega, by omega, by omega, HN.out⟩
            case measure => simp [intOf]; omega
      have b58 : ((s[k].toNat : Int) == 58) = false := byte_ne s[k] 58 (by omega) h58
      by_cases h44 : s[k] = 44
      · have e1 : (s[k].toNat : Int) = 44 := byte_int s[k] 44 (by omega) h44
        have hstep := mLeft_step _ ⟨D, A, P, C, R⟩ k _ hdr h92 h34 (by rw [h44]; simp [isClose])
        by_cases q1 : D = 1
        · have HN : Hid (mPath s.data.toList = mLeft s.data.toList ⟨D, k + 1, k + 1, false, R ++ [(P, k)]⟩ (k + 1)) := by
            show _ = _
            rw [HM.out, hstep, h44]
            simp [mStep, q1]
          have g1 : (D == 1) = true := by simpa using q1
          have hk1 : 1 ≤ k := by omega
          have hPk : P ≤ k := hps1 hk1
          have hPi : (P : Int) ≤ (k : Int) := by omega
          have hksi : (k : Int) ≤ (s.size : Int) := by omega
          clear h34 h92 hdr HM h64 b92 b34 b64 h58 hstep h44 q1
          go_wp2_with (at_builtin; refine wpList_append_lies _ rfl (.tmp 76) (.tmp 81) 26 rfl w.heap.size 9 i0 (.string ByteArray.empty) 1 16 Trym.underlying26 hi hz0 hz1 hz2 rfl (by decide) _ _ _ rfl (HO.out.alloc _) ⟨wr.heap.size, 0, none⟩ 1 1 [.string (s.extract P k)] rfl rfl ?_ ?_ (by decide) ?_ ?_ ?_ _ rfl ?_)
          · exact World.news_of_block (heap_alloc_new wr (.cells #[Value.string (s.extract P k)] 9))
          · intro u hu; simp at hu; subst hu; rfl
          · unfold maxLen; omega
          · omega
          · simp; omega
          intro g cap w1 hown1 hgrow1 x1 hlt1
          have hlen : (R ++ [(P, k)]).length = R.length + 1 := by simp
          have O1 : Hid (w1.ownsRow w.heap.size 9 1 (.slice (some ⟨g, 0, none⟩) (R.length + 1) cap) (R ++ [(P, k)]).length (elems s (R ++ [(P, k)]))) := by
            show World.ownsRow _ _ _ _ _ _ _
            rw [hlen, ← elems_snoc]
            exact hown1
          have B1 : Hid (Below w.heap.size w w1) := (HB.out.alloc hz _).grown hgrow1 (by simp; omega) (fun r hr => (HO.out.lt r hr).1)
          have HLT : Hid (g < w1.heap.size) := hlt1
          have HLN : Hid ((R ++ [(P, k)]).length = R.length + 1) := hlen
          clear hown1 hgrow1 x1 hlt1 hlen
          go_wp2
          go_roundw
          case rel => exact ⟨k + 1, D, k + 1, k + 1, false, R ++ [(P, k)], by omega, by first | rfl | go_num, by first | rfl | go_num, rfl, rfl, by go_num, O1.out, B1.out, by omega, by omega, by omega, by omega, by omega, by rw [HLN.out]; omega, HN.out⟩
          case measure => simp [intOf]; omega
        · have HN : Hid (mPath s.data.toList = mLeft s.data.toList ⟨D, A, P, C, R⟩ (k + 1)) := by
            show _ = _
            rw [HM.out, hstep, h44]
            simp [mStep, q1]
          have g1 : (D == 1) = false := by simpa using q1
          clear h34 h92 hdr HM h64 b92 b34 b64 h58 hstep h44 q1
          go_wp2
          go_roundw
          case rel => exact ⟨k + 1, D, A, P, C, R, by omega, by first | rfl | go_num, by first | rfl | go_num, rfl, rfl, by go_num, HO.out, HB.out, by omega, by omega, by omega, by omega, by omega, by omega, HN.out⟩
          case measure => simp [intOf]; omega
      have b44 : ((s[k].toNat : Int) == 44) = false := byte_ne s[k] 44 (by omega) h44
      cases ho : isOpen s[k] with
      | true =>
        have hno := open_ne _ ho
        have HN : Hid (mPath s.data.toList = mLeft s.data.toList ⟨D + 1, A, P, C, R⟩ (k + 1)) := by
          show _ = _
          rw [HM.out, mLeft_step _ ⟨D, A, P, C, R⟩ k _ hdr h92 h34 (by rw [hno.2.2.2.2.2]; simp)]
          simp [mStep, h64, h58, h44, ho]
        rcases open_cases _ ho with hc | hc | hc
        all_goals
          have e1 := congrArg (fun c : UInt8 => (c.toNat : Int)) hc
          simp only [UInt8.reduceToNat] at e1
          clear h34 h92 hdr HM h64 h58 h44 hc hno ho b92 b34 b64 b58 b44
          go_wp2
          go_roundw
          case rel => exact ⟨k + 1, D + 1, A, P, C, R, by omega, by first | rfl | go_num, by first | rfl | go_num, rfl, rfl, by go_num, HO.out, HB.out, by omega, by omega, by omega, by omega, by omega, by omega, HN.out⟩
          case measure => simp [intOf]; omega
      | false =>
        have c1 := not_open _ ho
        cases hcl : isClose s[k] with
        | true =>
          by_cases q1 : D = 1
          · have HN : Hid (mPath s.data.toList = some (R ++ [(P, k)], k + 1)) := HM.out.trans (mLeft_fin _ ⟨D, A, P, C, R⟩ k _ hdr hcl q1)
            have g1 : (D - 1 == 0) = true := by rw [beq_iff_eq]; omega
            have hk1 : 1 ≤ k := by omega
            have hPk : P ≤ k := hps1 hk1
            have hPi : (P : Int) ≤ (k : Int) := by omega
            have hksi : (k : Int) ≤ (s.size : Int) := by omega
            rcases close_cases _ hcl with hc | hc | hc
            all_goals
              have e1 := congrArg (fun c : UInt8 => (c.toNat : Int)) hc
              simp only [UInt8.reduceToNat] at e1
              clear h34 h92 hdr HM h64 h58 h44 hc hcl c1 ho b92 b34 b64 b58 b44 q1
              go_wp2_with (at_builtin; refine wpList_append_lies _ rfl (.tmp 101) (.tmp 106) 26 rfl w.heap.size 9 i0 (.string ByteArray.empty) 1 16 Trym.underlying26 hi hz0 hz1 hz2 rfl (by decide) _ _ _ rfl (HO.out.alloc _) ⟨wr.heap.size, 0, none⟩ 1 1 [.string (s.extract P k)] rfl rfl ?_ ?_ (by decide) ?_ ?_ ?_ _ rfl ?_)
              · exact World.news_of_block (heap_alloc_new wr (.cells #[Value.string (s.extract P k)] 9))
              · intro u hu; simp at hu; subst hu; rfl
              · unfold maxLen; omega
              · omega
              · simp; omega
              intro g cap w1 hown1 hgrow1 x1 hlt1
              have hlen : (R ++ [(P, k)]).length = R.length + 1 := by simp
              have O1 : Hid (w1.ownsRow w.heap.size 9 1 (.slice (some ⟨g, 0, none⟩) (R.length + 1) cap) (R ++ [(P, k)]).length (elems s (R ++ [(P, k)]))) := by
                show World.ownsRow _ _ _ _ _ _ _
                rw [hlen, ← elems_snoc]
                exact hown1
              have B1 : Hid (Below w.heap.size w w1) := (HB.out.alloc hz _).grown hgrow1 (by simp; omega) (fun r hr => (HO.out.lt r hr).1)
              have HLT : Hid (g < w1.heap.size) := hlt1
              have HLN : Hid ((R ++ [(P, k)]).length = R.length + 1) := hlen
              clear hown1 hgrow1 x1 hlt1 hlen
              go_wp2
              go_ret2
              refine ⟨B1.out, fun h => by (rw [HN.out] at h; cases h), fun acc n h => ?_⟩
              rw [HN.out] at h
              cases h
              refine ⟨g, cap, ?_, HLT.out, ?_⟩
              · rw [HLN.out]; simp
              · have h1 := O1.out
                rw [HLN.out] at h1 ⊢
                exact h1
          · have HN : Hid (mPath s.data.toList = mLeft s.data.toList ⟨D - 1, A, P, C, R⟩ (k + 1)) := by
              show _ = _
              rw [HM.out, mLeft_step _ ⟨D, A, P, C, R⟩ k _ hdr h92 h34 (by simp [q1])]
              simp [mStep, h64, h58, h44, ho, hcl]
            have g1 : (D - 1 == 0) = false := by rw [beq_eq_false_iff_ne]; omega
            rcases close_cases _ hcl with hc | hc | hc
            all_goals
              have e1 := congrArg (fun c : UInt8 => (c.toNat : Int)) hc
              simp only [UInt8.reduceToNat] at e1
              clear h34 h92 hdr HM h64 h58 h44 hc hcl c1 ho b92 b34 b64 b58 b44 q1
              go_wp2
              go_roundw
              case rel => exact ⟨k + 1, D - 1, A, P, C, R, by omega, by first | rfl | go_num, by first | rfl | go_num, rfl, rfl, by go_num, HO.out, HB.out, by omega, by omega, by omega, by omega, by omega, by omega, HN.out⟩
              case measure => simp [intOf]; omega
        | false =>
          have c2 := not_close _ hcl
          have HN : Hid (mPath s.data.toList = mLeft s.data.toList ⟨D, A, P, C, R⟩ (k + 1)) := by
            show _ = _
            rw [HM.out, mLeft_step _ ⟨D, A, P, C, R⟩ k _ hdr h92 h34 (by simp [hcl])]
            simp [mStep, h64, h58, h44, ho, hcl]
          have b1 : ((s[k].toNat : Int) == 123) = false := byte_ne s[k] 123 (by omega) c1.1
          have b2 : ((s[k].toNat : Int) == 91) = false := byte_ne s[k] 91 (by omega) c1.2.1
          have b3 : ((s[k].toNat : Int) == 40) = false := byte_ne s[k] 40 (by omega) c1.2.2
          have b4 : ((s[k].toNat : Int) == 125) = false := byte_ne s[k] 125 (by omega) c2.1
          have b5 : ((s[k].toNat : Int) == 93) = false := byte_ne s[k] 93 (by omega) c2.2.1
          have b6 : ((s[k].toNat : Int) == 41) = false := byte_ne s[k] 41 (by omega) c2.2.2
          clear h34 h92 hdr HM h64 h58 h44 hcl c1 c2 ho
          go_wp2
          go_roundw
          case rel => exact ⟨k + 1, D, A, P, C, R, by omega, by first | rfl | go_num, by first | rfl | go_num, rfl, rfl, by go_num, HO.out, HB.out, by omega, by omega, by omega, by omega, by omega, by omega, HN.out⟩
          case measure => simp [intOf]; omega
    · have HN : Hid (mPath s.data.toList = none) := HM.out.trans (mLeft_end _ ⟨D, A, P, C, R⟩ k (by simp; omega))
      clear HM
      go_wp2
      go_ret2
      exact ⟨HB.out, fun _ => rfl, fun acc n h => by rw [HN.out] at h; cases h⟩

end Go.Proofs.Qxb6600920aMods
