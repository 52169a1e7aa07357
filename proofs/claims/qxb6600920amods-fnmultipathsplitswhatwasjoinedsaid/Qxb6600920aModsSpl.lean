/- FnMultipathSplitsWhatWasJoined (6): the walk. -/
import Derived.Test.Qxb6600920aModsSplA
namespace Go.Proofs.Qxb6600920aMods
open Go.RowKit

set_option maxRecDepth 100000 in
set_option maxHeartbeats 2000000 in
theorem splits_big (a0 a1 : Option Addr) (l0 c0 l1 c1 : Nat) (ns ps : List ByteArray) (t : ByteArray) (w : World) (h0 : IsStrs w a0 l0 c0 ns) (h1 : IsStrs w a1 l1 c1 ps) (ht : t.size ≤ maxLen)
    (hbig : 4096 < l0 ∨ 4096 < l1 ∨ 65536 < t.size) :
    Calls Trym.prog 6 #[.slice a0 l0 c0, .slice a1 l1 c1, .string t] w fun e w' => e = .returned (.bool true) ∧ Below w.heap.size w w' := by
  have H0 : Hid (IsStrs w a0 l0 c0 ns) := h0
  have H1 : Hid (IsStrs w a1 l1 c1 ps) := h1
  clear h0 h1
  go_enter Trym.func6, Trym.ntmps6
  go_wp2_with fail
  refine (zzBytes14_any a0 a1 l0 c0 l1 c1 ns ps t w H0.out H1.out ht).mono ?_
  rintro e w' ⟨hp, hw⟩
  have hw2 := hw.symm
  subst hw2
  rcases hp with rfl | ⟨rfl, _, _⟩
  · go_wp2
    go_ret
    exact ⟨rfl, Below.refl _ _⟩
  · by_cases q0 : 4096 < l0
    · have i0 : (4096 : Int) < (l0 : Int) := by omega
      go_wp2_with fail
      go_ret
      exact ⟨rfl, Below.refl _ _⟩
    · have d0 : decide ((4096 : Int) < (l0 : Int)) = false := by simp; omega
      by_cases q1 : 4096 < l1
      · have i1 : (4096 : Int) < (l1 : Int) := by omega
        go_wp2_with fail
        go_ret
        exact ⟨rfl, Below.refl _ _⟩
      · have d1 : decide ((4096 : Int) < (l1 : Int)) = false := by simp; omega
        have i2 : (65536 : Int) < (t.size : Int) := by omega
        go_wp2_with fail
        go_ret
        exact ⟨rfl, Below.refl _ _⟩

set_option maxRecDepth 100000 in
set_option maxHeartbeats 32000000 in
theorem splits_C (a0 a1 : Option Addr) (l0 c0 l1 c1 : Nat) (ns ps : List ByteArray) (t : ByteArray) (w : World) (h0 : IsStrs w a0 l0 c0 ns) (h1 : IsStrs w a1 l1 c1 ps) (hl0 : l0 ≤ 4096) (hl1 : l1 ≤ 4096) (hcase : l1 = 0 ∨ (l0 ≠ 0 ∧ l0 ≠ l1)) (ht : t.size ≤ 65536) :
    Calls Trym.prog 6 #[.slice a0 l0 c0, .slice a1 l1 c1, .string t] w fun e w' => e = .returned (.bool true) ∧ Below w.heap.size w w' := by
  have htm : t.size ≤ maxLen := by unfold maxLen; omega
  have H0 : Hid (IsStrs w a0 l0 c0 ns) := h0
  have H1 : Hid (IsStrs w a1 l1 c1 ps) := h1
  clear h0 h1
  have d0 : decide ((4096 : Int) < (l0 : Int)) = false := by simp; omega
  have d1 : decide ((4096 : Int) < (l1 : Int)) = false := by simp; omega
  have d2 : decide ((65536 : Int) < (t.size : Int)) = false := by simp; omega
  go_enter Trym.func6, Trym.ntmps6
  go_wp2_with fail
  refine (zzBytes14_any a0 a1 l0 c0 l1 c1 ns ps t w H0.out H1.out htm).mono ?_
  rintro e w' ⟨hp, hw⟩
  have hw2 := hw.symm
  subst hw2
  rcases hp with rfl | ⟨rfl, hS0, hS1⟩
  · go_wp2
    go_ret
    exact ⟨rfl, Below.refl _ _⟩
  have S0 : Hid (∀ j, j < l0 → (List.getD ns j ByteArray.empty).size ≤ 1048576) := fun j hj => hS0 j (by have := H0.out.1; omega)
  have S1 : Hid (∀ j, j < l1 → (ps.getD j ByteArray.empty).size ≤ 1048576) := fun j hj => hS1 j (by have := H1.out.1; omega)
  clear hS0 hS1
  go_wp2
  go_loop [7, 8] (fun tot i => ∃ k T : Nat, k ≤ l0 ∧ i = .int .i64 k ∧ tot = .int .i64 T ∧ T ≤ 1048576 ∧ Hid (T = t.size + sumSz (ns.take k))) (fun _ i => l0 - (intOf i).toNat)
  case atStart => exact ⟨0, t.size, by omega, rfl, rfl, by omega, by show _ = _; simp [sumSz]⟩
  case round =>
    obtain ⟨k, T, hk, rfl, rfl, hT, HT⟩ := hrel
    by_cases hlt : k < l0
    · obtain ⟨b, off, rfl, hc⟩ := H0.out.2.2.2.2.2 (by omega)
      have hcell := hc k hlt
      have hx0 := S0.out k hlt
      have HT2 : Hid (T + (16 + (ns.getD k ByteArray.empty).size) = t.size + sumSz (ns.take (k + 1))) := by
        show _ = _
        rw [sumSz_next ns k (by have := H0.out.1; omega), HT.out]
        omega
      obtain ⟨x, hx⟩ : ∃ x, x = ns.getD k ByteArray.empty := ⟨_, rfl⟩
      rw [← hx] at hcell hx0 HT2
      clear hc hx HT
      by_cases hov : T + (16 + x.size) ≤ 1048576
      · go_wp2
        go_round
        case rel => exact ⟨k + 1, T + (16 + x.size), by omega, by go_num, by go_num, hov, HT2⟩
        case measure => simp [intOf]; omega
      · go_wp2
        go_ret
        exact ⟨rfl, Below.refl _ _⟩
    have HA : Hid (T = t.size + sumSz ns) := by show _ = _; rw [HT.out, sumSz_all ns k (by have := H0.out.1; omega)]
    clear HT
    go_wp2
    go_loop [7, 9] (fun tot i => ∃ k U : Nat, k ≤ l1 ∧ i = .int .i64 k ∧ tot = .int .i64 U ∧ U ≤ 1048576 ∧ Hid (U = t.size + sumSz ns + sumSz (ps.take k))) (fun _ i => l1 - (intOf i).toNat)
    case atStart => exact ⟨0, T, by omega, rfl, rfl, by omega, by show _ = _; rw [← HA.out]; simp [sumSz]⟩
    case round =>
      obtain ⟨j, U, hj, rfl, rfl, hU, HU⟩ := hrel
      by_cases hjt : j < l1
      · obtain ⟨b, off, rfl, hc⟩ := H1.out.2.2.2.2.2 (by omega)
        have hcell := hc j hjt
        have hx0 := S1.out j hjt
        have HT2 : Hid (U + (16 + (ps.getD j ByteArray.empty).size) = t.size + sumSz ns + sumSz (ps.take (j + 1))) := by
          show _ = _
          rw [sumSz_next ps j (by have := H1.out.1; omega), HU.out]
          omega
        obtain ⟨x, hx⟩ : ∃ x, x = ps.getD j ByteArray.empty := ⟨_, rfl⟩
        rw [← hx] at hcell hx0 HT2
        clear hc hx HU
        by_cases hov : U + (16 + x.size) ≤ 1048576
        · go_wp2
          go_round
          case rel => exact ⟨j + 1, U + (16 + x.size), by omega, by go_num, by go_num, hov, HT2⟩
          case measure => simp [intOf]; omega
        · go_wp2
          go_ret
          exact ⟨rfl, Below.refl _ _⟩
      have HV : Hid (t.size + sumSz ns + sumSz ps ≤ 1048576) := by
        have := HU.out
        rw [sumSz_all ps j (by have := H1.out.1; omega)] at this
        show _ ≤ _
        omega
      clear HU HA
      by_cases z1 : l1 = 0
      · have b1 : ((l1 : Int) == 0) = true := by rw [beq_iff_eq]; omega
        clear z1 hcase
        go_wp2
        go_ret
        exact ⟨rfl, Below.refl _ _⟩
      · have b1 : ((l1 : Int) == 0) = false := by rw [beq_eq_false_iff_ne]; omega
        have b2 : ((l0 : Int) != 0) = true := by rw [bne_iff_ne]; omega
        have b3 : ((l0 : Int) != (l1 : Int)) = true := by rw [bne_iff_ne]; omega
        clear z1 hcase
        go_wp2
        go_ret
        exact ⟨rfl, Below.refl _ _⟩

set_option maxRecDepth 100000 in
set_option maxHeartbeats 32000000 in
theorem splits_A (a0 a1 : Option Addr) (c0 l1 c1 : Nat) (ps : List ByteArray) (t : ByteArray) (w : World) (h0 : IsStrs w a0 0 c0 []) (h1 : IsStrs w a1 l1 c1 ps) (hl1 : l1 ≤ 4096) (hl1p : 0 < l1) (ht : t.size ≤ 65536) :
    Calls Trym.prog 6 #[.slice a0 0 c0, .slice a1 l1 c1, .string t] w fun e w' => e = .returned (.bool true) ∧ Below w.heap.size w w' := by
  have htm : t.size ≤ maxLen := by unfold maxLen; omega
  have H0 : Hid (IsStrs w a0 0 c0 []) := h0
  have H1 : Hid (IsStrs w a1 l1 c1 ps) := h1
  clear h0 h1
  have d1 : decide ((4096 : Int) < (l1 : Int)) = false := by simp; omega
  have d2 : decide ((65536 : Int) < (t.size : Int)) = false := by simp; omega
  go_enter Trym.func6, Trym.ntmps6
  go_wp2_with fail
  refine (zzBytes14_any a0 a1 0 c0 l1 c1 [] ps t w H0.out H1.out htm).mono ?_
  rintro e w' ⟨hp, hw⟩
  have hw2 := hw.symm
  subst hw2
  rcases hp with rfl | ⟨rfl, hS0, hS1⟩
  · go_wp2
    go_ret
    exact ⟨rfl, Below.refl _ _⟩
  have S0 : Hid (∀ j, j < 0 → (List.getD [] j ByteArray.empty).size ≤ 1048576) := fun j hj => hS0 j (by have := H0.out.1; omega)
  have S1 : Hid (∀ j, j < l1 → (ps.getD j ByteArray.empty).size ≤ 1048576) := fun j hj => hS1 j (by have := H1.out.1; omega)
  clear hS0 hS1
  go_wp2
  refine wp_loop_rounds 1 ?_
  rw [rounds_succ]
  go_wp2
  obtain ⟨T, HA, hT⟩ : ∃ T : Nat, Hid (T = t.size + sumSz []) ∧ T ≤ 1048576 := ⟨t.size, by show _ = _; simp [sumSz], by omega⟩
  go_loop [7, 9] (fun tot i => ∃ k U : Nat, k ≤ l1 ∧ i = .int .i64 k ∧ tot = .int .i64 U ∧ U ≤ 1048576 ∧ Hid (U = t.size + sumSz ([] : List ByteArray) + sumSz (ps.take k))) (fun _ i => l1 - (intOf i).toNat)
  case atStart => exact ⟨0, t.size, by omega, rfl, rfl, by omega, by show _ = _; simp [sumSz]⟩
  case round =>
    obtain ⟨j, U, hj, rfl, rfl, hU, HU⟩ := hrel
    by_cases hjt : j < l1
    · obtain ⟨b, off, rfl, hc⟩ := H1.out.2.2.2.2.2 (by omega)
      have hcell := hc j hjt
      have hx0 := S1.out j hjt
      have HT2 : Hid (U + (16 + (ps.getD j ByteArray.empty).size) = t.size + sumSz ([] : List ByteArray) + sumSz (ps.take (j + 1))) := by
        show _ = _
        rw [sumSz_next ps j (by have := H1.out.1; omega), HU.out]
        omega
      obtain ⟨x, hx⟩ : ∃ x, x = ps.getD j ByteArray.empty := ⟨_, rfl⟩
      rw [← hx] at hcell hx0 HT2
      clear hc hx HU
      by_cases hov : U + (16 + x.size) ≤ 1048576
      · go_wp2
        go_round
        case rel => exact ⟨j + 1, U + (16 + x.size), by omega, by go_num, by go_num, hov, HT2⟩
        case measure => simp [intOf]; omega
      · go_wp2
        go_ret
        exact ⟨rfl, Below.refl _ _⟩
    have HV : Hid (t.size + sumSz ([] : List ByteArray) + sumSz ps ≤ 1048576) := by
      have := HU.out
      rw [sumSz_all ps j (by have := H1.out.1; omega)] at this
      show _ ≤ _
      omega
    clear HU HA
    have b1 : ((l1 : Int) == 0) = false := by rw [beq_eq_false_iff_ne]; omega
    go_wp2
    go_loop [10] (fun i => ∃ k : Nat, k ≤ l1 ∧ i = .int .i64 k ∧ Hid (PlainTo ps k)) (fun i => l1 - (intOf i).toNat)
    case atStart => exact ⟨0, by omega, rfl, fun j hj => by omega⟩
    case round =>
      obtain ⟨q, hq, rfl, HP⟩ := hrel
      by_cases hqt : q < l1
      · obtain ⟨b, off, rfl, hc⟩ := H1.out.2.2.2.2.2 (by omega)
        have hcell := hc q hqt
        have hx0 := S1.out q hqt
        obtain ⟨x, hx⟩ : ∃ x, x = ps.getD q ByteArray.empty := ⟨_, rfl⟩
        rw [← hx] at hcell hx0
        have HX : Hid (x = ps.getD q ByteArray.empty) := hx
        clear hc hx
        go_wp2
        go_loop [12] (fun i => ∃ m : Nat, m ≤ x.size ∧ i = .int .i64 m ∧ Hid (PlainPre x m)) (fun i => x.size - (intOf i).toNat)
        case atStart => exact ⟨0, by omega, rfl, fun c hc => by simp at hc⟩
        case round =>
          obtain ⟨m, hm, rfl, HQ⟩ := hrel
          by_cases hmt : m < x.size
          · cases hpb : plainB x[m] with
            | true =>
              have HN : Hid (PlainPre x (m + 1)) := HQ.out.next hmt hpb
              have HE : Hid (plainB x[m] = true) := hpb
              clear HQ hpb
              go_wp2_with fail
              refine (plainByte_any x[m] _).mono ?_
              rintro e w'' ⟨rfl, rfl⟩
              rw [HE.out]
              go_wp2
              go_round
              case rel => exact ⟨m + 1, by omega, by go_num, HN⟩
              case measure => simp [intOf]; omega
            | false =>
              have HE : Hid (plainB x[m] = false) := hpb
              clear HQ hpb
              go_wp2_with fail
              refine (plainByte_any x[m] _).mono ?_
              rintro e w'' ⟨rfl, rfl⟩
              rw [HE.out]
              go_wp2
              go_ret
              exact ⟨rfl, Below.refl _ _⟩
          · have HN : Hid (PlainTo ps (q + 1)) := HP.out.next (by rw [← HX.out]; exact HQ.out) (by rw [← HX.out]; omega)
            clear HQ HP
            go_wp2
            go_round
            case rel => exact ⟨q + 1, by omega, by go_num, HN⟩
            case measure => simp [intOf]; omega
      have HP1 : Hid (PlainTo ps ps.length) := fun j hj => HP.out j (by have := H1.out.1; omega)
      clear HP
      go_wp2
      refine wp_loop_rounds 1 ?_
      rw [rounds_succ]
      go_wp2_with fail
      refine (cloneStrs_any a0 0 c0 [] w H0.out (by omega)).mono ?_
      rintro e w1 ⟨x0, rfl, I0, B1⟩
      have J0 : Hid (IsStrs w1 x0 0 0 []) := I0
      have J1 : Hid (IsStrs w1 a1 l1 c1 ps) := H1.out.below B1
      have HB1 : Hid (Below w.heap.size w w1) := B1
      have z1 : w.heap.size ≤ w1.heap.size := B1.size
      clear I0 B1
      go_wp2_with fail
      refine (cloneStrs_any a1 l1 c1 ps w1 J1.out (by omega)).mono ?_
      rintro e w2 ⟨y1, rfl, I1, B2⟩
      have K0 : Hid (IsStrs w2 x0 0 0 []) := J0.out.below B2
      have LN : Hid (ps.length = l1) := I1.1
      have HB2 : Hid (Below w.heap.size w w2) := HB1.out.trans (B2.mono z1)
      have z2 : w.heap.size ≤ w2.heap.size := by have := B2.size; omega
      obtain ⟨bp, op, hy1, hcp⟩ := I1.2.2.2.2.2 hl1p
      subst hy1
      have CP : Hid (∀ j, j < l1 → w2.cell? ⟨bp, op + j, none⟩ = some (.string (ps.getD j ByteArray.empty))) := hcp
      clear hcp I1 B2 J0 J1 HB1 z1 H1 H0
      obtain ⟨i0, hi, hz0, hz1, hz2⟩ := info_parts info5
      have O0 : Hid (w2.ownsRow w2.heap.size 5 1 (.slice none 0 0) 0 (bcells [])) := World.ownsRow_nil _ _ _ _
      have Q0 : Hid (Below w2.heap.size w2 w2) := Below.refl _ _
      go_wp2_with (at_builtin; refine wpList_append_lies _ rfl (.tmp 141) (.tmp 142) 32 rfl w2.heap.size 5 i0 (.int .u8 0) 1 1 Trym.underlying32 hi hz0 hz1 hz2 rfl (by decide) _ 0 _ rfl (O0.out.alloc _) ⟨w2.heap.size, 0, none⟩ 1 1 (bcells [91]) rfl rfl ?_ (bcells_one _) (by decide) (by unfold maxLen; omega) (by omega) (by simp <;> omega) _ rfl ?_)
      · first | exact World.news_of_block (heap_alloc_new w2 (.cells #[.int .u8 91] 5)) | (intro j u h; exact h)
      intro g3 cap3 w3 hown hgrow x1 hlt3
      clear x1
      have O3 : Hid (w3.ownsRow w2.heap.size 5 1 (.slice (some ⟨g3, 0, none⟩) 1 cap3) 1 (bcells ([] ++ [91]))) := by
        show World.ownsRow _ _ _ _ _ _ _
        exact own_cast hown (by simp [bcells])
      have Q3 : Hid (Below w2.heap.size w2 w3) := (Q0.out.alloc (by omega) _).grown hgrow (by simp <;> omega) (fun r hr => (O0.out.lt r hr).1)
      have z3 : w2.heap.size ≤ w3.heap.size := Q3.out.size
      clear hown hgrow O0 Q0 hlt3
      have hlen := headTo_le 91 ([] : List ByteArray) ps
      have HLE : Hid (∀ k, (headTo 91 (itsOf ([] : List ByteArray) ps) k).length ≤ sumSz ([] : List ByteArray) + sumSz ps + 1) := hlen
      have O4 : Hid (w3.ownsRow w2.heap.size 5 1 (.slice (some ⟨g3, 0, none⟩) 1 cap3) 1 (bcells (headTo 91 (itsOf ([] : List ByteArray) ps) 0))) := by
        show World.ownsRow _ _ _ _ _ _ _
        rw [headTo_zero]; exact O3.out
      clear O3 hlen
      go_wp2
      go_loopw [16, 17] (fun v i wr => ∃ (k n : Nat), k ≤ l1 ∧ i = .int .i64 k ∧ Hid (wr.ownsRow w2.heap.size 5 1 v n (bcells (headTo 91 (itsOf ([] : List ByteArray) ps) k))) ∧ Hid (Below w2.heap.size w2 wr)) (fun _ i _ => l1 - (intOf i).toNat)
      case atStart => exact ⟨0, 1, by omega, rfl, O4, Q3⟩
      case round =>
        obtain ⟨k, n, hk, rfl, OR, QR⟩ := hrel
        have zr : w2.heap.size ≤ wr.heap.size := QR.out.size
        have hn : n ≤ 1048577 := by
          have h1 := OR.out.1
          rw [bcells_length] at h1
          have h2 := HLE.out k
          have h3 := HV.out
          omega
        by_cases hlt : k < l1
        · have hp0 := S1.out k hlt
          obtain ⟨y, hy⟩ : ∃ y, y = ps.getD k ByteArray.empty := ⟨_, rfl⟩
          have FP : Hid (w2.cell? ⟨bp, op + k, none⟩ = some (.string y)) := by show _ = _; rw [hy]; exact CP.out k hlt
          rw [← hy] at hp0
          have HI : Hid ((itsOf ([] : List ByteArray) ps)[k]? = some (none, y.data.toList)) := by
            show _ = _
            rw [hy]
            exact itsOf_get_nil ps k (by have := LN.out; omega)
          have HNX : Hid (headTo 91 (itsOf ([] : List ByteArray) ps) (k + 1) = headTo 91 (itsOf ([] : List ByteArray) ps) k ++ ((if k = 0 then [] else [44]) ++ item (none, y.data.toList))) := headTo_next _ _ k _ HI.out
          clear hy HI
          by_cases hkz : k = 0
          · have HKZ : Hid (k = 0) := hkz
            clear hkz
            have k0 : ¬ (0 : Int) < (k : Int) := by have := HKZ.out; omega
            have kd : decide ((0 : Int) < (k : Int)) = false := by simpa using k0
            have fp5 : wr.cell? ⟨bp, op + k, none⟩ = some (.string y) := by
              have h := FP.out
              rw [← h]
              exact QR.out.cell (block_lt_of_cell h)
            go_wp2_with (at_builtin; refine Lib.wpList_append_own_string _ rfl (.tmp 173) (.tmp 177) 32 9 rfl w2.heap.size 5 i0 Trym.underlying32 Trym.underlying9 hi hz0 hz1 hz2 _ n _ rfl OR.out y rfl (by unfold maxLen; omega) (by omega) (by omega) ?_)
            intro v9 w9 hown hgrow x1
            clear x1
            obtain ⟨n9, hn9⟩ : ∃ n', n' = n + y.size := ⟨_, rfl⟩
            rw [← hn9] at hown
            have hbd9 : n9 ≤ n + y.size := by omega
            have O9 : Hid (w9.ownsRow w2.heap.size 5 1 v9 n9 (bcells (headTo 91 (itsOf ([] : List ByteArray) ps) k ++ y.data.toList))) := by
              show World.ownsRow _ _ _ _ _ _ _
              exact own_cast hown (by simp [bcells, Lib.strCells])
            have Q9 : Hid (Below w2.heap.size w2 w9) := QR.out.grown hgrow (by omega) (fun r hr => (OR.out.lt r hr).1)
            have z9 : w2.heap.size ≤ w9.heap.size := Q9.out.size
            clear hown hgrow hn9 OR QR
            have ON : Hid (w9.ownsRow w2.heap.size 5 1 v9 n9 (bcells (headTo 91 (itsOf ([] : List ByteArray) ps) (k + 1)))) := by
              have e : headTo 91 (itsOf ([] : List ByteArray) ps) (k + 1) = (headTo 91 (itsOf ([] : List ByteArray) ps) k ++ y.data.toList) := by rw [HNX.out, if_pos HKZ.out]; simp [item]
              show World.ownsRow _ _ _ _ _ _ _
              rw [e]; exact O9.out
            clear O9 HNX HKZ
            go_wp2
            go_roundw
            case rel => exact ⟨k + 1, n9, by omega, by go_num, ON, Q9⟩
            case measure => simp [intOf]; omega
          · have HKZ : Hid (¬ k = 0) := hkz
            clear hkz
            have k0 : (0 : Int) < (k : Int) := by have := HKZ.out; omega
            go_wp2_with (at_builtin; refine wpList_append_lies _ rfl (.tmp 155) (.tmp 156) 32 rfl w2.heap.size 5 i0 (.int .u8 0) 1 1 Trym.underlying32 hi hz0 hz1 hz2 rfl (by decide) _ n _ rfl (OR.out.alloc _) ⟨wr.heap.size, 0, none⟩ 1 1 (bcells [44]) rfl rfl ?_ (bcells_one _) (by decide) (by unfold maxLen; omega) (by omega) (by simp <;> omega) _ rfl ?_)
            · first | exact World.news_of_block (heap_alloc_new wr (.cells #[.int .u8 44] 5)) | (intro j u h; exact h)
            intro g5 cap5 w5 hown hgrow x1 hlt5
            clear x1
            obtain ⟨n5, hn5⟩ : ∃ n', n' = n + 1 := ⟨_, rfl⟩
            rw [← hn5] at hown ⊢
            have hbd5 : n5 ≤ n + 1 := by omega
            have O5 : Hid (w5.ownsRow w2.heap.size 5 1 (.slice (some ⟨g5, 0, none⟩) n5 cap5) n5 (bcells (headTo 91 (itsOf ([] : List ByteArray) ps) k ++ [44]))) := by
              show World.ownsRow _ _ _ _ _ _ _
              exact own_cast hown (by simp [bcells])
            have Q5 : Hid (Below w2.heap.size w2 w5) := (QR.out.alloc (by omega) _).grown hgrow (by simp <;> omega) (fun r hr => (OR.out.lt r hr).1)
            have z5 : w2.heap.size ≤ w5.heap.size := Q5.out.size
            have fp5 : w5.cell? ⟨bp, op + k, none⟩ = some (.string y) := by
              have h := FP.out
              rw [← h]
              exact Q5.out.cell (block_lt_of_cell h)
            clear hown hgrow hn5 OR QR hlt5
            go_wp2_with (at_builtin; refine Lib.wpList_append_own_string _ rfl (.tmp 173) (.tmp 177) 32 9 rfl w2.heap.size 5 i0 Trym.underlying32 Trym.underlying9 hi hz0 hz1 hz2 _ n5 _ rfl O5.out y rfl (by unfold maxLen; omega) (by omega) (by omega) ?_)
            intro v9 w9 hown hgrow x1
            clear x1
            obtain ⟨n9, hn9⟩ : ∃ n', n' = n5 + y.size := ⟨_, rfl⟩
            rw [← hn9] at hown
            have hbd9 : n9 ≤ n5 + y.size := by omega
            have O9 : Hid (w9.ownsRow w2.heap.size 5 1 v9 n9 (bcells ((headTo 91 (itsOf ([] : List ByteArray) ps) k ++ [44]) ++ y.data.toList))) := by
              show World.ownsRow _ _ _ _ _ _ _
              exact own_cast hown (by simp [bcells, Lib.strCells])
            have Q9 : Hid (Below w2.heap.size w2 w9) := Q5.out.grown hgrow (by omega) (fun r hr => (O5.out.lt r hr).1)
            have z9 : w2.heap.size ≤ w9.heap.size := Q9.out.size
            clear hown hgrow hn9 O5 Q5
            have ON : Hid (w9.ownsRow w2.heap.size 5 1 v9 n9 (bcells (headTo 91 (itsOf ([] : List ByteArray) ps) (k + 1)))) := by
              have e : headTo 91 (itsOf ([] : List ByteArray) ps) (k + 1) = ((headTo 91 (itsOf ([] : List ByteArray) ps) k ++ [44]) ++ y.data.toList) := by rw [HNX.out, if_neg HKZ.out]; simp [item]
              show World.ownsRow _ _ _ _ _ _ _
              rw [e]; exact O9.out
            clear O9 HNX HKZ
            go_wp2
            go_roundw
            case rel => exact ⟨k + 1, n9, by omega, by go_num, ON, Q9⟩
            case measure => simp [intOf]; omega
        have ek : k = ps.length := by have := LN.out; omega
        have OE := own_at (headTo 91 (itsOf ([] : List ByteArray) ps) ps.length) OR (by rw [ek])
        clear ek
        have hpne : ps ≠ [] := by
          intro e
          have := LN.out
          rw [e] at this
          simp at this
          omega
        obtain ⟨R, m1, m2, m3⟩ := joined_path ([] : List ByteArray) ps 91 93 rfl rfl (.inl rfl) hpne (fun j hj => by simp at hj) HP1.out t
        have hbig := headAll_le 91 ([] : List ByteArray) ps (.inl rfl) hpne
        have HBG : Hid ((headTo 91 (itsOf ([] : List ByteArray) ps) ps.length).length + 1 ≤ sumSz ([] : List ByteArray) + sumSz ps) := hbig
        obtain ⟨hd, hhd⟩ : ∃ hd : ByteArray, hd = ⟨(headTo 91 (itsOf ([] : List ByteArray) ps) ps.length ++ [93]).toArray⟩ := ⟨_, rfl⟩
        have hsz : hd.size = (headTo 91 (itsOf ([] : List ByteArray) ps) ps.length ++ [93]).length := by rw [hhd]; rfl
        rw [← hhd, ← hsz] at m1
        rw [← hhd] at m3
        have M1 : Hid (mPath (hd ++ t).data.toList = some (R, hd.size)) := m1
        have M2 : Hid (R.length = l1) := m2.trans LN.out
        have M3 : Hid (elems (hd ++ t) R = ps.map Value.string) := m3
        have MS : Hid ((hd ++ t).size ≤ 1048576) := by
          show _ ≤ _
          have h1 := HV.out
          rw [ByteArray.size_append, hsz, List.length_append]
          simp only [List.length_cons, List.length_nil]
          omega
        have HH : Hid (hd = ⟨(headTo 91 (itsOf ([] : List ByteArray) ps) ps.length ++ [93]).toArray⟩) := hhd
        have HZ : Hid (hd.size = (headTo 91 (itsOf ([] : List ByteArray) ps) ps.length ++ [93]).length) := hsz
        clear m1 m2 m3 hbig hhd hsz hpne OR
        go_wp2_with (at_builtin; refine wpList_append_lies _ rfl (.tmp 182) (.tmp 183) 32 rfl w2.heap.size 5 i0 (.int .u8 0) 1 1 Trym.underlying32 hi hz0 hz1 hz2 rfl (by decide) _ n _ rfl (OE.out.alloc _) ⟨wr.heap.size, 0, none⟩ 1 1 (bcells [93]) rfl rfl ?_ (bcells_one _) (by decide) (by unfold maxLen; omega) (by omega) (by simp <;> omega) _ rfl ?_)
        · first | exact World.news_of_block (heap_alloc_new wr (.cells #[.int .u8 93] 5)) | (intro j u h; exact h)
        intro g10 cap10 w10 hown hgrow x1 hlt10
        clear x1
        obtain ⟨n10, hn10⟩ : ∃ n', n' = n + 1 := ⟨_, rfl⟩
        rw [← hn10] at hown ⊢
        have hbd10 : n10 ≤ n + 1 := by omega
        have O10 : Hid (w10.ownsRow w2.heap.size 5 1 (.slice (some ⟨g10, 0, none⟩) n10 cap10) n10 (bcells (headTo 91 (itsOf ([] : List ByteArray) ps) ps.length ++ [93]))) := by
          show World.ownsRow _ _ _ _ _ _ _
          exact own_cast hown (by simp [bcells])
        have Q10 : Hid (Below w2.heap.size w2 w10) := (QR.out.alloc (by omega) _).grown hgrow (by simp <;> omega) (fun r hr => (OE.out.lt r hr).1)
        have z10 : w2.heap.size ≤ w10.heap.size := Q10.out.size
        clear hown hgrow hn10 OE QR
        have hn10 : n10 = hd.size := by
          have h1 := O10.out.1
          rw [bcells_length, ← HZ.out] at h1
          omega
        have hcv : (convert 32 9 (.slice (some ⟨g10, 0, none⟩) n10 cap10)).run Trym.prog w10 = .ok (.string hd) w10 := by
          rw [hn10, HZ.out, HH.out]
          refine run_convert_bytes_back w10 32 9 5 ⟨g10, 0, none⟩ cap10 _ Trym.underlying32 Trym.underlying5 Trym.underlying9 ?_
          intro j hj
          refine O10.out.cells (g := g10) rfl j _ ?_
          rw [bcells, List.getElem?_map, List.getElem?_eq_getElem hj]
          rfl
        have HC10 : Hid (Below w2.heap.size w2 w10) := Q10.out
        clear hn10 O10 Q10
        have hds : hd.size + t.size ≤ 1048576 := by have := MS.out; rw [ByteArray.size_append] at this; exact this
        go_wp2_with fail
        refine (zzMultipath_some (hd ++ t) w10 MS.out R hd.size M1.out).mono ?_
        rintro e w11 ⟨gg, capg, rfl, hgl, og, bg⟩
        rw [M2.out]
        have QB : Hid (Below w2.heap.size w2 w11) := HC10.out.trans (bg.mono z10)
        have CG : Hid (∀ j, j < l1 → w11.cell? ⟨gg, j, none⟩ = some (.string (ps.getD j ByteArray.empty))) := fun j hj => by
          have h := og.cellAt j (by rw [M2.out]; omega)
          rw [h, M3.out, List.getElem?_map, List.getElem?_eq_getElem (by have := LN.out; omega)]
          simp
          rw [List.getElem?_eq_getElem (by have := LN.out; omega)]
          rfl
        have CQ : Hid (∀ j, j < l1 → w11.cell? ⟨bp, op + j, none⟩ = some (.string (ps.getD j ByteArray.empty))) := fun j hj => by
          have h := CP.out j hj
          rw [← h]
          exact QB.out.cell (block_lt_of_cell h)
        have HBF : Hid (Below w.heap.size w w11) := HB2.out.trans (QB.out.mono z2)
        clear og bg hgl hcv HC10 hlt10
        go_wp2
        go_loopw [21] (fun i wr => ∃ k : Nat, k ≤ l1 ∧ i = .int .i64 k ∧ ∃ m, wr = w11.drewN m) (fun i _ => l1 - (intOf i).toNat)
        case atStart => exact ⟨0, by omega, rfl, 0, rfl⟩
        case round =>
          obtain ⟨k', hk', rfl, m, rfl⟩ := hrel
          by_cases hkt : k' < l1
          · have f1 := CG.out k' hkt
            have f2 := CQ.out k' hkt
            obtain ⟨y, hy⟩ : ∃ y, y = ps.getD k' ByteArray.empty := ⟨_, rfl⟩
            rw [← hy] at f1 f2
            clear hy
            have i1 : (k' : Int) < (l1 : Int) := by omega
            have i2 : (0 : Int) ≤ (k' : Int) := by omega
            go_wp2
            go_quiet (fail)
            go_wp2
            go_roundw
            case rel => exact ⟨k' + 1, by omega, by go_num, _, rfl⟩
            case measure => simp [intOf]; omega
          · go_wp2
            go_ret
            exact ⟨rfl, below_drewN HBF.out _⟩

set_option maxRecDepth 100000 in
set_option maxHeartbeats 32000000 in
theorem splits_B (a0 a1 : Option Addr) (c0 l1 c1 : Nat) (ns ps : List ByteArray) (t : ByteArray) (w : World) (h0 : IsStrs w a0 l1 c0 ns) (h1 : IsStrs w a1 l1 c1 ps) (hl1 : l1 ≤ 4096) (hl1p : 0 < l1) (ht : t.size ≤ 65536) :
    Calls Trym.prog 6 #[.slice a0 l1 c0, .slice a1 l1 c1, .string t] w fun e w' => e = .returned (.bool true) ∧ Below w.heap.size w w' := by
  have htm : t.size ≤ maxLen := by unfold maxLen; omega
  have H0 : Hid (IsStrs w a0 l1 c0 ns) := h0
  have H1 : Hid (IsStrs w a1 l1 c1 ps) := h1
  clear h0 h1
  have d1 : decide ((4096 : Int) < (l1 : Int)) = false := by simp; omega
  have d2 : decide ((65536 : Int) < (t.size : Int)) = false := by simp; omega
  go_enter Trym.func6, Trym.ntmps6
  go_wp2_with fail
  refine (zzBytes14_any a0 a1 l1 c0 l1 c1 ns ps t w H0.out H1.out htm).mono ?_
  rintro e w' ⟨hp, hw⟩
  have hw2 := hw.symm
  subst hw2
  rcases hp with rfl | ⟨rfl, hS0, hS1⟩
  · go_wp2
    go_ret
    exact ⟨rfl, Below.refl _ _⟩
  have S0 : Hid (∀ j, j < l1 → (List.getD ns j ByteArray.empty).size ≤ 1048576) := fun j hj => hS0 j (by have := H0.out.1; omega)
  have S1 : Hid (∀ j, j < l1 → (ps.getD j ByteArray.empty).size ≤ 1048576) := fun j hj => hS1 j (by have := H1.out.1; omega)
  clear hS0 hS1
  go_wp2
  go_loop [7, 8] (fun tot i => ∃ k T : Nat, k ≤ l1 ∧ i = .int .i64 k ∧ tot = .int .i64 T ∧ T ≤ 1048576 ∧ Hid (T = t.size + sumSz (ns.take k))) (fun _ i => l1 - (intOf i).toNat)
  case atStart => exact ⟨0, t.size, by omega, rfl, rfl, by omega, by show _ = _; simp [sumSz]⟩
  case round =>
    obtain ⟨k, T, hk, rfl, rfl, hT, HT⟩ := hrel
    by_cases hlt : k < l1
    · obtain ⟨b, off, rfl, hc⟩ := H0.out.2.2.2.2.2 (by omega)
      have hcell := hc k hlt
      have hx0 := S0.out k hlt
      have HT2 : Hid (T + (16 + (ns.getD k ByteArray.empty).size) = t.size + sumSz (ns.take (k + 1))) := by
        show _ = _
        rw [sumSz_next ns k (by have := H0.out.1; omega), HT.out]
        omega
      obtain ⟨x, hx⟩ : ∃ x, x = ns.getD k ByteArray.empty := ⟨_, rfl⟩
      rw [← hx] at hcell hx0 HT2
      clear hc hx HT
      by_cases hov : T + (16 + x.size) ≤ 1048576
      · go_wp2
        go_round
        case rel => exact ⟨k + 1, T + (16 + x.size), by omega, by go_num, by go_num, hov, HT2⟩
        case measure => simp [intOf]; omega
      · go_wp2
        go_ret
        exact ⟨rfl, Below.refl _ _⟩
    have HA : Hid (T = t.size + sumSz ns) := by show _ = _; rw [HT.out, sumSz_all ns k (by have := H0.out.1; omega)]
    clear HT
    go_wp2
    go_loop [7, 9] (fun tot i => ∃ k U : Nat, k ≤ l1 ∧ i = .int .i64 k ∧ tot = .int .i64 U ∧ U ≤ 1048576 ∧ Hid (U = t.size + sumSz ns + sumSz (ps.take k))) (fun _ i => l1 - (intOf i).toNat)
    case atStart => exact ⟨0, T, by omega, rfl, rfl, by omega, by show _ = _; rw [← HA.out]; simp [sumSz]⟩
    case round =>
      obtain ⟨j, U, hj, rfl, rfl, hU, HU⟩ := hrel
      by_cases hjt : j < l1
      · obtain ⟨b, off, rfl, hc⟩ := H1.out.2.2.2.2.2 (by omega)
        have hcell := hc j hjt
        have hx0 := S1.out j hjt
        have HT2 : Hid (U + (16 + (ps.getD j ByteArray.empty).size) = t.size + sumSz ns + sumSz (ps.take (j + 1))) := by
          show _ = _
          rw [sumSz_next ps j (by have := H1.out.1; omega), HU.out]
          omega
        obtain ⟨x, hx⟩ : ∃ x, x = ps.getD j ByteArray.empty := ⟨_, rfl⟩
        rw [← hx] at hcell hx0 HT2
        clear hc hx HU
        by_cases hov : U + (16 + x.size) ≤ 1048576
        · go_wp2
          go_round
          case rel => exact ⟨j + 1, U + (16 + x.size), by omega, by go_num, by go_num, hov, HT2⟩
          case measure => simp [intOf]; omega
        · go_wp2
          go_ret
          exact ⟨rfl, Below.refl _ _⟩
      have HV : Hid (t.size + sumSz ns + sumSz ps ≤ 1048576) := by
        have := HU.out
        rw [sumSz_all ps j (by have := H1.out.1; omega)] at this
        show _ ≤ _
        omega
      clear HU HA
      have b1 : ((l1 : Int) == 0) = false := by rw [beq_eq_false_iff_ne]; omega
      have b2 : ((l1 : Int) != 0) = true := by rw [bne_iff_ne]; omega
      go_wp2
      go_loop [10] (fun i => ∃ k : Nat, k ≤ l1 ∧ i = .int .i64 k ∧ Hid (PlainTo ps k)) (fun i => l1 - (intOf i).toNat)
      case atStart => exact ⟨0, by omega, rfl, fun j hj => by omega⟩
      case round =>
        obtain ⟨q, hq, rfl, HP⟩ := hrel
        by_cases hqt : q < l1
        · obtain ⟨b, off, rfl, hc⟩ := H1.out.2.2.2.2.2 (by omega)
          have hcell := hc q hqt
          have hx0 := S1.out q hqt
          obtain ⟨x, hx⟩ : ∃ x, x = ps.getD q ByteArray.empty := ⟨_, rfl⟩
          rw [← hx] at hcell hx0
          have HX : Hid (x = ps.getD q ByteArray.empty) := hx
          clear hc hx
          go_wp2
          go_loop [12] (fun i => ∃ m : Nat, m ≤ x.size ∧ i = .int .i64 m ∧ Hid (PlainPre x m)) (fun i => x.size - (intOf i).toNat)
          case atStart => exact ⟨0, by omega, rfl, fun c hc => by simp at hc⟩
          case round =>
            obtain ⟨m, hm, rfl, HQ⟩ := hrel
            by_cases hmt : m < x.size
            · cases hpb : plainB x[m] with
              | true =>
                have HN : Hid (PlainPre x (m + 1)) := HQ.out.next hmt hpb
                have HE : Hid (plainB x[m] = true) := hpb
                clear HQ hpb
                go_wp2_with fail
                refine (plainByte_any x[m] _).mono ?_
                rintro e w'' ⟨rfl, rfl⟩
                rw [HE.out]
                go_wp2
                go_round
                case rel => exact ⟨m + 1, by omega, by go_num, HN⟩
                case measure => simp [intOf]; omega
              | false =>
                have HE : Hid (plainB x[m] = false) := hpb
                clear HQ hpb
                go_wp2_with fail
                refine (plainByte_any x[m] _).mono ?_
                rintro e w'' ⟨rfl, rfl⟩
                rw [HE.out]
                go_wp2
                go_ret
                exact ⟨rfl, Below.refl _ _⟩
            · have HN : Hid (PlainTo ps (q + 1)) := HP.out.next (by rw [← HX.out]; exact HQ.out) (by rw [← HX.out]; omega)
              clear HQ HP
              go_wp2
              go_round
              case rel => exact ⟨q + 1, by omega, by go_num, HN⟩
              case measure => simp [intOf]; omega
        have HP1 : Hid (PlainTo ps ps.length) := fun j hj => HP.out j (by have := H1.out.1; omega)
        clear HP
        go_wp2
        go_loop [13] (fun i => ∃ k : Nat, k ≤ l1 ∧ i = .int .i64 k ∧ Hid (NameTo ns k)) (fun i => l1 - (intOf i).toNat)
        case atStart => exact ⟨0, by omega, rfl, fun j hj => by omega⟩
        case round =>
          obtain ⟨r, hr, rfl, HP⟩ := hrel
          by_cases hrt : r < l1
          · obtain ⟨b, off, rfl, hc⟩ := H0.out.2.2.2.2.2 (by omega)
            have hcell := hc r hrt
            have hx0 := S0.out r hrt
            obtain ⟨x, hx⟩ : ∃ x, x = ns.getD r ByteArray.empty := ⟨_, rfl⟩
            rw [← hx] at hcell hx0
            have HX : Hid (x = ns.getD r ByteArray.empty) := hx
            clear hc hx
            go_wp2
            go_loop [15] (fun i => ∃ m : Nat, m ≤ x.size ∧ i = .int .i64 m ∧ Hid (NamePre x m)) (fun i => x.size - (intOf i).toNat)
            case atStart => exact ⟨0, by omega, rfl, fun c hc => by simp at hc⟩
            case round =>
              obtain ⟨m, hm, rfl, HQ⟩ := hrel
              by_cases hmt : m < x.size
              · by_cases h34 : x[m] = 34
                · have e1 : (x[m].toNat : Int) = 34 := byte_int x[m] 34 (by omega) h34
                  clear HQ h34
                  go_wp2
                  go_ret
                  exact ⟨rfl, Below.refl _ _⟩
                · have e1 : ((x[m].toNat : Int) == 34) = false := byte_ne x[m] 34 (by omega) h34
                  by_cases h92 : x[m] = 92
                  · have e2 : (x[m].toNat : Int) = 92 := byte_int x[m] 92 (by omega) h92
                    clear HQ h34 h92 e1
                    go_wp2
                    go_ret
                    exact ⟨rfl, Below.refl _ _⟩
                  · have e2 : ((x[m].toNat : Int) == 92) = false := byte_ne x[m] 92 (by omega) h92
                    have HN : Hid (NamePre x (m + 1)) := HQ.out.next hmt h34 h92
                    clear HQ h34 h92
                    go_wp2
                    go_round
                    case rel => exact ⟨m + 1, by omega, by go_num, HN⟩
                    case measure => simp [intOf]; omega
              · have HN : Hid (NameTo ns (r + 1)) := HP.out.next (by rw [← HX.out]; exact HQ.out) (by rw [← HX.out]; omega)
                clear HQ HP
                go_wp2
                go_round
                case rel => exact ⟨r + 1, by omega, by go_num, HN⟩
                case measure => simp [intOf]; omega
          have HN1 : Hid (NameTo ns ns.length) := fun j hj => HP.out j (by have := H0.out.1; omega)
          clear HP
          go_wp2_with fail
          refine (cloneStrs_any a0 l1 c0 ns w H0.out (by omega)).mono ?_
          rintro e w1 ⟨x0, rfl, I0, B1⟩
          have J0 : Hid (IsStrs w1 x0 l1 l1 ns) := I0
          have J1 : Hid (IsStrs w1 a1 l1 c1 ps) := H1.out.below B1
          have HB1 : Hid (Below w.heap.size w w1) := B1
          have z1 : w.heap.size ≤ w1.heap.size := B1.size
          clear I0 B1
          go_wp2_with fail
          refine (cloneStrs_any a1 l1 c1 ps w1 J1.out (by omega)).mono ?_
          rintro e w2 ⟨y1, rfl, I1, B2⟩
          have K0 : Hid (IsStrs w2 x0 l1 l1 ns) := J0.out.below B2
          have LN : Hid (ps.length = l1) := I1.1
          have HB2 : Hid (Below w.heap.size w w2) := HB1.out.trans (B2.mono z1)
          have z2 : w.heap.size ≤ w2.heap.size := by have := B2.size; omega
          obtain ⟨bp, op, hy1, hcp⟩ := I1.2.2.2.2.2 hl1p
          subst hy1
          have CP : Hid (∀ j, j < l1 → w2.cell? ⟨bp, op + j, none⟩ = some (.string (ps.getD j ByteArray.empty))) := hcp
          clear hcp I1 B2 J0 J1 HB1 z1 H1 H0
          obtain ⟨bn, on, hx0, hcn⟩ := K0.out.2.2.2.2.2 hl1p
          have LM : Hid (ns.length = l1) := K0.out.1
          subst hx0
          have CN : Hid (∀ j, j < l1 → w2.cell? ⟨bn, on + j, none⟩ = some (.string (ns.getD j ByteArray.empty))) := hcn
          clear hcn K0
          obtain ⟨i0, hi, hz0, hz1, hz2⟩ := info_parts info5
          have O0 : Hid (w2.ownsRow w2.heap.size 5 1 (.slice none 0 0) 0 (bcells [])) := World.ownsRow_nil _ _ _ _
          have Q0 : Hid (Below w2.heap.size w2 w2) := Below.refl _ _
          go_wp2_with (at_builtin; refine wpList_append_lies _ rfl (.tmp 144) (.tmp 145) 32 rfl w2.heap.size 5 i0 (.int .u8 0) 1 1 Trym.underlying32 hi hz0 hz1 hz2 rfl (by decide) _ 0 _ rfl (O0.out.alloc _) ⟨w2.heap.size, 0, none⟩ 1 1 (bcells [123]) rfl rfl ?_ (bcells_one _) (by decide) (by unfold maxLen; omega) (by omega) (by simp <;> omega) _ rfl ?_)
          · first | exact World.news_of_block (heap_alloc_new w2 (.cells #[.int .u8 123] 5)) | (intro j u h; exact h)
          intro g3 cap3 w3 hown hgrow x1 hlt3
          clear x1
          have O3 : Hid (w3.ownsRow w2.heap.size 5 1 (.slice (some ⟨g3, 0, none⟩) 1 cap3) 1 (bcells ([] ++ [123]))) := by
            show World.ownsRow _ _ _ _ _ _ _
            exact own_cast hown (by simp [bcells])
          have Q3 : Hid (Below w2.heap.size w2 w3) := (Q0.out.alloc (by omega) _).grown hgrow (by simp <;> omega) (fun r hr => (O0.out.lt r hr).1)
          have z3 : w2.heap.size ≤ w3.heap.size := Q3.out.size
          clear hown hgrow O0 Q0 hlt3
          have hlen := headTo_le 123 ns ps
          have HLE : Hid (∀ k, (headTo 123 (itsOf ns ps) k).length ≤ sumSz ns + sumSz ps + 1) := hlen
          have O4 : Hid (w3.ownsRow w2.heap.size 5 1 (.slice (some ⟨g3, 0, none⟩) 1 cap3) 1 (bcells (headTo 123 (itsOf ns ps) 0))) := by
            show World.ownsRow _ _ _ _ _ _ _
            rw [headTo_zero]; exact O3.out
          clear O3 hlen
          go_wp2
          go_loopw [16, 17] (fun v i wr => ∃ (k n : Nat), k ≤ l1 ∧ i = .int .i64 k ∧ Hid (wr.ownsRow w2.heap.size 5 1 v n (bcells (headTo 123 (itsOf ns ps) k))) ∧ Hid (Below w2.heap.size w2 wr)) (fun _ i _ => l1 - (intOf i).toNat)
          case atStart => exact ⟨0, 1, by omega, rfl, O4, Q3⟩
          case round =>
            obtain ⟨k, n, hk, rfl, OR, QR⟩ := hrel
            have zr : w2.heap.size ≤ wr.heap.size := QR.out.size
            have hn : n ≤ 1048577 := by
              have h1 := OR.out.1
              rw [bcells_length] at h1
              have h2 := HLE.out k
              have h3 := HV.out
              omega
            by_cases hlt : k < l1
            · have hp0 := S1.out k hlt
              obtain ⟨y, hy⟩ : ∃ y, y = ps.getD k ByteArray.empty := ⟨_, rfl⟩
              have FP : Hid (w2.cell? ⟨bp, op + k, none⟩ = some (.string y)) := by show _ = _; rw [hy]; exact CP.out k hlt
              rw [← hy] at hp0
              have hm0 := S0.out k hlt
              obtain ⟨x, hx⟩ : ∃ x, x = ns.getD k ByteArray.empty := ⟨_, rfl⟩
              have FN : Hid (w2.cell? ⟨bn, on + k, none⟩ = some (.string x)) := by show _ = _; rw [hx]; exact CN.out k hlt
              rw [← hx] at hm0
              have HI : Hid ((itsOf ns ps)[k]? = some (some x.data.toList, y.data.toList)) := by
                show _ = _
                rw [hx, hy]
                exact itsOf_get ns ps (by intro e; have := LM.out; rw [e] at this; simp at this; omega) k (by have := LN.out; omega) (by have := LM.out; omega)
              have HNX : Hid (headTo 123 (itsOf ns ps) (k + 1) = headTo 123 (itsOf ns ps) k ++ ((if k = 0 then [] else [44]) ++ item (some x.data.toList, y.data.toList))) := headTo_next _ _ k _ HI.out
              clear hx hy HI
              by_cases hkz : k = 0
              · have HKZ : Hid (k = 0) := hkz
                clear hkz
                have k0 : ¬ (0 : Int) < (k : Int) := by have := HKZ.out; omega
                have kd : decide ((0 : Int) < (k : Int)) = false := by simpa using k0
                go_wp2_with (at_builtin; refine wpList_append_lies _ rfl (.tmp 161) (.tmp 162) 32 rfl w2.heap.size 5 i0 (.int .u8 0) 1 1 Trym.underlying32 hi hz0 hz1 hz2 rfl (by decide) _ n _ rfl (OR.out.alloc _) ⟨wr.heap.size, 0, none⟩ 1 1 (bcells [34]) rfl rfl ?_ (bcells_one _) (by decide) (by unfold maxLen; omega) (by omega) (by simp <;> omega) _ rfl ?_)
                · first | exact World.news_of_block (heap_alloc_new wr (.cells #[.int .u8 34] 5)) | (intro j u h; exact h)
                intro g6 cap6 w6 hown hgrow x1 hlt6
                clear x1
                obtain ⟨n6, hn6⟩ : ∃ n', n' = n + 1 := ⟨_, rfl⟩
                rw [← hn6] at hown ⊢
                have hbd6 : n6 ≤ n + 1 := by omega
                have O6 : Hid (w6.ownsRow w2.heap.size 5 1 (.slice (some ⟨g6, 0, none⟩) n6 cap6) n6 (bcells (headTo 123 (itsOf ns ps) k ++ [34]))) := by
                  show World.ownsRow _ _ _ _ _ _ _
                  exact own_cast hown (by simp [bcells])
                have Q6 : Hid (Below w2.heap.size w2 w6) := (QR.out.alloc (by omega) _).grown hgrow (by simp <;> omega) (fun r hr => (OR.out.lt r hr).1)
                have z6 : w2.heap.size ≤ w6.heap.size := Q6.out.size
                have fn6 : w6.cell? ⟨bn, on + k, none⟩ = some (.string x) := by
                  have h := FN.out
                  rw [← h]
                  exact Q6.out.cell (block_lt_of_cell h)
                clear hown hgrow hn6 OR QR hlt6
                go_wp2_with (at_builtin; refine Lib.wpList_append_own_string _ rfl (.tmp 164) (.tmp 168) 32 9 rfl w2.heap.size 5 i0 Trym.underlying32 Trym.underlying9 hi hz0 hz1 hz2 _ n6 _ rfl O6.out x rfl (by unfold maxLen; omega) (by omega) (by omega) ?_)
                intro v7 w7 hown hgrow x1
                clear x1
                obtain ⟨n7, hn7⟩ : ∃ n', n' = n6 + x.size := ⟨_, rfl⟩
                rw [← hn7] at hown
                have hbd7 : n7 ≤ n6 + x.size := by omega
                have O7 : Hid (w7.ownsRow w2.heap.size 5 1 v7 n7 (bcells ((headTo 123 (itsOf ns ps) k ++ [34]) ++ x.data.toList))) := by
                  show World.ownsRow _ _ _ _ _ _ _
                  exact own_cast hown (by simp [bcells, Lib.strCells])
                have Q7 : Hid (Below w2.heap.size w2 w7) := Q6.out.grown hgrow (by omega) (fun r hr => (O6.out.lt r hr).1)
                have z7 : w2.heap.size ≤ w7.heap.size := Q7.out.size
                clear hown hgrow hn7 O6 Q6
                go_wp2_with (at_builtin; refine wpList_append_lies _ rfl (.tmp 170) (.tmp 171) 32 rfl w2.heap.size 5 i0 (.int .u8 0) 1 1 Trym.underlying32 hi hz0 hz1 hz2 rfl (by decide) _ n7 _ rfl (O7.out.alloc _) ⟨w7.heap.size, 0, none⟩ 2 2 (bcells [34, 58]) rfl rfl ?_ (bcells_one _) (by decide) (by unfold maxLen; omega) (by omega) (by simp <;> omega) _ rfl ?_)
                · first | exact World.news_of_block (heap_alloc_new w7 (.cells #[.int .u8 34, .int .u8 58] 5)) | (intro j u h; exact h)
                intro g8 cap8 w8 hown hgrow x1 hlt8
                clear x1
                obtain ⟨n8, hn8⟩ : ∃ n', n' = n7 + 2 := ⟨_, rfl⟩
                rw [← hn8] at hown ⊢
                have hbd8 : n8 ≤ n7 + 2 := by omega
                have O8 : Hid (w8.ownsRow w2.heap.size 5 1 (.slice (some ⟨g8, 0, none⟩) n8 cap8) n8 (bcells (((headTo 123 (itsOf ns ps) k ++ [34]) ++ x.data.toList) ++ [34, 58]))) := by
                  show World.ownsRow _ _ _ _ _ _ _
                  exact own_cast hown (by simp [bcells])
                have Q8 : Hid (Below w2.heap.size w2 w8) := (Q7.out.alloc (by omega) _).grown hgrow (by simp <;> omega) (fun r hr => (O7.out.lt r hr).1)
                have z8 : w2.heap.size ≤ w8.heap.size := Q8.out.size
                have fp8 : w8.cell? ⟨bp, op + k, none⟩ = some (.string y) := by
                  have h := FP.out
                  rw [← h]
                  exact Q8.out.cell (block_lt_of_cell h)
                clear hown hgrow hn8 O7 Q7 hlt8
                go_wp2_with (at_builtin; refine Lib.wpList_append_own_string _ rfl (.tmp 173) (.tmp 177) 32 9 rfl w2.heap.size 5 i0 Trym.underlying32 Trym.underlying9 hi hz0 hz1 hz2 _ n8 _ rfl O8.out y rfl (by unfold maxLen; omega) (by omega) (by omega) ?_)
                intro v9 w9 hown hgrow x1
                clear x1
                obtain ⟨n9, hn9⟩ : ∃ n', n' = n8 + y.size := ⟨_, rfl⟩
                rw [← hn9] at hown
                have hbd9 : n9 ≤ n8 + y.size := by omega
                have O9 : Hid (w9.ownsRow w2.heap.size 5 1 v9 n9 (bcells ((((headTo 123 (itsOf ns ps) k ++ [34]) ++ x.data.toList) ++ [34, 58]) ++ y.data.toList))) := by
                  show World.ownsRow _ _ _ _ _ _ _
                  exact own_cast hown (by simp [bcells, Lib.strCells])
                have Q9 : Hid (Below w2.heap.size w2 w9) := Q8.out.grown hgrow (by omega) (fun r hr => (O8.out.lt r hr).1)
                have z9 : w2.heap.size ≤ w9.heap.size := Q9.out.size
                clear hown hgrow hn9 O8 Q8
                have ON : Hid (w9.ownsRow w2.heap.size 5 1 v9 n9 (bcells (headTo 123 (itsOf ns ps) (k + 1)))) := by
                  have e : headTo 123 (itsOf ns ps) (k + 1) = ((((headTo 123 (itsOf ns ps) k ++ [34]) ++ x.data.toList) ++ [34, 58]) ++ y.data.toList) := by rw [HNX.out, if_pos HKZ.out]; simp [item]
                  show World.ownsRow _ _ _ _ _ _ _
                  rw [e]; exact O9.out
                clear O9 HNX HKZ
                go_wp2
                go_roundw
                case rel => exact ⟨k + 1, n9, by omega, by go_num, ON, Q9⟩
                case measure => simp [intOf]; omega
              · have HKZ : Hid (¬ k = 0) := hkz
                clear hkz
                have k0 : (0 : Int) < (k : Int) := by have := HKZ.out; omega
                go_wp2_with (at_builtin; refine wpList_append_lies _ rfl (.tmp 155) (.tmp 156) 32 rfl w2.heap.size 5 i0 (.int .u8 0) 1 1 Trym.underlying32 hi hz0 hz1 hz2 rfl (by decide) _ n _ rfl (OR.out.alloc _) ⟨wr.heap.size, 0, none⟩ 1 1 (bcells [44]) rfl rfl ?_ (bcells_one _) (by decide) (by unfold maxLen; omega) (by omega) (by simp <;> omega) _ rfl ?_)
                · first | exact World.news_of_block (heap_alloc_new wr (.cells #[.int .u8 44] 5)) | (intro j u h; exact h)
                intro g5 cap5 w5 hown hgrow x1 hlt5
                clear x1
                obtain ⟨n5, hn5⟩ : ∃ n', n' = n + 1 := ⟨_, rfl⟩
                rw [← hn5] at hown ⊢
                have hbd5 : n5 ≤ n + 1 := by omega
                have O5 : Hid (w5.ownsRow w2.heap.size 5 1 (.slice (some ⟨g5, 0, none⟩) n5 cap5) n5 (bcells (headTo 123 (itsOf ns ps) k ++ [44]))) := by
                  show World.ownsRow _ _ _ _ _ _ _
                  exact own_cast hown (by simp [bcells])
                have Q5 : Hid (Below w2.heap.size w2 w5) := (QR.out.alloc (by omega) _).grown hgrow (by simp <;> omega) (fun r hr => (OR.out.lt r hr).1)
                have z5 : w2.heap.size ≤ w5.heap.size := Q5.out.size
                clear hown hgrow hn5 OR QR hlt5
                go_wp2_with (at_builtin; refine wpList_append_lies _ rfl (.tmp 161) (.tmp 162) 32 rfl w2.heap.size 5 i0 (.int .u8 0) 1 1 Trym.underlying32 hi hz0 hz1 hz2 rfl (by decide) _ n5 _ rfl (O5.out.alloc _) ⟨w5.heap.size, 0, none⟩ 1 1 (bcells [34]) rfl rfl ?_ (bcells_one _) (by decide) (by unfold maxLen; omega) (by omega) (by simp <;> omega) _ rfl ?_)
                · first | exact World.news_of_block (heap_alloc_new w5 (.cells #[.int .u8 34] 5)) | (intro j u h; exact h)
                intro g6 cap6 w6 hown hgrow x1 hlt6
                clear x1
                obtain ⟨n6, hn6⟩ : ∃ n', n' = n5 + 1 := ⟨_, rfl⟩
                rw [← hn6] at hown ⊢
                have hbd6 : n6 ≤ n5 + 1 := by omega
                have O6 : Hid (w6.ownsRow w2.heap.size 5 1 (.slice (some ⟨g6, 0, none⟩) n6 cap6) n6 (bcells ((headTo 123 (itsOf ns ps) k ++ [44]) ++ [34]))) := by
                  show World.ownsRow _ _ _ _ _ _ _
                  exact own_cast hown (by simp [bcells])
                have Q6 : Hid (Below w2.heap.size w2 w6) := (Q5.out.alloc (by omega) _).grown hgrow (by simp <;> omega) (fun r hr => (O5.out.lt r hr).1)
                have z6 : w2.heap.size ≤ w6.heap.size := Q6.out.size
                have fn6 : w6.cell? ⟨bn, on + k, none⟩ = some (.string x) := by
                  have h := FN.out
                  rw [← h]
                  exact Q6.out.cell (block_lt_of_cell h)
                clear hown hgrow hn6 O5 Q5 hlt6
                go_wp2_with (at_builtin; refine Lib.wpList_append_own_string _ rfl (.tmp 164) (.tmp 168) 32 9 rfl w2.heap.size 5 i0 Trym.underlying32 Trym.underlying9 hi hz0 hz1 hz2 _ n6 _ rfl O6.out x rfl (by unfold maxLen; omega) (by omega) (by omega) ?_)
                intro v7 w7 hown hgrow x1
                clear x1
                obtain ⟨n7, hn7⟩ : ∃ n', n' = n6 + x.size := ⟨_, rfl⟩
                rw [← hn7] at hown
                have hbd7 : n7 ≤ n6 + x.size := by omega
                have O7 : Hid (w7.ownsRow w2.heap.size 5 1 v7 n7 (bcells (((headTo 123 (itsOf ns ps) k ++ [44]) ++ [34]) ++ x.data.toList))) := by
                  show World.ownsRow _ _ _ _ _ _ _
                  exact own_cast hown (by simp [bcells, Lib.strCells])
                have Q7 : Hid (Below w2.heap.size w2 w7) := Q6.out.grown hgrow (by omega) (fun r hr => (O6.out.lt r hr).1)
                have z7 : w2.heap.size ≤ w7.heap.size := Q7.out.size
                clear hown hgrow hn7 O6 Q6
                go_wp2_with (at_builtin; refine wpList_append_lies _ rfl (.tmp 170) (.tmp 171) 32 rfl w2.heap.size 5 i0 (.int .u8 0) 1 1 Trym.underlying32 hi hz0 hz1 hz2 rfl (by decide) _ n7 _ rfl (O7.out.alloc _) ⟨w7.heap.size, 0, none⟩ 2 2 (bcells [34, 58]) rfl rfl ?_ (bcells_one _) (by decide) (by unfold maxLen; omega) (by omega) (by simp <;> omega) _ rfl ?_)
                · first | exact World.news_of_block (heap_alloc_new w7 (.cells #[.int .u8 34, .int .u8 58] 5)) | (intro j u h; exact h)
                intro g8 cap8 w8 hown hgrow x1 hlt8
                clear x1
                obtain ⟨n8, hn8⟩ : ∃ n', n' = n7 + 2 := ⟨_, rfl⟩
                rw [← hn8] at hown ⊢
                have hbd8 : n8 ≤ n7 + 2 := by omega
                have O8 : Hid (w8.ownsRow w2.heap.size 5 1 (.slice (some ⟨g8, 0, none⟩) n8 cap8) n8 (bcells ((((headTo 123 (itsOf ns ps) k ++ [44]) ++ [34]) ++ x.data.toList) ++ [34, 58]))) := by
                  show World.ownsRow _ _ _ _ _ _ _
                  exact own_cast hown (by simp [bcells])
                have Q8 : Hid (Below w2.heap.size w2 w8) := (Q7.out.alloc (by omega) _).grown hgrow (by simp <;> omega) (fun r hr => (O7.out.lt r hr).1)
                have z8 : w2.heap.size ≤ w8.heap.size := Q8.out.size
                have fp8 : w8.cell? ⟨bp, op + k, none⟩ = some (.string y) := by
                  have h := FP.out
                  rw [← h]
                  exact Q8.out.cell (block_lt_of_cell h)
                clear hown hgrow hn8 O7 Q7 hlt8
                go_wp2_with (at_builtin; refine Lib.wpList_append_own_string _ rfl (.tmp 173) (.tmp 177) 32 9 rfl w2.heap.size 5 i0 Trym.underlying32 Trym.underlying9 hi hz0 hz1 hz2 _ n8 _ rfl O8.out y rfl (by unfold maxLen; omega) (by omega) (by omega) ?_)
                intro v9 w9 hown hgrow x1
                clear x1
                obtain ⟨n9, hn9⟩ : ∃ n', n' = n8 + y.size := ⟨_, rfl⟩
                rw [← hn9] at hown
                have hbd9 : n9 ≤ n8 + y.size := by omega
                have O9 : Hid (w9.ownsRow w2.heap.size 5 1 v9 n9 (bcells (((((headTo 123 (itsOf ns ps) k ++ [44]) ++ [34]) ++ x.data.toList) ++ [34, 58]) ++ y.data.toList))) := by
                  show World.ownsRow _ _ _ _ _ _ _
                  exact own_cast hown (by simp [bcells, Lib.strCells])
                have Q9 : Hid (Below w2.heap.size w2 w9) := Q8.out.grown hgrow (by omega) (fun r hr => (O8.out.lt r hr).1)
                have z9 : w2.heap.size ≤ w9.heap.size := Q9.out.size
                clear hown hgrow hn9 O8 Q8
                have ON : Hid (w9.ownsRow w2.heap.size 5 1 v9 n9 (bcells (headTo 123 (itsOf ns ps) (k + 1)))) := by
                  have e : headTo 123 (itsOf ns ps) (k + 1) = (((((headTo 123 (itsOf ns ps) k ++ [44]) ++ [34]) ++ x.data.toList) ++ [34, 58]) ++ y.data.toList) := by rw [HNX.out, if_neg HKZ.out]; simp [item]
                  show World.ownsRow _ _ _ _ _ _ _
                  rw [e]; exact O9.out
                clear O9 HNX HKZ
                go_wp2
                go_roundw
                case rel => exact ⟨k + 1, n9, by omega, by go_num, ON, Q9⟩
                case measure => simp [intOf]; omega
            have ek : k = ps.length := by have := LN.out; omega
            have OE := own_at (headTo 123 (itsOf ns ps) ps.length) OR (by rw [ek])
            clear ek
            have hpne : ps ≠ [] := by
              intro e
              have := LN.out
              rw [e] at this
              simp at this
              omega
            obtain ⟨R, m1, m2, m3⟩ := joined_path ns ps 123 125 rfl rfl (.inr (LM.out.trans LN.out.symm)) hpne HN1.out HP1.out t
            have hbig := headAll_le 123 ns ps (.inr (LM.out.trans LN.out.symm)) hpne
            have HBG : Hid ((headTo 123 (itsOf ns ps) ps.length).length + 1 ≤ sumSz ns + sumSz ps) := hbig
            obtain ⟨hd, hhd⟩ : ∃ hd : ByteArray, hd = ⟨(headTo 123 (itsOf ns ps) ps.length ++ [125]).toArray⟩ := ⟨_, rfl⟩
            have hsz : hd.size = (headTo 123 (itsOf ns ps) ps.length ++ [125]).length := by rw [hhd]; rfl
            rw [← hhd, ← hsz] at m1
            rw [← hhd] at m3
            have M1 : Hid (mPath (hd ++ t).data.toList = some (R, hd.size)) := m1
            have M2 : Hid (R.length = l1) := m2.trans LN.out
            have M3 : Hid (elems (hd ++ t) R = ps.map Value.string) := m3
            have MS : Hid ((hd ++ t).size ≤ 1048576) := by
              show _ ≤ _
              have h1 := HV.out
              rw [ByteArray.size_append, hsz, List.length_append]
              simp only [List.length_cons, List.length_nil]
              omega
            have HH : Hid (hd = ⟨(headTo 123 (itsOf ns ps) ps.length ++ [125]).toArray⟩) := hhd
            have HZ : Hid (hd.size = (headTo 123 (itsOf ns ps) ps.length ++ [125]).length) := hsz
            clear m1 m2 m3 hbig hhd hsz hpne OR
            go_wp2_with (at_builtin; refine wpList_append_lies _ rfl (.tmp 185) (.tmp 186) 32 rfl w2.heap.size 5 i0 (.int .u8 0) 1 1 Trym.underlying32 hi hz0 hz1 hz2 rfl (by decide) _ n _ rfl (OE.out.alloc _) ⟨wr.heap.size, 0, none⟩ 1 1 (bcells [125]) rfl rfl ?_ (bcells_one _) (by decide) (by unfold maxLen; omega) (by omega) (by simp <;> omega) _ rfl ?_)
            · first | exact World.news_of_block (heap_alloc_new wr (.cells #[.int .u8 125] 5)) | (intro j u h; exact h)
            intro g10 cap10 w10 hown hgrow x1 hlt10
            clear x1
            obtain ⟨n10, hn10⟩ : ∃ n', n' = n + 1 := ⟨_, rfl⟩
            rw [← hn10] at hown ⊢
            have hbd10 : n10 ≤ n + 1 := by omega
            have O10 : Hid (w10.ownsRow w2.heap.size 5 1 (.slice (some ⟨g10, 0, none⟩) n10 cap10) n10 (bcells (headTo 123 (itsOf ns ps) ps.length ++ [125]))) := by
              show World.ownsRow _ _ _ _ _ _ _
              exact own_cast hown (by simp [bcells])
            have Q10 : Hid (Below w2.heap.size w2 w10) := (QR.out.alloc (by omega) _).grown hgrow (by simp <;> omega) (fun r hr => (OE.out.lt r hr).1)
            have z10 : w2.heap.size ≤ w10.heap.size := Q10.out.size
            clear hown hgrow hn10 OE QR
            have hn10 : n10 = hd.size := by
              have h1 := O10.out.1
              rw [bcells_length, ← HZ.out] at h1
              omega
            have hcv : (convert 32 9 (.slice (some ⟨g10, 0, none⟩) n10 cap10)).run Trym.prog w10 = .ok (.string hd) w10 := by
              rw [hn10, HZ.out, HH.out]
              refine run_convert_bytes_back w10 32 9 5 ⟨g10, 0, none⟩ cap10 _ Trym.underlying32 Trym.underlying5 Trym.underlying9 ?_
              intro j hj
              refine O10.out.cells (g := g10) rfl j _ ?_
              rw [bcells, List.getElem?_map, List.getElem?_eq_getElem hj]
              rfl
            have HC10 : Hid (Below w2.heap.size w2 w10) := Q10.out
            clear hn10 O10 Q10
            have hds : hd.size + t.size ≤ 1048576 := by have := MS.out; rw [ByteArray.size_append] at this; exact this
            go_wp2_with fail
            refine (zzMultipath_some (hd ++ t) w10 MS.out R hd.size M1.out).mono ?_
            rintro e w11 ⟨gg, capg, rfl, hgl, og, bg⟩
            rw [M2.out]
            have QB : Hid (Below w2.heap.size w2 w11) := HC10.out.trans (bg.mono z10)
            have CG : Hid (∀ j, j < l1 → w11.cell? ⟨gg, j, none⟩ = some (.string (ps.getD j ByteArray.empty))) := fun j hj => by
              have h := og.cellAt j (by rw [M2.out]; omega)
              rw [h, M3.out, List.getElem?_map, List.getElem?_eq_getElem (by have := LN.out; omega)]
              simp
              rw [List.getElem?_eq_getElem (by have := LN.out; omega)]
              rfl
            have CQ : Hid (∀ j, j < l1 → w11.cell? ⟨bp, op + j, none⟩ = some (.string (ps.getD j ByteArray.empty))) := fun j hj => by
              have h := CP.out j hj
              rw [← h]
              exact QB.out.cell (block_lt_of_cell h)
            have HBF : Hid (Below w.heap.size w w11) := HB2.out.trans (QB.out.mono z2)
            clear og bg hgl hcv HC10 hlt10
            go_wp2
            go_loopw [21] (fun i wr => ∃ k : Nat, k ≤ l1 ∧ i = .int .i64 k ∧ ∃ m, wr = w11.drewN m) (fun i _ => l1 - (intOf i).toNat)
            case atStart => exact ⟨0, by omega, rfl, 0, rfl⟩
            case round =>
              obtain ⟨k', hk', rfl, m, rfl⟩ := hrel
              by_cases hkt : k' < l1
              · have f1 := CG.out k' hkt
                have f2 := CQ.out k' hkt
                obtain ⟨y, hy⟩ : ∃ y, y = ps.getD k' ByteArray.empty := ⟨_, rfl⟩
                rw [← hy] at f1 f2
                clear hy
                have i1 : (k' : Int) < (l1 : Int) := by omega
                have i2 : (0 : Int) ≤ (k' : Int) := by omega
                go_wp2
                go_quiet (fail)
                go_wp2
                go_roundw
                case rel => exact ⟨k' + 1, by omega, by go_num, _, rfl⟩
                case measure => simp [intOf]; omega
              · go_wp2
                go_ret
                exact ⟨rfl, below_drewN HBF.out _⟩

theorem splits_walk (a0 a1 : Option Addr) (l0 c0 l1 c1 : Nat) (ns ps : List ByteArray) (t : ByteArray) (w : World) (h0 : IsStrs w a0 l0 c0 ns) (h1 : IsStrs w a1 l1 c1 ps) (ht : t.size ≤ maxLen) :
    Calls Trym.prog 6 #[.slice a0 l0 c0, .slice a1 l1 c1, .string t] w fun e w' => e = .returned (.bool true) ∧ Below w.heap.size w w' := by
  by_cases hb : 4096 < l0 ∨ 4096 < l1 ∨ 65536 < t.size
  · exact splits_big a0 a1 l0 c0 l1 c1 ns ps t w h0 h1 ht hb
  · by_cases hc : l1 = 0 ∨ (l0 ≠ 0 ∧ l0 ≠ l1)
    · exact splits_C a0 a1 l0 c0 l1 c1 ns ps t w h0 h1 (by omega) (by omega) hc (by omega)
    · by_cases hz : l0 = 0
      · subst hz
        have e : ns = [] := List.eq_nil_of_length_eq_zero h0.1
        subst e
        exact splits_A a0 a1 c0 l1 c1 ps t w h0 h1 (by omega) (by omega) (by omega)
      · have e : l0 = l1 := by omega
        subst e
        exact splits_B a0 a1 c0 l0 c1 ns ps t w h0 h1 (by omega) (by omega) (by omega)

end Go.Proofs.Qxb6600920aMods
