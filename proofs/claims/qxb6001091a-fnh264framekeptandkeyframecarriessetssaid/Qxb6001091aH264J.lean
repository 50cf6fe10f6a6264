/- The law on H264: the walk. -/
import Derived.Test.Qxb6001091aH264I
import Derived.Deep.QuietTactic
import Derived.BigQuiet
namespace Go.Proofs.Qxb6001091a.H264
open Go.RowKit
open Go.Proofs.Qxb6001091a.Bits (Bytes Touch IsBool num_eq info5)

theorem eq28q {w : World} {v : Value} {t : Nat} (h : Nal w v t) (nq x : Nat) : Calls Try.prog 28 #[v, v] (w.drewN (nq + x)) fun e w'' => e = .returned (.bool true) ∧ ∃ n, w'' = w.drewN (nq + n) := by
  refine (eq28 (h.drewN (nq + x))).mono ?_
  rintro e w' ⟨rfl, m, rfl⟩
  exact ⟨rfl, x + m, by rw [World.drewN_drewN, Nat.add_assoc]⟩

set_option maxHeartbeats 8000000 in
set_option maxRecDepth 100000 in
theorem law6 (a1 a2 a3 : Option Addr) (n1 n2 n3 c1 c2 c3 : Nat) (A1 A2 A3 : Nat → Option Addr) (L1 L2 L3 C1 C2 C3 : Nat → Nat) (B1 B2 B3 : Nat → Nat → Nat) (w : World) (m1 : n1 ≤ maxLen) (m2 : n2 ≤ maxLen) (m3 : n3 ≤ maxLen)
    (D1 : ∀ i j, B1 i j < 256) (D2 : ∀ i j, B2 i j < 256) (D3 : ∀ i j, B3 i j < 256) (h1 : Uns w a1 n1 A1 L1 C1 B1) (h2 : Uns w a2 n2 A2 L2 C2 B2) (h3 : Uns w a3 n3 A3 L3 C3 B3) :
    Calls Try.prog 6 #[.slice a1 n1 c1, .slice a2 n2 c2, .slice a3 n3 c3] w fun e w' => e = .returned (.bool true) ∧ Below w.heap.size w w' := by
  have HU : Hid (Uns w a1 n1 A1 L1 C1 B1 ∧ Uns w a2 n2 A2 L2 C2 B2 ∧ Uns w a3 n3 A3 L3 C3 B3) := ⟨h1, h2, h3⟩
  have HD : Hid ((∀ i j, B1 i j < 256) ∧ (∀ i j, B2 i j < 256) ∧ (∀ i j, B3 i j < 256)) := ⟨D1, D2, D3⟩
  have HM : Hid (n1 ≤ maxLen ∧ n2 ≤ maxLen ∧ n3 ≤ maxLen) := ⟨m1, m2, m3⟩
  unfold maxLen at m1 m2 m3
  clear D1 D2 D3 h1 h2 h3
  go_enter Try.func6, Try.ntmps6
  go_wp2_with fail
  refine (bytes19 a1 a2 a3 n1 n2 n3 c1 c2 c3 A1 A2 A3 L1 L2 L3 C1 C2 C3 w HM.out.1 HM.out.2.1 HM.out.2.2 HU.out.1.row HU.out.2.1.row HU.out.2.2.row).mono ?_
  rintro e w' ⟨⟨b, rfl, hS⟩, rfl⟩
  cases b
  · clear hS
    go_wp2
    go_ret
    exact ⟨rfl, Below.refl _ _⟩
  have HS : Hid (Small n1 L1 ∧ Small n2 L2 ∧ Small n3 L3) := hS rfl
  clear hS
  by_cases hb1 : 65536 < n1
  · go_wp2
    go_ret
    exact ⟨rfl, Below.refl _ _⟩
  by_cases hb2 : 65536 < n2
  · go_wp2
    go_ret
    exact ⟨rfl, Below.refl _ _⟩
  by_cases hb3 : 65536 < n3
  · go_wp2
    go_ret
    exact ⟨rfl, Below.refl _ _⟩
  go_wp2_with fail
  refine (size20 a1 n1 c1 A1 L1 C1 w HS.out.1.1 HS.out.1.2 HU.out.1.row).mono ?_
  rintro e w' ⟨⟨z1, hz1, rfl⟩, rfl⟩
  go_wp2_with fail
  refine (size20 a2 n2 c2 A2 L2 C2 w HS.out.2.1.1 HS.out.2.1.2 HU.out.2.1.row).mono ?_
  rintro e w' ⟨⟨z2, hz2, rfl⟩, rfl⟩
  go_wp2_with fail
  refine (size20 a3 n3 c3 A3 L3 C3 w HS.out.2.2.1 HS.out.2.2.2 HU.out.2.2.row).mono ?_
  rintro e w' ⟨⟨z3, hz3, rfl⟩, rfl⟩
  by_cases hzz : 1048576 < z1 + z2 + z3
  · go_wp2
    go_ret
    exact ⟨rfl, Below.refl _ _⟩
  go_wp2_with fail
  refine (non21 a3 n3 c3 A3 L3 C3 w HS.out.2.2.1 HU.out.2.2.row).mono ?_
  rintro e w' ⟨⟨b, rfl, hnon⟩, rfl⟩
  cases b
  · clear hnon
    go_wp2
    go_ret
    exact ⟨rfl, Below.refl _ _⟩
  have HNon : Hid (∀ i, i < n3 → L3 i ≠ 0) := hnon rfl
  clear hnon
  go_wp2_with fail
  refine (type22 a1 n1 c1 7 A1 L1 C1 B1 w HS.out.1.1 HD.out.1 HU.out.1).mono ?_
  rintro e w' ⟨⟨b, rfl, hty⟩, rfl⟩
  cases b
  · clear hty
    go_wp2
    go_ret
    exact ⟨rfl, Below.refl _ _⟩
  have HT7 : Hid (∀ i, i < n1 → L1 i ≠ 0 ∧ B1 i 0 % 32 = 7) := hty rfl
  clear hty
  go_wp2_with fail
  refine (type22 a2 n2 c2 8 A2 L2 C2 B2 w HS.out.2.1.1 HD.out.2.1 HU.out.2.1).mono ?_
  rintro e w' ⟨⟨b, rfl, hty⟩, rfl⟩
  cases b
  · clear hty
    go_wp2
    go_ret
    exact ⟨rfl, Below.refl _ _⟩
  have HT8 : Hid (∀ i, i < n2 → L2 i ≠ 0 ∧ B2 i 0 % 32 = 8) := hty rfl
  clear hty
  have hn1 : n1 ≤ 65536 := by omega
  have hn2 : n2 ≤ 65536 := by omega
  have hn3 : n3 ≤ 65536 := by omega
  go_wp2_with fail
  refine (clone23' a1 n1 c1 A1 L1 C1 B1 w HS.out.1 HU.out.1).mono ?_
  rintro e w1 ⟨b1, d1, A1', C1', rfl, ⟨rfl, hb1n⟩, k1, bel1⟩
  have HK1 : Hid (Uns w1 b1 d1 A1' L1 C1' B1 ∧ (b1 = none → d1 = 0) ∧ Below w.heap.size w w1) := ⟨k1, hb1n, bel1⟩
  clear k1 hb1n bel1
  go_wp2_with fail
  refine (clone23' a2 n2 c2 A2 L2 C2 B2 w1 HS.out.2.1 (HU.out.2.1.mono HK1.out.2.2)).mono ?_
  rintro e w2 ⟨b2, d2, A2', C2', rfl, ⟨rfl, hb2n⟩, k2, bel2⟩
  have HK2 : Hid (Uns w2 b2 d2 A2' L2 C2' B2 ∧ (b2 = none → d2 = 0) ∧ Below w1.heap.size w1 w2) := ⟨k2, hb2n, bel2⟩
  clear k2 hb2n bel2
  go_wp2_with fail
  refine (clone23' a3 n3 c3 A3 L3 C3 B3 w2 HS.out.2.2 ((HU.out.2.2.mono HK1.out.2.2).mono HK2.out.2.2)).mono ?_
  rintro e w3 ⟨b3, d3, A3', C3', rfl, ⟨rfl, hb3n⟩, k3, bel3⟩
  have HK3 : Hid (Uns w3 b3 d3 A3' L3 C3' B3 ∧ Below w2.heap.size w2 w3) := ⟨k3, bel3⟩
  clear k3 hb3n bel3
  have bel13 : Below w1.heap.size w1 w3 := HK2.out.2.2.trans (HK3.out.2.mono HK2.out.2.2.size)
  have HB3 : Hid (Below w.heap.size w w3) := HK1.out.2.2.trans (bel13.mono HK1.out.2.2.size)
  have HN : Hid (∀ i, i < d3 → Nal w3 (.slice (A3' i) (L3 i) (C3' i)) (B3 i 0 % 32)) := fun i hi => uns_nal HK3.out.1 HS.out.2.2 HD.out.2.2 hi (HNon.out i hi) rfl
  have HS7 : Hid (Sets w3 (.slice b1 d1 d1) 7 d1) := uns_sets (HK1.out.1.mono bel13) HS.out.1 HD.out.1 hn1 HK1.out.2.1 HT7.out
  have HS8 : Hid (Sets w3 (.slice b2 d2 d2) 8 d2) := uns_sets (HK2.out.1.mono HK3.out.2) HS.out.2.1 HD.out.2.1 hn2 HK2.out.2.1 HT8.out
  have HV : Hid (VRow w3 b3 d3 (fun i => .slice (A3' i) (L3 i) (C3' i))) := HK3.out.1.row
  clear bel13 HK1 HK2 HK3 HT7 HT8 HNon HS HD HM HU hz1 hz2 hz3 hzz hb1 hb2 hb3 m1 m2 m3
  obtain ⟨V, HVE⟩ : ∃ V : Nat → Value, Hid ((fun i => Value.slice (A3' i) (L3 i) (C3' i)) = V) := ⟨_, rfl⟩
  obtain ⟨T, HTE⟩ : ∃ T : Nat → Nat, Hid ((fun i => B3 i 0 % 32) = T) := ⟨_, rfl⟩
  have HN' : Hid (∀ i, i < d3 → Nal w3 (V i) (T i)) := by
    rw [← HVE.out, ← HTE.out]; exact HN.out
  have HV' : Hid (VRow w3 b3 d3 V) := by rw [← HVE.out]; exact HV.out
  clear HN HV HVE HTE
  go_wp2_with fail
  refine (kinds24 b3 d3 d3 V T w3 (by omega) HV'.out HN'.out).mono ?_
  rintro e w' ⟨rfl, rfl⟩
  go_wp2_with fail
  refine (new25 b1 b2 d1 d2 d1 d2 w3).mono ?_
  rintro e w4 ⟨rfl, ⟨X, hX, x1, x2⟩, bel4⟩
  have HX : Hid (w4.rowIs w3.heap.size 56 3 X ∧ X 1 = .slice b1 d1 d1 ∧ X 2 = .slice b2 d2 d2 ∧ Below w3.heap.size w3 w4) := ⟨hX, x1, x2, bel4⟩
  clear hX x1 x2 bel4
  go_wp2_with fail
  refine (par26 w3 w4 X b3 d3 d3 V T hn3 rfl HX.out.2.2.2 HX.out.1 HV'.out HN'.out d1 d2 (by rw [HX.out.2.1]; exact HS7.out) (by rw [HX.out.2.2.1]; exact HS8.out)).mono ?_
  rintro e wz ⟨oa, on, oc, rfl, O, z, sN, pN, hO⟩
  obtain ⟨d, HDD⟩ : ∃ d, Hid (sN + pN = d) := ⟨_, rfl⟩
  have hon : on = d3 + d := by rw [hO.num, HDD.out]
  have hd2 : d ≤ 131072 := by have := hO.sle; have := hO.ple; have := HDD.out; omega
  have hsub : (on : Int) - (d3 : Int) = (d : Int) := by omega
  have HO : Hid (Outs w3 wz d3 V T d1 d2 oa on O z sN pN) := hO
  have HW : Hid (d ≠ 0 → anyT T 5 d3 = true ∧ (anyT T 7 d3 && anyT T 8 d3) = false) := by have := hO.why; rw [HDD.out] at this; exact this
  have HON : Hid (on = d3 + d) := hon
  have hon2 : on ≤ 1048576 := by omega
  have HBZ : Hid (Below w.heap.size w wz) := HB3.out.trans (hO.bel.mono HB3.out.size)
  have HVZ : Hid (VRow wz b3 d3 V) := HV'.out.mono hO.bel
  have HNZ : Hid (∀ i, i < d3 → Nal wz (V i) (T i)) := fun i hi => (HN'.out i hi).mono hO.bel
  have HOZ : Hid (VRow wz oa on O) := hO.row
  clear hO hon HX HS7 HS8
  go_upto_region 18 with fail
  go_cut [7, 8, 9, 98] from 68 to 98 (fun r s t v w' => r = .bool (anyT T 5 d3) ∧ s = .bool (anyT T 7 d3) ∧ t = .bool (anyT T 8 d3) ∧ v = .bool false ∧ wz = w')
  case first =>
    by_cases hd0 : d = 0
    · subst hd0
      go_wp2_with fail
      go_meet
      case rel => exact ⟨rfl, rfl, rfl, rfl, rfl⟩
    · obtain ⟨w5, w78⟩ := HW.out hd0
      have hdp : 0 < d := by omega
      cases h7 : anyT T 7 d3
      · clear w78
        rw [w5]
        go_wp2_with fail
        go_meet
        case rel => exact ⟨by simp [w5], by simp [h7], rfl, rfl, rfl⟩
      · rw [h7] at w78
        have h8 : anyT T 8 d3 = false := by simpa using w78
        clear w78
        rw [w5, h8]
        go_wp2_with fail
        go_meet
        case rel => exact ⟨by simp [w5], by simp [h7], by simp [h8], rfl, rfl⟩
  case rest =>
    obtain ⟨rfl, rfl, rfl, rfl, rfl⟩ := hcut
    clear HW hsub
    go_upto_if 100 with fail
    go_cut [13] from 99 to 114 (fun v w' => (∃ z' : Nat, v = .int .i64 (z' : Nat) ∧ At wz d3 d sN V O z') ∧ wz = w')
    case first =>
      by_cases hd0 : d = 0
      · have HA : Hid (At wz d3 d sN V O 0) := at_0 HO.out HDD.out hd0
        have hd0' : decide ((0 : Int) < (d : Int)) = false := by simp; omega
        go_wp2_with fail
        go_meet
        case rel => exact ⟨⟨0, rfl, HA.out⟩, rfl⟩
      · have hdp : 0 < d := by omega
        have HA : Hid (At wz d3 d sN V O z) := at_z HO.out HDD.out
        have H9 : Hid ((∀ j, j < z → T j = 9) ∧ (z < d3 → T z ≠ 9)) := ⟨HO.out.nine, HO.out.stop⟩
        have hzd := HO.out.le
        have hdb : decide (0 < d) = true := by simp [hdp]
        have hdb' : decide ((0 : Int) < (d : Int)) = true := by simp [hdp]
        first | rw [hdb] | rw [hdb']
        clear hdb hdb'
        go_wp2_with fail
        go_loopw [13] (fun i wr => ∃ k : Nat, k ≤ z ∧ i = .int .i64 (k : Nat) ∧ wz = wr) (fun i _ => z - (intOf i).toNat)
        case atStart => exact ⟨0, by omega, rfl, rfl⟩
        case round =>
          obtain ⟨k, hk, rfl, rfl⟩ := hrel
          by_cases hlt : k < d3
          · have hnal := HNZ.out k hlt
            rcases HVZ.out with h | ⟨b, off, rfl, hb, hc⟩
            · omega
            have hcell := hc k hlt
            clear hc
            by_cases hkz : k < z
            · have e9 := H9.out.1 k hkz
              rw [e9] at hnal
              clear e9
              go_wp2_with fail
              refine (nalV hnal).mono ?_
              rintro e w' ⟨rfl, rfl⟩
              go_wp2_with fail
              go_roundw
              case rel => exact ⟨k + 1, by omega, by go_num, trivial⟩
              case measure => simp [intOf]; omega
            · obtain rfl : k = z := by omega
              have e9 : ((T k : Int) == 9) = false := by have := H9.out.2 hlt; simp; omega
              go_wp2_with fail
              refine (nalV hnal).mono ?_
              rintro e w' ⟨rfl, rfl⟩
              go_wp2_with fail
              go_meet
              case rel => exact ⟨⟨k, rfl, HA.out⟩, rfl⟩
          · obtain rfl : k = z := by omega
            go_wp2_with fail
            go_meet
            case rel => exact ⟨⟨k, rfl, HA.out⟩, rfl⟩
    case rest =>
      obtain ⟨⟨z', rfl, hA⟩, rfl⟩ := hcut
      have HA : Hid (At wz d3 d sN V O z') := hA
      have hz' := hA.le
      clear hA
      go_wp2_with fail
      go_loopw [14] (fun i wr => ∃ k : Nat, k ≤ z' ∧ i = .int .i64 (k : Nat) ∧ ∃ nq, wr = wz.drewN nq) (fun i _ => z' - (intOf i).toNat)
      case atStart => exact ⟨0, by omega, rfl, 0, rfl⟩
      case round =>
        obtain ⟨k, hk, rfl, nq, rfl⟩ := hrel
        by_cases hlt : k < z'
        · have hnal := HNZ.out k (by omega)
          have hoe := HA.out.fst k hlt
          rcases HVZ.out with h | ⟨b, off, rfl, hb, hc⟩
          · omega
          rcases HOZ.out with h | ⟨b', off', rfl, hb', hc'⟩
          · have := HON.out; omega
          have hcell := hc k (by omega)
          have hcell' := hc' k (by have := HON.out; omega)
          rw [hoe] at hcell'
          have hl1 : (k : Int) < (d3 : Int) := by omega
          have hl2 : (k : Int) < (on : Int) := by have := HON.out; omega
          have hl3 : (k : Int) < (z' : Int) := by omega
          clear hc hc' hoe
          generalize V k = v at hcell hcell' hnal
          go_wp2
          go_quiet (first | (go_at_call 28; exact eq28q hnal _ _))
          go_wp2
          go_roundw
          case rel => exact ⟨k + 1, by omega, by go_num, _, rfl⟩
          case measure => simp [intOf]; omega
        · obtain rfl : k = z' := by omega
          clear hlt hk
          go_wp2_with fail
          go_loopw [15] (fun i wr => ∃ j : Nat, k ≤ j ∧ j ≤ d3 ∧ i = .int .i64 (j : Nat) ∧ ∃ nq, wr = wz.drewN nq) (fun i _ => d3 - (intOf i).toNat)
          case atStart => exact ⟨k, by omega, hz', rfl, nq, rfl⟩
          case round =>
            obtain ⟨j, hj, hj3, rfl, nq2, rfl⟩ := hrel
            by_cases hlt : j < d3
            · have hnal := HNZ.out j hlt
              have hoe := HA.out.lst j hj hlt
              rcases HVZ.out with h | ⟨b, off, rfl, hb, hc⟩
              · omega
              rcases HOZ.out with h | ⟨b', off', rfl, hb', hc'⟩
              · have := HON.out; omega
              have hcell := hc j (by omega)
              have hcell' := hc' (j + d) (by have := HON.out; omega)
              rw [hoe] at hcell'
              have hl1 : (j : Int) < (d3 : Int) := by omega
              have hl2 : (j : Int) + (d : Int) < (on : Int) := by have := HON.out; omega
              clear hc hc' hoe
              generalize V j = v at hcell hcell' hnal
              go_wp2
              go_quiet (first | (go_at_call 28; exact eq28q hnal _ _))
              go_wp2
              go_roundw
              case rel => exact ⟨j + 1, by omega, by omega, by go_num, _, rfl⟩
              case measure => simp [intOf]; omega
            · obtain rfl : j = d3 := by omega
              clear hlt hj3
              go_wp2_with fail
              go_loop [16, 17] (fun s i => ∃ m : Nat, k ≤ m ∧ m ≤ k + d ∧ i = .int .i64 (m : Nat) ∧ s = .bool (decide (k + sN < m))) (fun _ i => k + d - (intOf i).toNat)
              case atStart => exact ⟨k, by omega, by omega, rfl, by simp⟩
              case round =>
                obtain ⟨m, hm1, hm2, rfl, rfl⟩ := hrel
                by_cases hlt : m < k + d
                · have hnal := HA.out.new (m - k) (by omega)
                  rw [show k + (m - k) = m by omega] at hnal
                  rcases HOZ.out with h | ⟨b', off', rfl, hb', hc'⟩
                  · have := HON.out; omega
                  have hcell' := hc' m (by have := HON.out; omega)
                  have hl2 : (m : Int) < (on : Int) := by have := HON.out; omega
                  have hl3 : (m : Int) < (k : Int) + (d : Int) := by omega
                  clear hc'
                  generalize O m = v at hcell' hnal
                  by_cases h7 : m - k < sN
                  · rw [if_pos h7] at hnal
                    have hsaw : decide (k + sN < m) = false := by simp; omega
                    have HSW : Hid (decide (k + sN < m + 1) = false) := by show decide (k + sN < m + 1) = false; simp; omega
                    rw [hsaw]
                    clear hsaw
                    obtain ⟨ua, ul, uc, D, rfl, u1, u2, u3, u4, u5⟩ := id hnal
                    have hul : ((ul : Int) == 0) = false := by simp; omega
                    clear u3 u4 u5
                    go_wp2_with fail
                    refine (nalV (hnal.drewN _)).mono ?_
                    rintro e w' ⟨rfl, rfl⟩
                    go_wp2_with fail
                    go_round
                    case rel => exact ⟨m + 1, by omega, by omega, by go_num, by rw [HSW.out]⟩
                    case measure => simp [intOf]; omega
                  · rw [if_neg h7] at hnal
                    have HSW : Hid (decide (k + sN < m + 1) = true) := by show decide (k + sN < m + 1) = true; simp; omega
                    obtain ⟨sw, HSV⟩ : ∃ sw, Hid (decide (k + sN < m) = sw) := ⟨_, rfl⟩
                    rw [HSV.out]
                    obtain ⟨ua, ul, uc, D, rfl, u1, u2, u3, u4, u5⟩ := id hnal
                    have hul : ((ul : Int) == 0) = false := by simp; omega
                    clear u3 u4 u5
                    go_wp2_with fail
                    refine (nalV (hnal.drewN _)).mono ?_
                    rintro e w' ⟨rfl, rfl⟩
                    go_wp2_with fail
                    go_round
                    case rel => exact ⟨m + 1, by omega, by omega, by go_num, by rw [HSW.out]⟩
                    case measure => simp [intOf]; omega
                · obtain ⟨mm, HMM⟩ : ∃ mm, Hid (decide (k + sN < m) = mm) := ⟨_, rfl⟩
                  rw [HMM.out]
                  have hmk : m = k + d := by omega
                  have hl3 : decide ((m : Int) < (k : Int) + (d : Int)) = false := by simp; omega
                  go_upto_region 45 with fail
                  clear hl3 hmk hlt hm1 hm2
                  go_cut [7, 8, 9, 191] from 175 to 191 (fun r s t v w' => r = .bool (anyT T 5 j) ∧ s = .bool (anyT T 7 j) ∧ t = .bool (anyT T 8 j) ∧ v = .bool ((anyT T 5 j && (anyT T 7 j || decide (0 < d1))) && (anyT T 8 j || decide (0 < d2))) ∧ wz.drewN nq2 = w')
                  case first =>
                    cases h5 : anyT T 5 j
                    · go_wp2_with fail
                      go_meet
                      case rel => exact ⟨by simp [h5], rfl, rfl, by simp [h5], rfl⟩
                    · cases h7 : anyT T 7 j
                      · by_cases hd1 : 0 < d1
                        · cases h8 : anyT T 8 j
                          · by_cases hd2 : 0 < d2
                            · go_wp2_with fail
                              go_meet
                              case rel => exact ⟨by simp [h5], by simp [h7], by simp [h8], by simp [h5, h7, hd1, h8, hd2], rfl⟩
                            · go_wp2_with fail
                              go_meet
                              case rel => exact ⟨by simp [h5], by simp [h7], by simp [h8], by simp [h5, h7, hd1, h8, hd2], rfl⟩
                          · go_wp2_with fail
                            go_meet
                            case rel => exact ⟨by simp [h5], by simp [h7], by simp [h8], by simp [h5, h7, hd1, h8], rfl⟩
                        · go_wp2_with fail
                          go_meet
                          case rel => exact ⟨by simp [h5], by simp [h7], rfl, by simp [h5, h7, hd1], rfl⟩
                      · cases h8 : anyT T 8 j
                        · by_cases hd2 : 0 < d2
                          · go_wp2_with fail
                            go_meet
                            case rel => exact ⟨by simp [h5], by simp [h7], by simp [h8], by simp [h5, h7, h8, hd2], rfl⟩
                          · go_wp2_with fail
                            go_meet
                            case rel => exact ⟨by simp [h5], by simp [h7], by simp [h8], by simp [h5, h7, h8, hd2], rfl⟩
                        · go_wp2_with fail
                          go_meet
                          case rel => exact ⟨by simp [h5], by simp [h7], by simp [h8], by simp [h5, h7, h8], rfl⟩
                  case rest =>
                    obtain ⟨rfl, rfl, rfl, rfl, rfl⟩ := hcut
                    cases hb : ((anyT T 5 j && (anyT T 7 j || decide (0 < d1))) && (anyT T 8 j || decide (0 < d2)))
                    · clear hb
                      go_wp2_with fail
                      go_ret
                      exact ⟨rfl, below_drewN HBZ.out nq2⟩
                    · have e5 : anyT T 5 j = true := by simp at hb; exact hb.1.1
                      have e7 : anyT T 7 j = true ∨ d1 ≠ 0 := by
                        simp at hb
                        rcases hb.1.2 with h | h
                        · exact .inl h
                        · exact .inr (by omega)
                      have e8 : anyT T 8 j = true ∨ d2 ≠ 0 := by
                        simp at hb
                        rcases hb.2 with h | h
                        · exact .inl h
                        · exact .inr (by omega)
                      have HR7 : Hid (anyT (ty T z sN pN) 7 on = true) := outs_seven HO.out e5 e7
                      have HR8 : Hid (anyT (ty T z sN pN) 8 on = true) := outs_eight HO.out e5 e8
                      have HNT : Hid (∀ i, i < on → Nal (wz.drewN nq2) (O i) (ty T z sN pN i)) := fun i hi => (outs_types HO.out HN'.out i hi).drewN nq2
                      clear hb e5 e7 e8
                      go_wp2_with fail
                      refine (kinds24 oa on oc O (ty T z sN pN) (wz.drewN nq2) (by omega) (HOZ.out.drewN nq2) HNT.out).mono ?_
                      rintro e w' ⟨rfl, rfl⟩
                      rw [HR7.out, HR8.out]
                      go_wp2_with fail
                      go_ret
                      exact ⟨rfl, below_drewN HBZ.out nq2⟩
end Go.Proofs.Qxb6001091a.H264
