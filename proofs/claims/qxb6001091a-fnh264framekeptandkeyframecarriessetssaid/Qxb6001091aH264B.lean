/- The law's guard, kinds, and eqBytes. -/
import Derived.Test.Qxb6001091aH264A
namespace Go.Proofs.Qxb6001091a.H264
open Go.RowKit
open Go.Proofs.Qxb6001091a.Bits (Bytes Touch IsBool num_eq clone12)

/-- all lengths are small -/
def Small (n : Nat) (L : Nat → Nat) : Prop := n ≤ 1048576 ∧ ∀ i, i < n → L i ≤ 1048576

set_option maxHeartbeats 2000000 in
/-- zzBytes_FnH264FrameKeptAndKeyframeCarriesSets -/
theorem bytes19 (a1 a2 a3 : Option Addr) (n1 n2 n3 c1 c2 c3 : Nat) (A1 A2 A3 : Nat → Option Addr) (L1 L2 L3 C1 C2 C3 : Nat → Nat) (w : World) (m1 : n1 ≤ maxLen) (m2 : n2 ≤ maxLen) (m3 : n3 ≤ maxLen)
    (h1 : VRow w a1 n1 (fun i => .slice (A1 i) (L1 i) (C1 i))) (h2 : VRow w a2 n2 (fun i => .slice (A2 i) (L2 i) (C2 i))) (h3 : VRow w a3 n3 (fun i => .slice (A3 i) (L3 i) (C3 i))) :
    Calls Try.prog 19 #[.slice a1 n1 c1, .slice a2 n2 c2, .slice a3 n3 c3] w fun e w' => Tells e (Small n1 L1 ∧ Small n2 L2 ∧ Small n3 L3) ∧ w = w' := by
  unfold maxLen at m1 m2 m3
  go_enter Try.func19, Try.ntmps19
  by_cases hbig1 : 1048576 < n1
  · go_wp2
    go_ret
    exact ⟨⟨false, rfl, fun h => by cases h⟩, rfl⟩
  go_wp2
  go_loop [7, 8] (fun t i => ∃ k z : Nat, k ≤ n1 ∧ i = .int .i64 (k : Nat) ∧ t = .int .i64 (z : Nat) ∧ z ≤ 1048576 ∧ (∀ j, j < k → L1 j ≤ 1048576)) (fun _ i => n1 - (intOf i).toNat)
  case atStart => exact ⟨0, n1, by omega, rfl, by go_num, by omega, fun j h => by omega⟩
  case round =>
    obtain ⟨k1, z1, hk1, rfl, rfl, hz1, hall1⟩ := hrel
    have HA1 : Hid (∀ j, j < k1 → L1 j ≤ 1048576) := hall1
    clear hall1
    by_cases hlt1 : k1 < n1
    · rcases h1 with h1 | ⟨b, off, rfl, hb, hc⟩
      · omega
      have hcell : w.cell? ⟨b, off + k1, none⟩ = some (.slice (A1 k1) (L1 k1) (C1 k1)) := hc k1 hlt1
      clear hc
      obtain ⟨l, HL⟩ : ∃ l, Hid (L1 k1 = l) := ⟨_, rfl⟩
      rw [HL.out] at hcell
      generalize A1 k1 = ak at hcell
      generalize C1 k1 = ck at hcell
      go_wp2
      · go_ret
        exact ⟨⟨false, rfl, fun h => by cases h⟩, rfl⟩
      · go_ret
        exact ⟨⟨false, rfl, fun h => by cases h⟩, rfl⟩
      · go_round
        case rel => exact ⟨k1 + 1, z1 + l, by omega, by go_num, by go_num, by omega, fun j hj => by by_cases e : j = k1; (rw [e, HL.out]; omega); exact HA1.out j (by omega)⟩
        case measure => simp [intOf]; omega
    · obtain rfl : k1 = n1 := by omega
      by_cases hbig2 : 1048576 < n2
      · go_wp2
        go_ret
        exact ⟨⟨false, rfl, fun h => by cases h⟩, rfl⟩
      by_cases hsum2 : 1048576 < z1 + n2
      · go_wp2
        go_ret
        exact ⟨⟨false, rfl, fun h => by cases h⟩, rfl⟩
      go_wp2
      go_loop [7, 9] (fun t i => ∃ k z : Nat, k ≤ n2 ∧ i = .int .i64 (k : Nat) ∧ t = .int .i64 (z : Nat) ∧ z ≤ 1048576 ∧ (∀ j, j < k → L2 j ≤ 1048576)) (fun _ i => n2 - (intOf i).toNat)
      case atStart => exact ⟨0, z1 + n2, by omega, rfl, by go_num, by omega, fun j h => by omega⟩
      case round =>
        obtain ⟨k2, z2, hk2, rfl, rfl, hz2, hall2⟩ := hrel
        have HA2 : Hid (∀ j, j < k2 → L2 j ≤ 1048576) := hall2
        clear hall2
        by_cases hlt2 : k2 < n2
        · rcases h2 with h2 | ⟨b, off, rfl, hb, hc⟩
          · omega
          have hcell : w.cell? ⟨b, off + k2, none⟩ = some (.slice (A2 k2) (L2 k2) (C2 k2)) := hc k2 hlt2
          clear hc
          obtain ⟨l, HL⟩ : ∃ l, Hid (L2 k2 = l) := ⟨_, rfl⟩
          rw [HL.out] at hcell
          generalize A2 k2 = ak at hcell
          generalize C2 k2 = ck at hcell
          go_wp2
          · go_ret
            exact ⟨⟨false, rfl, fun h => by cases h⟩, rfl⟩
          · go_ret
            exact ⟨⟨false, rfl, fun h => by cases h⟩, rfl⟩
          · go_round
            case rel => exact ⟨k2 + 1, z2 + l, by omega, by go_num, by go_num, by omega, fun j hj => by by_cases e : j = k2; (rw [e, HL.out]; omega); exact HA2.out j (by omega)⟩
            case measure => simp [intOf]; omega
        · obtain rfl : k2 = n2 := by omega
          by_cases hbig3 : 1048576 < n3
          · go_wp2
            go_ret
            exact ⟨⟨false, rfl, fun h => by cases h⟩, rfl⟩
          by_cases hsum3 : 1048576 < z2 + n3
          · go_wp2
            go_ret
            exact ⟨⟨false, rfl, fun h => by cases h⟩, rfl⟩
          go_wp2
          go_loop [7, 10] (fun t i => ∃ k z : Nat, k ≤ n3 ∧ i = .int .i64 (k : Nat) ∧ t = .int .i64 (z : Nat) ∧ z ≤ 1048576 ∧ (∀ j, j < k → L3 j ≤ 1048576)) (fun _ i => n3 - (intOf i).toNat)
          case atStart => exact ⟨0, z2 + n3, by omega, rfl, by go_num, by omega, fun j h => by omega⟩
          case round =>
            obtain ⟨k3, z3, hk3, rfl, rfl, hz3, hall3⟩ := hrel
            have HA3 : Hid (∀ j, j < k3 → L3 j ≤ 1048576) := hall3
            clear hall3
            by_cases hlt3 : k3 < n3
            · rcases h3 with h3 | ⟨b, off, rfl, hb, hc⟩
              · omega
              have hcell : w.cell? ⟨b, off + k3, none⟩ = some (.slice (A3 k3) (L3 k3) (C3 k3)) := hc k3 hlt3
              clear hc
              obtain ⟨l, HL⟩ : ∃ l, Hid (L3 k3 = l) := ⟨_, rfl⟩
              rw [HL.out] at hcell
              generalize A3 k3 = ak at hcell
              generalize C3 k3 = ck at hcell
              go_wp2
              · go_ret
                exact ⟨⟨false, rfl, fun h => by cases h⟩, rfl⟩
              · go_ret
                exact ⟨⟨false, rfl, fun h => by cases h⟩, rfl⟩
              · go_round
                case rel => exact ⟨k3 + 1, z3 + l, by omega, by go_num, by go_num, by omega, fun j hj => by by_cases e : j = k3; (rw [e, HL.out]; omega); exact HA3.out j (by omega)⟩
                case measure => simp [intOf]; omega
            · obtain rfl : k3 = n3 := by omega
              go_wp2
              go_ret
              exact ⟨⟨true, rfl, fun _ => ⟨⟨by omega, HA1.out⟩, ⟨by omega, HA2.out⟩, ⟨by omega, HA3.out⟩⟩⟩, rfl⟩

/-- a unit: not empty, of type t -/
def Nal (w : World) (v : Value) (t : Nat) : Prop :=
  ∃ a n c D, v = .slice a n c ∧ n ≠ 0 ∧ n ≤ 1048576 ∧ (∀ i, D i < 256) ∧ Bytes w a n D ∧ D 0 % 32 = t
theorem Nal.mono {w w' : World} {v : Value} {t : Nat} (h : Nal w v t) (hb : Below w.heap.size w w') : Nal w' v t := by
  obtain ⟨a, n, c, D, h1, h2, h3, h4, h5, h6⟩ := h
  exact ⟨a, n, c, D, h1, h2, h3, h4, h5.mono hb, h6⟩

theorem nalV {w : World} {v : Value} {t : Nat} (h : Nal w v t) : Calls Try.prog 27 #[v] w fun e w' => e = .returned (.int .i64 (t : Int)) ∧ w = w' := by
  obtain ⟨a, n, c, D, rfl, h2, h3, h4, h5, rfl⟩ := h
  exact nal27 a n c D w h2 (h4 0) h5

/-- is one of the first n of type k? -/
def anyT (T : Nat → Nat) (k : Nat) : Nat → Bool
  | 0 => false
  | n + 1 => anyT T k n || T n == k
theorem anyT_iff (T : Nat → Nat) (k : Nat) : ∀ n, anyT T k n = true ↔ ∃ i, i < n ∧ T i = k
  | 0 => by simp [anyT]
  | n + 1 => by
    simp only [anyT, Bool.or_eq_true, beq_iff_eq, anyT_iff T k n]
    constructor
    · rintro (⟨i, h1, h2⟩ | h)
      · exact ⟨i, by omega, h2⟩
      · exact ⟨n, by omega, h⟩
    · rintro ⟨i, h1, h2⟩
      by_cases e : i = n
      · subst e; exact .inr h2
      · exact .inl ⟨i, by omega, h2⟩

set_option maxHeartbeats 2000000 in
/-- frameKinds -/
theorem kinds24 (a : Option Addr) (n c : Nat) (V : Nat → Value) (T : Nat → Nat) (w : World) (hn : n ≤ 16777216) (h : VRow w a n V) (hN : ∀ i, i < n → Nal w (V i) (T i)) :
    Calls Try.prog 24 #[.slice a n c] w fun e w' => e = .returned (.tuple #[.bool (anyT T 5 n), .bool (anyT T 7 n), .bool (anyT T 8 n)]) ∧ w = w' := by
  have HN : Hid (∀ i, i < n → Nal w (V i) (T i)) := hN
  clear hN
  go_enter Try.func24, Try.ntmps24
  go_wp2
  go_loop [2, 3, 4, 5] (fun x y z i => ∃ k : Nat, k ≤ n ∧ i = .int .i64 (k : Nat) ∧ x = .bool (anyT T 5 k) ∧ y = .bool (anyT T 7 k) ∧ z = .bool (anyT T 8 k)) (fun _ _ _ i => n - (intOf i).toNat)
  case atStart => exact ⟨0, by omega, rfl, rfl, rfl, rfl⟩
  case round =>
    obtain ⟨k, hk, rfl, rfl, rfl, rfl⟩ := hrel
    by_cases hlt : k < n
    · rcases h with h | ⟨b, off, rfl, hb, hc⟩
      · omega
      have hcell := hc k hlt
      have hnal := HN.out k hlt
      clear hc
      have HS : Hid (∀ q, anyT T q (k + 1) = (anyT T q k || T k == q)) := fun _ => rfl
      obtain ⟨m, HM⟩ : ∃ m, Hid (T k = m) := ⟨_, rfl⟩
      rw [HM.out] at hnal
      generalize V k = v at hcell hnal
      go_wp2_with fail
      refine (nalV hnal).mono ?_
      rintro e w' ⟨rfl, rfl⟩
      by_cases m5 : m = 5
      · have HM5 : Hid (m = 5) := m5
        subst m5
        go_wp2_with fail
        go_round
        case rel => exact ⟨k + 1, by omega, by go_num, by rw [HS.out, HM.out]; simp, by rw [HS.out, HM.out]; simp, by rw [HS.out, HM.out]; simp⟩
        case measure => simp [intOf]; omega
      · have e5 : ((m : Int) == 5) = false := by simp; omega
        by_cases m7 : m = 7
        · subst m7
          clear e5 m5
          go_wp2_with fail
          go_round
          case rel => exact ⟨k + 1, by omega, by go_num, by rw [HS.out, HM.out]; simp, by rw [HS.out, HM.out]; simp, by rw [HS.out, HM.out]; simp⟩
          case measure => simp [intOf]; omega
        · have e7 : ((m : Int) == 7) = false := by simp; omega
          by_cases m8 : m = 8
          · subst m8
            clear e5 e7 m5 m7
            go_wp2_with fail
            go_round
            case rel => exact ⟨k + 1, by omega, by go_num, by rw [HS.out, HM.out]; simp, by rw [HS.out, HM.out]; simp, by rw [HS.out, HM.out]; simp⟩
            case measure => simp [intOf]; omega
          · have e8 : ((m : Int) == 8) = false := by simp; omega
            have q5 : (m == 5) = false := by simpa using m5
            have q7 : (m == 7) = false := by simpa using m7
            have q8 : (m == 8) = false := by simpa using m8
            have HQ : Hid ((m == 5) = false ∧ (m == 7) = false ∧ (m == 8) = false) := ⟨q5, q7, q8⟩
            clear q5 q7 q8 m5 m7 m8
            go_wp2_with fail
            go_round
            case rel => exact ⟨k + 1, by omega, by go_num, by rw [HS.out, HM.out, HQ.out.1, Bool.or_false], by rw [HS.out, HM.out, HQ.out.2.1, Bool.or_false], by rw [HS.out, HM.out, HQ.out.2.2, Bool.or_false]⟩
            case measure => simp [intOf]; omega
    · obtain rfl : k = n := by omega
      go_wp2
      go_ret3
      exact ⟨rfl, rfl⟩

set_option maxHeartbeats 2000000 in
/-- eqBytes at one slice twice -/
theorem eq28 {w : World} {v : Value} {t : Nat} (h : Nal w v t) : Calls Try.prog 28 #[v, v] w fun e w' => e = .returned (.bool true) ∧ ∃ nq, w' = w.drewN nq := by
  obtain ⟨a, n, c, D, rfl, h2, h3, h4, h5, rfl⟩ := h
  rcases h5 with h5 | ⟨b, off, rfl, hb, hc⟩
  · omega
  go_enter Try.func28, Try.ntmps28
  go_wp2
  go_loopw [5] (fun i wr => ∃ k : Nat, k ≤ n ∧ i = .int .i64 (k : Nat) ∧ ∃ nq, wr = w.drewN nq) (fun i _ => n - (intOf i).toNat)
  case atStart => exact ⟨0, by omega, rfl, 0, rfl⟩
  case round =>
    obtain ⟨k, hk, rfl, nq0, rfl⟩ := hrel
    by_cases hlt : k < n
    · have hcell := hc k hlt
      have hl1 : (k : Int) < (n : Int) := by omega
      clear hc
      go_wp2
      go_quiet (fail)
      go_wp2
      go_roundw
      case rel => exact ⟨k + 1, by omega, by go_num, _, rfl⟩
      case measure => simp [intOf]; omega
    · go_wp2
      go_ret
      exact ⟨rfl, _, rfl⟩
end Go.Proofs.Qxb6001091a.H264
