/- FnAACGASpecificFrameSamplesAndFields: the law's walk. -/
import Derived.Test.Qxb6001091aAacC
namespace Go.Proofs.Qxb6001091a.Bits
open Go.RowKit

set_option maxHeartbeats 1000000 in
/-- zzBytes_FnAACGASpecificFrameSamplesAndFields -/
theorem bytes30 (a : Option Addr) (n c : Nat) (x1 x2 x3 x4 x5 : Int) (b6 b7 : Bool) (w : World) (hn : n ≤ maxLen) :
    Calls Try.prog 30 #[.slice a n c, .int .i64 x1, .int .i64 x2, .int .i64 x3, .int .i64 x4, .int .i64 x5, .bool b6, .bool b7] w fun e w' => IsBool e ∧ w = w' := by
  unfold maxLen at hn
  go_enter Try.func30, Try.ntmps30
  go_wp2
  all_goals
    go_ret
    exact ⟨⟨_, rfl⟩, rfl⟩

theorem bit_val (d s : Nat) (hd : d < 256) : wrap64 (bits .and .u8 ((d : Int) / 2 ^ s) 1) = ((d / 2 ^ s % 2 : Nat) : Int) := by
  have e1 : ((d : Int) / 2 ^ s) = ((d / 2 ^ s : Nat) : Int) := by simp
  have hds : d / 2 ^ s < 256 := Nat.lt_of_le_of_lt (Nat.div_le_self _ _) hd
  have hb : d / 2 ^ s % 2 < 2 := Nat.mod_lt _ (by omega)
  rw [e1, and1_u8 _ hds, IntWalk.wrap64_in _ ⟨by omega, by omega⟩]

set_option maxHeartbeats 1000000 in
/-- bitAt -/
theorem bitAt32 (a : Option Addr) (n c p : Nat) (D : Nat → Nat) (w : World) (hn : n ≤ 16777216) (hp : p < 8 * n) (hD : ∀ i, D i < 256) (hB : Bytes w a n D) :
    Calls Try.prog 32 #[.slice a n c, .int .i64 p] w fun e w' => e = .returned (.int .i64 (bit D p)) ∧ w = w' := by
  rcases hB with h0 | ⟨b, off, rfl, hb, hc⟩
  · omega
  have hq : p / 8 < n := by omega
  have hd := hc (p / 8) hq
  have HV : Hid (wrap64 (bits .and .u8 ((D (p / 8) : Int) / 2 ^ (7 - p % 8)) 1) = ((bit D p : Nat) : Int)) := bit_val _ _ (hD _)
  clear hc hD
  go_enter Try.func32, Try.ntmps32
  go_wp2
  go_ret
  exact ⟨by rw [← HV.out]; rfl, rfl⟩

theorem frame_of (D : Nat → Nat) (T p : Nat) : frame D T p = if p < T ∧ bit D p = 1 then 960 else 1024 := by
  unfold frame rdVal
  by_cases h : p + 1 ≤ T
  · rw [if_pos h]
    have : bitsV D p 1 = bit D p := by simp [bitsV]
    rw [this]
    by_cases hb : bit D p = 1
    · rw [if_pos hb, if_pos ⟨by omega, hb⟩]
    · rw [if_neg hb, if_neg (fun hh => hb hh.2)]
  · rw [if_neg h, if_neg (by omega), if_neg (by omega)]

set_option maxHeartbeats 2000000 in
theorem law8 (a : Option Addr) (n c : Nat) (D : Nat → Nat) (x ot rate ch fs : Int) (sbr ps : Bool) (w : World) (hn : n ≤ maxLen) (hD : ∀ i, D i < 256) (h : Bytes w a n D) :
    Calls Try.prog 8 #[.slice a n c, .int .i64 x, .int .i64 ot, .int .i64 rate, .int .i64 ch, .int .i64 fs, .bool sbr, .bool ps] w fun e w' => e = .returned (.bool true) ∧ Below w.heap.size w w' := by
  go_enter Try.func8, Try.ntmps8
  go_wp2_with fail
  refine (bytes30 a n c x ot rate ch fs sbr ps _ hn).mono ?_
  rintro e w' ⟨⟨b, rfl⟩, rfl⟩
  cases b
  · go_wp2
    go_ret
    exact ⟨rfl, Below.refl _ _⟩
  unfold maxLen at hn
  by_cases hbig : 65536 < n
  · go_wp2
    go_ret
    exact ⟨rfl, Below.refl _ _⟩
  by_cases hx0 : x < 0
  · go_wp2
    go_ret
    exact ⟨rfl, Below.refl _ _⟩
  by_cases hx1 : 8 * (n : Int) < x
  · go_wp2
    go_ret
    exact ⟨rfl, Below.refl _ _⟩
  obtain ⟨p, rfl⟩ := Int.eq_ofNat_of_zero_le (show 0 ≤ x by omega)
  have hp : p ≤ 8 * n := by omega
  clear hx0 hx1
  go_wp2_with fail
  refine (clone12 a n c D _ (by omega) h).mono ?_
  rintro e w1 ⟨a', c', rfl, h', hab, hb1⟩
  clear h
  have HAB : Hid (∀ x, a' = some x → x.block < w1.heap.size) := hab
  clear hab
  go_wp2_with fail
  refine (zz31 w1.heap.size w1.heap.size a' n c' p D ot rate ch fs sbr ps _ (by omega) hD hp (Nat.le_refl _) HAB.out (cfg_new w1 ot rate ch fs sbr ps) (h'.mono ((Below.refl _ _).alloc (Nat.le_refl _) _))).mono ?_
  rintro e w2 ⟨rfl, hcfg, hb2⟩
  have hb12 : Below w1.heap.size w1 w2 := ((Below.refl w1.heap.size w1).alloc (Nat.le_refl _) _).trans hb2
  have hfin : Below w.heap.size w w2 := hb1.trans (hb12.mono hb1.size)
  have h2 := h'.mono hb12
  have k0 : w2.cell? ⟨w1.heap.size, 0, none⟩ = some (.int .i64 ot) := hcfg.cell (i := 0) (by omega)
  have k1 : w2.cell? ⟨w1.heap.size, 1, none⟩ = some (.int .i64 rate) := hcfg.cell (i := 1) (by omega)
  have k2 : w2.cell? ⟨w1.heap.size, 2, none⟩ = some (.int .i64 ch) := hcfg.cell (i := 2) (by omega)
  have k3 : w2.cell? ⟨w1.heap.size, 3, none⟩ = some (.int .i64 (frame D (8 * n) p)) := hcfg.cell (i := 3) (by omega)
  have k4 : w2.cell? ⟨w1.heap.size, 4, none⟩ = some (.bool sbr) := hcfg.cell (i := 4) (by omega)
  have k5 : w2.cell? ⟨w1.heap.size, 5, none⟩ = some (.bool ps) := hcfg.cell (i := 5) (by omega)
  rw [frame_of] at k3
  clear hb1 hb2 h' HAB hcfg hb12
  by_cases hpt : p < 8 * n
  · by_cases hbt : bit D p = 1
    · rw [if_pos ⟨hpt, hbt⟩] at k3
      go_wp2_with fail
      refine (bitAt32 a' n c' p D _ (by omega) hpt hD h2).mono ?_
      rintro e w' ⟨rfl, rfl⟩
      go_wp2_with fail
      go_ret
      exact ⟨rfl, hfin⟩
    · rw [if_neg (fun hh => hbt hh.2)] at k3
      have hbe : ((bit D p : Int) == 1) = false := by simp; omega
      go_wp2_with fail
      refine (bitAt32 a' n c' p D _ (by omega) hpt hD h2).mono ?_
      rintro e w' ⟨rfl, rfl⟩
      go_wp2_with fail
      go_ret
      exact ⟨rfl, hfin⟩
  · rw [if_neg (fun hh => hpt hh.1)] at k3
    go_wp2_with fail
    go_ret
    exact ⟨rfl, hfin⟩
end Go.Proofs.Qxb6001091a.Bits
