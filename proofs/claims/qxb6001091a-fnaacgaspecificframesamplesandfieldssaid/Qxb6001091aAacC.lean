/- FnAACGASpecificBitsConsumed: the law's walk. -/
import Derived.Test.Qxb6001091aAacB
namespace Go.Proofs.Qxb6001091a.Bits
open Go.RowKit

set_option maxHeartbeats 1000000 in
/-- zzBytes_FnAACGASpecificBitsConsumed -/
theorem bytes34 (a : Option Addr) (n c : Nat) (x y : Int) (w : World) (hn : n ≤ maxLen) :
    Calls Try.prog 34 #[.slice a n c, .int .i64 x, .int .i64 y] w fun e w' => IsBool e ∧ w = w' := by
  unfold maxLen at hn
  go_enter Try.func34, Try.ntmps34
  go_wp2
  all_goals
    go_ret
    exact ⟨⟨_, rfl⟩, rfl⟩

theorem ret_true {b : Bool} (h : b = true) : Ending.returned (.bool b) = .returned (.bool true) := by rw [h]

theorem cfg_new (w : World) (ot rate ch fs : Int) (sbr ps : Bool) :
    (w.alloc (.cells #[.int .i64 ot, .int .i64 rate, .int .i64 ch, .int .i64 fs, .bool sbr, .bool ps] 48)).rowIs w.heap.size 48 6 (cfgCells ot rate ch fs sbr ps) := by
  refine World.rowIs_alloc w #[.int .i64 ot, .int .i64 rate, .int .i64 ch, .int .i64 fs, .bool sbr, .bool ps] 48 (cfgCells ot rate ch fs sbr ps) (fun i hi => ?_)
  have hi' : i < 6 := hi
  match i, hi' with
  | 0, _ => rfl
  | 1, _ => rfl
  | 2, _ => rfl
  | 3, _ => rfl
  | 4, _ => rfl
  | 5, _ => rfl
set_option maxHeartbeats 2000000 in
theorem law10 (a : Option Addr) (n c : Nat) (D : Nat → Nat) (x ch : Int) (w : World) (hn : n ≤ maxLen) (hD : ∀ i, D i < 256) (h : Bytes w a n D) :
    Calls Try.prog 10 #[.slice a n c, .int .i64 x, .int .i64 ch] w fun e w' => e = .returned (.bool true) ∧ Below w.heap.size w w' := by
  go_enter Try.func10, Try.ntmps10
  go_wp2_with fail
  refine (bytes34 a n c x ch _ hn).mono ?_
  rintro e w' ⟨⟨b, rfl⟩, rfl⟩
  cases b
  · go_wp2
    go_ret
    exact ⟨rfl, Below.refl _ _⟩
  unfold maxLen at hn
  by_cases hbig : 65536 < n
  · go_wp2
    go_ret
    exact ⟨rfl, Below.refl _ _⟩
  by_cases hx0 : x < 0
  · go_wp2
    go_ret
    exact ⟨rfl, Below.refl _ _⟩
  by_cases hx1 : 8 * (n : Int) < x
  · go_wp2
    go_ret
    exact ⟨rfl, Below.refl _ _⟩
  obtain ⟨p, rfl⟩ := Int.eq_ofNat_of_zero_le (show 0 ≤ x by omega)
  have hp : p ≤ 8 * n := by omega
  clear hx0 hx1
  go_wp2_with fail
  refine (clone12 a n c D _ (by omega) h).mono ?_
  rintro e w1 ⟨a', c', rfl, h', hab, hb1⟩
  clear h
  have HAB : Hid (∀ x, a' = some x → x.block < w1.heap.size) := hab
  clear hab
  have HL := aac_law D (8 * n) ch p hp
  go_wp2_with fail
  refine (zz31 w1.heap.size w1.heap.size a' n c' p D 0 0 ch 0 false false _ (by omega) hD hp (Nat.le_refl _) HAB.out (cfg_new w1 0 0 ch 0 false false) (h'.mono ((Below.refl _ _).alloc (Nat.le_refl _) _))).mono ?_
  rintro e w2 ⟨rfl, _, hb2⟩
  have hfin : Below w.heap.size w w2 := hb1.trans ((((Below.refl w1.heap.size w1).alloc (Nat.le_refl _) _).trans hb2).mono hb1.size)
  clear hb1 hb2 h' HAB
  generalize (aac D (8 * n) ch p false).1 = P at HL ⊢
  generalize (aac D (8 * n) ch p false).2 = S at HL ⊢
  rcases HL with ⟨rfl, HL⟩ | ⟨rfl, rfl, HL⟩
  · by_cases hc0 : ch = 0
    · subst hc0
      rcases HL with rfl | rfl | ⟨h0, _⟩
      · go_wp2_with fail
        go_ret
        exact ⟨ret_true (by simp; try omega), hfin⟩
      · go_wp2_with fail
        go_ret
        exact ⟨ret_true (by simp; try omega), hfin⟩
      · exact absurd rfl h0
    · have hce : (ch == 0) = false := by simpa using hc0
      rcases HL with rfl | rfl | ⟨_, rfl | rfl⟩
      all_goals
        go_wp2_with fail
        go_ret
        exact ⟨ret_true (by simp; try omega), hfin⟩
  · go_wp2_with fail
    go_ret
    exact ⟨ret_true (by simp; try omega), hfin⟩
end Go.Proofs.Qxb6001091a.Bits
