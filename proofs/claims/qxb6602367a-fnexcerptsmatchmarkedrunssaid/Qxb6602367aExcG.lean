/- FnExcerptsMatchMarkedRuns: the law's walk. -/
import Derived.Test.Qxb6602367aExcF
namespace Go.Proofs.Qxb6602367a.Exc
open Go.RowKit

theorem Ints.mono {w w' : World} {a : Option Addr} {n : Nat} {f : Nat → Nat} (h : Ints w a n f) (hb : Below w.heap.size w w') : Ints w' a n f := by
  rcases h with h | ⟨b, off, h1, h2, h3⟩
  · exact .inl h
  · exact .inr ⟨b, off, h1, Nat.lt_of_lt_of_le h2 hb.size, fun i hi => by rw [hb.cell (p := ⟨b, off + i, none⟩) h2]; exact h3 i hi⟩

set_option maxHeartbeats 2000000 in
theorem law3 (a : Option Addr) (n c : Nat) (L : Nat → ByteArray) (w : World) (hn : n ≤ maxLen) (h : Strs w a n L) :
    Calls Try.prog 3 #[.slice a n c] w fun e w' => e = .returned (.bool true) ∧ Below w.heap.size w w' := by
  go_enter Try.func3, Try.ntmps3
  go_wp2_with fail
  refine (bytes6 a n c L _ hn h).mono ?_
  rintro e w' ⟨⟨b, rfl⟩, rfl⟩
  cases b
  · go_wp2
    go_ret
    exact ⟨rfl, Below.refl _ _⟩
  go_wp2_with fail
  refine (fit7 a n c L _ hn h).mono ?_
  rintro e w' ⟨⟨b, rfl, hfit⟩, rfl⟩
  cases b
  · clear hfit
    go_wp2
    go_ret
    exact ⟨rfl, Below.refl _ _⟩
  replace hn : n ≤ 65536 := hfit rfl
  clear hfit
  go_wp2_with fail
  refine (copy8 a n c L _ hn h).mono ?_
  rintro e w1 ⟨a', c', rfl, h', hb1⟩
  clear h
  go_wp2_with fail
  refine (zz9 a' n c' L _ hn h').mono ?_
  rintro e w2 ⟨a1, c1, a2, c2, rfl, hF, hG, hb2⟩
  have hfin : Below w.heap.size w w2 := hb1.trans (hb2.mono hb1.size)
  replace h' := h'.mono hb2
  clear hb1 hb2
  go_wp2_with fail
  refine (model10 a' n c' L _ hn h').mono ?_
  rintro e w3 ⟨a3, c3, a4, c4, rfl, hF', hG', hb3⟩
  replace hfin : Below w.heap.size w w3 := hfin.trans (hb3.mono hfin.size)
  replace hF := hF.mono hb3
  replace hG := hG.mono hb3
  clear hb3 h'
  have hmn : (runs n (SS L) (EE L)).length ≤ 65536 := by have := runsR_le n (SS L) (EE L) n (Nat.le_refl n); simp only [runs, List.length_reverse]; omega
  generalize fst (runs n (SS L) (EE L)) = F at hF hF'
  generalize snd (runs n (SS L) (EE L)) = G at hG hG'
  generalize (runs n (SS L) (EE L)).length = m at hF hG hF' hG' hmn ⊢
  go_wp2_with fail
  go_loopw [7] (fun i wr => ∃ k : Nat, k ≤ m ∧ i = .int .i64 k ∧ ∃ nq, wr = w3.drewN nq) (fun i _ => m - (intOf i).toNat)
  case atStart => exact ⟨0, by omega, rfl, 0, rfl⟩
  case round =>
    obtain ⟨k, hk, rfl, nq0, rfl⟩ := hrel
    by_cases hlt : k < m
    · rcases hF with hF | ⟨b1, o1, rfl, _, hF⟩
      · omega
      rcases hG with hG | ⟨b2, o2, rfl, _, hG⟩
      · omega
      rcases hF' with hF' | ⟨b3, o3, rfl, _, hF'⟩
      · omega
      rcases hG' with hG' | ⟨b4, o4, rfl, _, hG'⟩
      · omega
      have r1 := hF k hlt
      have r2 := hG k hlt
      have r3 := hF' k hlt
      have r4 := hG' k hlt
      have hl1 : (k : Int) < (m : Int) := by omega
      clear hF hG hF' hG'
      go_wp2
      go_quiet (fail)
      go_wp2
      go_roundw
      case rel => exact ⟨k + 1, by omega, by go_num, _, rfl⟩
      case measure => simp [intOf]; omega
    · go_wp2
      go_ret
      exact ⟨rfl, drewN_below hfin⟩
end Go.Proofs.Qxb6602367a.Exc
