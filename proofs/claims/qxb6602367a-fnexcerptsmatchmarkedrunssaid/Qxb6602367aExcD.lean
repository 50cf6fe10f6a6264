/- FnExcerptsRunsAreSeparatedAndCoverEveryMarker: the law's walk. -/
import Derived.Test.Qxb6602367aExcC
namespace Go.Proofs.Qxb6602367a.Exc
open Go.RowKit

/-- what the plain law says of the runs, by their numbers -/
structure Facts (n : Nat) (S : Nat → Bool) (m : Nat) (F G : Nat → Nat) : Prop where
  le : ∀ k, k < m → F k ≤ G k
  lt : ∀ k, k < m → G k < n
  gap : ∀ k, k + 1 < m → G k + 1 < F (k + 1)
  has : ∀ k, k < m → ∃ u, F k ≤ u ∧ u ≤ G k ∧ S u = true
  cov : ∀ t, t < n → S t = true → ∃ i, i < m ∧ F i ≤ t ∧ t ≤ G i
  mono : ∀ i j, i ≤ j → j < m → F i ≤ F j

theorem fst_get (l : List (Nat × Nat)) (i : Nat) (h : i < l.length) : fst l i = l[i].1 ∧ snd l i = l[i].2 := by
  simp [fst, snd, h]

theorem facts (n : Nat) (S E : Nat → Bool) : Facts n S (runs n S E).length (fst (runs n S E)) (snd (runs n S E)) := by
  have g := fst_get (runs n S E)
  refine ⟨?_, ?_, ?_, ?_, ?_, ?_⟩
  · intro k hk; rw [(g k hk).1, (g k hk).2]; exact (runs_get n S E k hk).1
  · intro k hk; rw [(g k hk).2]; exact (runs_get n S E k hk).2.1
  · intro k hk
    rw [(g k (by omega)).2, (g (k + 1) hk).1]
    exact (runs_get n S E (k + 1) hk).2.2.2 k (by omega) (by omega)
  · intro k hk; rw [(g k hk).1, (g k hk).2]; exact (runs_get n S E k hk).2.2.1
  · intro t ht hS
    obtain ⟨i, hi, h1, h2⟩ := runs_cov n S E t ht hS
    exact ⟨i, hi, by rw [(g i hi).1]; exact h1, by rw [(g i hi).2]; exact h2⟩
  · intro i j hij hj
    by_cases e : i = j
    · rw [e]; exact Nat.le_refl _
    · have h1 := (runs_get n S E j hj).2.2.2 i (by omega) (by omega)
      have h2 := (runs_get n S E i (by omega)).1
      rw [(g i (by omega)).1, (g j hj).1]
      omega

theorem next_no {S : Nat → Bool} {f j : Nat} (h : ∀ u, f ≤ u → u < j → S u = false) (hj : S j = false) : ∀ u, f ≤ u → u < j + 1 → S u = false := by
  intro u h1 h2
  by_cases e : u = j
  · rw [e]; exact hj
  · exact h u h1 (by omega)

set_option maxHeartbeats 2000000 in
theorem law4 (a : Option Addr) (n c : Nat) (L : Nat → ByteArray) (w : World) (hn : n ≤ maxLen) (h : Strs w a n L) :
    Calls Try.prog 4 #[.slice a n c] w fun e w' => e = .returned (.bool true) ∧ Below w.heap.size w w' := by
  go_enter Try.func4, Try.ntmps4
  go_wp2_with fail
  refine (bytes11 a n c L _ hn h).mono ?_
  rintro e w' ⟨⟨b, rfl⟩, rfl⟩
  cases b
  · go_wp2
    go_ret
    exact ⟨rfl, Below.refl _ _⟩
  go_wp2_with fail
  refine (fit7 a n c L _ hn h).mono ?_
  rintro e w' ⟨⟨b, rfl, hfit⟩, rfl⟩
  cases b
  · clear hfit
    go_wp2
    go_ret
    exact ⟨rfl, Below.refl _ _⟩
  replace hn : n ≤ 65536 := hfit rfl
  clear hfit
  go_wp2_with fail
  refine (copy8 a n c L _ hn h).mono ?_
  rintro e w1 ⟨a', c', rfl, h', hb1⟩
  clear h
  go_wp2_with fail
  refine (zz9 a' n c' L _ hn h').mono ?_
  rintro e w2 ⟨a1, c1, a2, c2, rfl, hF, hG, hb2⟩
  have FA := facts n (SS L) (EE L)
  have hfin : Below w.heap.size w w2 := hb1.trans (hb2.mono hb1.size)
  replace h' := h'.mono hb2
  clear hb1 hb2
  have hmn : (runs n (SS L) (EE L)).length ≤ 65536 := by have := runsR_le n (SS L) (EE L) n (Nat.le_refl n); simp only [runs, List.length_reverse]; omega
  generalize fst (runs n (SS L) (EE L)) = F at hF FA
  generalize snd (runs n (SS L) (EE L)) = G at hG FA
  generalize (runs n (SS L) (EE L)).length = m at hF hG FA hmn ⊢
  go_wp2_with fail
  go_loopw [6] (fun i wr => ∃ k : Nat, k ≤ m ∧ i = .int .i64 k ∧ ∃ nq, wr = w2.drewN nq) (fun i _ => m - (intOf i).toNat)
  case atStart => exact ⟨0, by omega, rfl, 0, rfl⟩
  case round =>
    obtain ⟨k, hk, rfl, nq0, rfl⟩ := hrel
    by_cases hlt : k < m
    · rcases hF with hF | ⟨b1, o1, rfl, _, hF⟩
      · omega
      rcases hG with hG | ⟨b2, o2, rfl, _, hG⟩
      · omega
      have f1 := FA.le k hlt
      have f2 := FA.lt k hlt
      have r1 := hF k hlt
      have r2 := hG k hlt
      have d1 : decide (((F k : Nat) : Int) < 0) = false := decide_eq_false (by omega)
      have d2 : decide (((G k : Nat) : Int) < (F k : Nat)) = false := decide_eq_false (by omega)
      have d3 : decide ((n : Int) ≤ (G k : Nat)) = false := decide_eq_false (by omega)
      by_cases hk0 : k = 0
      · subst hk0
        rw [Nat.add_zero] at r1 r2
        clear hF hG FA
        go_wp2
        go_quiet (fail)
        go_wp2
        go_quiet (fail)
        go_wp2
        go_roundw
        case rel => exact ⟨0 + 1, by omega, by go_num, _, rfl⟩
        case measure => simp [intOf]; omega
      · have f3 : G (k - 1) + 1 < F k := by have := FA.gap (k - 1) (by omega); rwa [show k - 1 + 1 = k from by omega] at this
        have r3 := hG (k - 1) (by omega)
        have f4 := FA.lt (k - 1) (by omega)
        have hgt : 0 < k := by omega
        have hgd : decide (0 < k) = true := decide_eq_true hgt
        have hl1 : (k : Int) < (m : Int) := by omega
        have hl0 : (k : Int) - 1 < (m : Int) := by omega
        have hl2 : 0 ≤ (k : Int) - 1 := by omega
        have d4 : decide (((F k : Nat) : Int) ≤ (G (k - 1) : Nat) + 1) = false := decide_eq_false (by omega)
        clear hF hG FA
        go_wp2
        go_quiet (fail)
        go_wp2
        go_quiet (fail)
        go_wp2
        go_roundw
        case rel => exact ⟨k + 1, by omega, by go_num, _, rfl⟩
        case measure => simp [intOf]; omega
    · go_wp2
      go_loopw [7] (fun i wr => ∃ k : Nat, k ≤ m ∧ i = .int .i64 k ∧ ∃ nq, wr = w2.drewN nq) (fun i _ => m - (intOf i).toNat)
      case atStart => exact ⟨0, by omega, rfl, nq0, rfl⟩
      case round =>
        clear hlt hk
        obtain ⟨k, hk, rfl, nq1, rfl⟩ := hrel
        by_cases hlt : k < m
        · rcases hF with hF | ⟨b1, o1, rfl, _, hF⟩
          · omega
          rcases hG with hG | ⟨b2, o2, rfl, _, hG⟩
          · omega
          rcases h' with h' | ⟨b, off, rfl, _, hc⟩
          · have := FA.lt k hlt; omega
          have f1 := FA.le k hlt
          have f2 := FA.lt k hlt
          have r1 := hF k hlt
          have r2 := hG k hlt
          have HH : Hid (∃ u, F k ≤ u ∧ u ≤ G k ∧ SS L u = true) := FA.has k hlt
          have HC : Hid (∀ i, i < n → w2.cell? ⟨b, off + i, none⟩ = some (.string (L i))) := hc
          clear hF hG FA hc
          go_wp2
          go_loopw [8, 9] (fun f i wr => ∃ j : Nat, F k ≤ j ∧ j ≤ G k + 1 ∧ i = .int .i64 j ∧ f = .bool false ∧ (∀ u, F k ≤ u → u < j → SS L u = false) ∧ ∃ nq, wr = w2.drewN nq) (fun _ i _ => G k + 1 - (intOf i).toNat)
          case atStart => exact ⟨F k, by omega, by omega, rfl, rfl, fun u h1 h2 => by omega, nq1, rfl⟩
          case round =>
            obtain ⟨j, hj1, hj2, rfl, rfl, hno, nq2, rfl⟩ := hrel
            have HN : Hid (∀ u, F k ≤ u → u < j → SS L u = false) := hno
            clear hno
            by_cases hjl : j ≤ G k
            · have hcj := HC.out j (by omega)
              cases hS : SS L j
              · have hS' : hp (L j) { data := #[60, 60, 60, 60, 60, 60, 60] } = false := hS
                have HS : Hid (SS L j = false) := hS
                clear hS
                go_wp2_with fail
                refine (has12 (L j) _ _ (by decide)).mono ?_
                rintro e w' ⟨rfl, nq3, rfl⟩
                go_wp2_with fail
                go_roundw
                case rel => exact ⟨j + 1, by omega, by omega, by go_num, rfl, next_no HN.out HS.out, _, rfl⟩
                case measure => simp [intOf]; omega
              · have hS' : hp (L j) { data := #[60, 60, 60, 60, 60, 60, 60] } = true := hS
                clear hS
                go_wp2_with fail
                refine (has12 (L j) _ _ (by decide)).mono ?_
                rintro e w' ⟨rfl, nq3, rfl⟩
                go_wp2_with fail
                go_roundw
                case rel => exact ⟨k + 1, by omega, by go_num, _, rfl⟩
                case measure => simp [intOf]; omega
            · exfalso
              obtain ⟨u, hu1, hu2, hu3⟩ := HH.out
              have := HN.out u hu1 (by omega)
              rw [this] at hu3
              cases hu3
        · go_wp2
          go_loopw [10, 11] (fun jv tv wr => ∃ j t : Nat, j ≤ m ∧ t ≤ n ∧ jv = .int .i64 j ∧ tv = .int .i64 t ∧ (∀ i, i < j → G i < t) ∧ ∃ nq, wr = w2.drewN nq) (fun _ tv _ => n - (intOf tv).toNat)
          case atStart => exact ⟨0, 0, by omega, by omega, rfl, rfl, fun i h => by omega, nq1, rfl⟩
          case round =>
            clear hlt hk
            obtain ⟨j, t, hj, ht, rfl, rfl, hbe, nq2, rfl⟩ := hrel
            have HB : Hid (∀ i, i < j → G i < t) := hbe
            clear hbe
            by_cases htn : t < n
            · rcases h' with h' | ⟨b, off, rfl, _, hc⟩
              · omega
              have hct := hc t htn
              clear hc
              cases hS : SS L t
              · have hS' : hp (L t) { data := #[60, 60, 60, 60, 60, 60, 60] } = false := hS
                clear hS
                go_wp2_with fail
                refine (has12 (L t) _ _ (by decide)).mono ?_
                rintro e w' ⟨rfl, nq3, rfl⟩
                go_wp2_with fail
                go_roundw
                case rel => exact ⟨j, t + 1, hj, by omega, rfl, by go_num, fun i hi => by have := HB.out i hi; omega, _, rfl⟩
                case measure => simp [intOf]; omega
              · have hS' : hp (L t) { data := #[60, 60, 60, 60, 60, 60, 60] } = true := hS
                have HV : Hid (∃ i, i < m ∧ F i ≤ t ∧ t ≤ G i) := FA.cov t htn hS
                clear hS
                go_wp2_with fail
                refine (has12 (L t) _ _ (by decide)).mono ?_
                rintro e w' ⟨rfl, nq3, rfl⟩
                go_wp2_with fail
                go_loop [10] (fun jv => ∃ j : Nat, j ≤ m ∧ jv = .int .i64 j ∧ (∀ i, i < j → G i < t)) (fun jv => m - (intOf jv).toNat)
                case atStart => exact ⟨j, hj, rfl, HB.out⟩
                case round =>
                  clear hj HB
                  obtain ⟨j, hj, rfl, hbe⟩ := hrel
                  have HB : Hid (∀ i, i < j → G i < t) := hbe
                  clear hbe
                  -- the run that holds t
                  obtain ⟨i, hi1, hi2, hi3⟩ := HV.out
                  have hij : j ≤ i := by
                    by_cases e : i < j
                    · have := HB.out i e; omega
                    · omega
                  have hjm : j < m := by omega
                  have f1 := FA.mono j i hij hi1
                  have f2 := FA.lt j hjm
                  rcases hF with hF | ⟨b1, o1, rfl, _, hF⟩
                  · omega
                  rcases hG with hG | ⟨b2, o2, rfl, _, hG⟩
                  · omega
                  have r1 := hF j hjm
                  have r2 := hG j hjm
                  have hFt : F j ≤ t := by omega
                  have hje : ((j : Int) == (m : Int)) = false := by simp; omega
                  have hdt : decide ((t : Int) < (F j : Nat)) = false := decide_eq_false (by omega)
                  clear hF hG FA
                  by_cases hgt : G j < t
                  · go_wp2_with fail
                    go_round
                    case rel => exact ⟨j + 1, by omega, by go_num, fun u hu => by by_cases e : u = j; (rw [e]; exact hgt); exact HB.out u (by omega)⟩
                    case measure => simp [intOf]; omega
                  · go_wp2_with fail
                    go_roundw
                    case rel => exact ⟨j, t + 1, hj, by omega, rfl, by go_num, fun u hu => by have := HB.out u hu; omega, _, rfl⟩
                    case measure => simp [intOf]; omega
            · go_wp2
              go_ret
              exact ⟨rfl, hfin.trans ⟨rfl, rfl, rfl, Nat.le_refl _, fun _ _ => rfl⟩⟩
end Go.Proofs.Qxb6602367a.Exc
