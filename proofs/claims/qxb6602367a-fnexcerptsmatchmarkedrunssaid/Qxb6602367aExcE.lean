/- The model's marks: the plain law of zzModelRuns. -/
import Derived.Test.Qxb6602367aExcD
namespace Go.Proofs.Qxb6602367a.Exc
open Go.RowKit

/-- does line t lie within five lines of one of the regions? -/
def mark (n : Nat) (R : List (Nat × Nat)) (t : Nat) : Bool := R.any (fun r => decide (r.1 - 5 ≤ t) && decide (t ≤ hi n r.2))
theorem mark_iff (n : Nat) (R : List (Nat × Nat)) (t : Nat) : mark n R t = true ↔ ∃ r ∈ R, r.1 - 5 ≤ t ∧ t ≤ hi n r.2 := by
  simp [mark, List.any_eq_true]
theorem mark_snoc (n : Nat) (R : List (Nat × Nat)) (s k t : Nat) : mark n (R ++ [(s, k)]) t = (mark n R t || (decide (s - 5 ≤ t) && decide (t ≤ hi n k))) := by
  simp [mark, List.any_append]

/-- what the model's second loop knows of the marks -/
structure Marked (n m : Nat) (F G : Nat → Nat) (M : Nat → Bool) : Prop where
  le : ∀ k, k < m → F k ≤ G k
  lt : ∀ k, k < m → G k < n
  far : ∀ i j, i < j → j < m → G i + 1 < F j
  iff : ∀ t, M t = true ↔ ∃ k, k < m ∧ F k ≤ t ∧ t ≤ G k

theorem marked (n : Nat) (S E : Nat → Bool) : Marked n (runs n S E).length (fst (runs n S E)) (snd (runs n S E)) (mark n (scan n S E n).2) := by
  have g := fst_get (runs n S E)
  refine ⟨(facts n S E).le, (facts n S E).lt, ?_, ?_⟩
  · intro i j hij hj
    rw [(g i (by omega)).2, (g j hj).1]
    exact (runs_get n S E j hj).2.2.2 i (by omega) hij
  · intro t
    rw [mark_iff, ← runs_reg n S E t]
    constructor
    · rintro ⟨i, hi, a, b⟩
      exact ⟨i, hi, by rw [(g i hi).1]; exact a, by rw [(g i hi).2]; exact b⟩
    · rintro ⟨i, hi, a, b⟩
      rw [(g i hi).1] at a
      rw [(g i hi).2] at b
      exact ⟨i, hi, a, b⟩

/-- line t is a run's first line just where the next first line is t -/
theorem first_yes {n m : Nat} {F G : Nat → Nat} {M : Nat → Bool} (h : Marked n m F G M) {t p : Nat} (h1 : ∀ i, i < p → F i < t) (h2 : p < m → t ≤ F p)
    (hM : M t = true) (hp : t = 0 ∨ M (t - 1) = false) : p < m ∧ F p = t := by
  obtain ⟨k, hk, a, b⟩ := (h.iff t).1 hM
  have e : F k = t := by
    by_cases e : F k = t
    · exact e
    · rcases hp with rfl | hp
      · omega
      · have : M (t - 1) = true := (h.iff (t - 1)).2 ⟨k, hk, by omega, by omega⟩
        rw [hp] at this; cases this
  have hpk : p ≤ k := by
    by_cases hh : k < p
    · have := h1 k hh; omega
    · omega
  refine ⟨by omega, ?_⟩
  by_cases hh : p = k
  · rw [hh]; exact e
  · have := h.far p k (by omega) hk
    have := h.le p (by omega)
    have := h2 (by omega)
    omega
theorem first_no {n m : Nat} {F G : Nat → Nat} {M : Nat → Bool} (h : Marked n m F G M) {t p : Nat}
    (hno : M t = false ∨ (t ≠ 0 ∧ M (t - 1) = true)) (hpm : p < m) : F p ≠ t := by
  intro e
  rcases hno with hM | ⟨ht, hM⟩
  · have : M t = true := (h.iff t).2 ⟨p, hpm, by omega, by have := h.le p hpm; omega⟩
    rw [hM] at this; cases this
  · obtain ⟨k, hk, a, b⟩ := (h.iff (t - 1)).1 hM
    have := h.le p hpm
    rcases Nat.lt_trichotomy k p with hh | hh | hh
    · have := h.far k p hh hpm; omega
    · subst hh; omega
    · have := h.far p k hh hk; omega
theorem last_yes {n m : Nat} {F G : Nat → Nat} {M : Nat → Bool} (h : Marked n m F G M) {t q : Nat} (h1 : ∀ i, i < q → G i < t) (h2 : q < m → t ≤ G q)
    (hM : M t = true) (hp : t + 1 = n ∨ M (t + 1) = false) : q < m ∧ G q = t := by
  obtain ⟨k, hk, a, b⟩ := (h.iff t).1 hM
  have hl := h.lt k hk
  have e : G k = t := by
    by_cases e : G k = t
    · exact e
    · rcases hp with hp | hp
      · omega
      · have : M (t + 1) = true := (h.iff (t + 1)).2 ⟨k, hk, by omega, by omega⟩
        rw [hp] at this; cases this
  have hpk : q ≤ k := by
    by_cases hh : k < q
    · have := h1 k hh; omega
    · omega
  refine ⟨by omega, ?_⟩
  by_cases hh : q = k
  · rw [hh]; exact e
  · have := h.far q k (by omega) hk
    have := h.le k hk
    have := h2 (by omega)
    omega
theorem last_no {n m : Nat} {F G : Nat → Nat} {M : Nat → Bool} (h : Marked n m F G M) {t q : Nat}
    (hno : M t = false ∨ (t + 1 ≠ n ∧ M (t + 1) = true)) (hqm : q < m) : G q ≠ t := by
  intro e
  rcases hno with hM | ⟨ht, hM⟩
  · have : M t = true := (h.iff t).2 ⟨q, hqm, by have := h.le q hqm; omega, by omega⟩
    rw [hM] at this; cases this
  · obtain ⟨k, hk, a, b⟩ := (h.iff (t + 1)).1 hM
    have := h.le q hqm
    rcases Nat.lt_trichotomy k q with hh | hh | hh
    · have := h.far k q hh hqm; omega
    · subst hh; omega
    · have := h.far q k hh hk; omega
end Go.Proofs.Qxb6602367a.Exc
