/-
  The plain law of 'excerpts': no Go in sight. Lines are numbers below n; 'S k': line k opens a region (outside one); 'E k': line k closes it.
-/
namespace Go.Proofs.Qxb6602367a.Exc

/-- is a region open AT line k, given whether one was open ahead of it -/
def pre (S : Nat → Bool) (o : Option Nat) (k : Nat) : Option Nat :=
  match o with
  | some s => some s
  | none => if S k then some k else none

def step (n : Nat) (S E : Nat → Bool) (st : Option Nat × List (Nat × Nat)) (k : Nat) : Option Nat × List (Nat × Nat) :=
  match pre S st.1 k with
  | some s => if E k || k + 1 == n then (none, st.2 ++ [(s, k)]) else (some s, st.2)
  | none => (none, st.2)

/-- after k lines: the open region's first line, and the closed regions in order -/
def scan (n : Nat) (S E : Nat → Bool) : Nat → Option Nat × List (Nat × Nat)
  | 0 => (none, [])
  | k + 1 => step n S E (scan n S E k) k

/-- the last line shown behind a region that ends at e -/
def hi (n e : Nat) : Nat := min (e + 5) (n - 1)

/-- one region joins the runs (newest first) -/
def addR (n : Nat) (rr : List (Nat × Nat)) (r : Nat × Nat) : List (Nat × Nat) :=
  match rr with
  | [] => [(r.1 - 5, hi n r.2)]
  | (f, l) :: t => if r.1 - 5 ≤ l + 1 then (f, hi n r.2) :: t else (r.1 - 5, hi n r.2) :: (f, l) :: t

def runsR (n : Nat) (R : List (Nat × Nat)) : List (Nat × Nat) := R.foldl (addR n) []

theorem runsR_snoc (n : Nat) (R : List (Nat × Nat)) (r : Nat × Nat) : runsR n (R ++ [r]) = addR n (runsR n R) r := by
  simp [runsR, List.foldl_append]

def Cov (rr : List (Nat × Nat)) (t : Nat) : Prop := ∃ r ∈ rr, r.1 ≤ t ∧ t ≤ r.2

/-- the runs (newest first) are sound: bounds, gaps, each holds an opening line -/
def Sep (n : Nat) (S : Nat → Bool) : List (Nat × Nat) → Prop
  | [] => True
  | (f, l) :: t => f ≤ l ∧ l < n ∧ (∃ u, f ≤ u ∧ u ≤ l ∧ S u = true) ∧ (∀ r ∈ t, r.2 + 1 < f) ∧ Sep n S t

/-- what holds after k lines -/
structure Inv (n : Nat) (S E : Nat → Bool) (k : Nat) : Prop where
  sep : Sep n S (runsR n (scan n S E k).2)
  low : ∀ r ∈ runsR n (scan n S E k).2, r.1 ≤ k - 5 ∧ r.2 ≤ k + 4
  opn : ∀ s, (scan n S E k).1 = some s → s < k ∧ k < n ∧ S s = true ∧ ∀ r ∈ runsR n (scan n S E k).2, r.1 ≤ s - 5 ∧ r.2 ≤ s + 4
  cov : ∀ t, t < k → S t = true → Cov (runsR n (scan n S E k).2) t ∨ ∃ s, (scan n S E k).1 = some s ∧ s ≤ t
  reg : ∀ t, Cov (runsR n (scan n S E k).2) t ↔ ∃ r ∈ (scan n S E k).2, r.1 - 5 ≤ t ∧ t ≤ hi n r.2

theorem inv_zero (n : Nat) (S E : Nat → Bool) : Inv n S E 0 := by
  refine ⟨trivial, ?_, ?_, ?_, ?_⟩
  · intro r hr; simp [scan, runsR] at hr
  · intro s hs; simp [scan] at hs
  · intro t ht; omega
  · intro t; simp [scan, runsR, Cov]

/-- one region [s, e] joins sound runs that end ahead of it -/
theorem addR_sep (n : Nat) (S : Nat → Bool) (rr : List (Nat × Nat)) (s e : Nat) (h : Sep n S rr) (hse : s ≤ e) (hen : e < n) (hS : S s = true)
    (hl : ∀ r ∈ rr, r.1 ≤ s - 5 ∧ r.2 ≤ s + 4) : Sep n S (addR n rr (s, e)) := by
  match rr, h, hl with
  | [], _, _ =>
    simp only [addR, Sep]
    refine ⟨by unfold hi; omega, by unfold hi; omega, ⟨s, by omega, by unfold hi; omega, hS⟩, ?_, trivial⟩
    intro r hr; simp at hr
  | (f, l) :: t, h, hl =>
    obtain ⟨h1, h2, ⟨u, hu1, hu2, hu3⟩, h4, h5⟩ := h
    have hfl := hl (f, l) (by simp)
    simp only at hfl
    simp only [addR]
    split
    · rename_i hc
      refine ⟨by unfold hi; omega, by unfold hi; omega, ⟨u, hu1, by unfold hi; omega, hu3⟩, h4, h5⟩
    · rename_i hc
      refine ⟨by unfold hi; omega, by unfold hi; omega, ⟨s, by omega, by unfold hi; omega, hS⟩, ?_, ⟨h1, h2, ⟨u, hu1, hu2, hu3⟩, h4, h5⟩⟩
      intro r hr
      simp only [List.mem_cons] at hr
      rcases hr with rfl | hr
      · simp only; omega
      · have := h4 r hr; omega

theorem addR_mem (n : Nat) (rr : List (Nat × Nat)) (s e : Nat) (r : Nat × Nat) (hr : r ∈ addR n rr (s, e)) :
    (r ∈ rr) ∨ (r.2 = hi n e ∧ (r.1 = s - 5 ∨ ∃ l, (r.1, l) ∈ rr)) := by
  match rr, hr with
  | [], hr => simp [addR] at hr; subst hr; exact .inr ⟨rfl, .inl rfl⟩
  | (f, l) :: t, hr =>
    simp only [addR] at hr
    split at hr
    · simp only [List.mem_cons] at hr
      rcases hr with rfl | hr
      · exact .inr ⟨rfl, .inr ⟨l, by simp⟩⟩
      · exact .inl (by simp [hr])
    · simp only [List.mem_cons] at hr
      rcases hr with rfl | hr
      · exact .inr ⟨rfl, .inl rfl⟩
      · exact .inl (by simpa using hr)

theorem addR_cov (n : Nat) (rr : List (Nat × Nat)) (s e : Nat) (hse : s ≤ e) (_hen : e < n)
    (hl : ∀ r ∈ rr, r.1 ≤ s - 5 ∧ r.2 ≤ s + 4) (hn : ∀ r ∈ rr, r.2 < n) (t : Nat) : Cov (addR n rr (s, e)) t ↔ Cov rr t ∨ (s - 5 ≤ t ∧ t ≤ hi n e) := by
  match rr, hl, hn with
  | [], _, _ => simp [addR, Cov]
  | (f, l) :: tl, hl, hn =>
    have hfl := hl (f, l) (by simp)
    have hln := hn (f, l) (by simp)
    simp only at hfl hln
    have hh : l ≤ hi n e := by unfold hi; omega
    simp only [addR]
    split
    · rename_i hc
      simp only [Cov, List.mem_cons, exists_eq_or_imp]
      constructor
      · rintro (⟨a, b⟩ | ⟨r, hr, a, b⟩)
        · by_cases h : t ≤ l
          · exact .inl (.inl ⟨a, h⟩)
          · exact .inr ⟨by omega, b⟩
        · exact .inl (.inr ⟨r, hr, a, b⟩)
      · rintro ((⟨a, b⟩ | ⟨r, hr, a, b⟩) | ⟨a, b⟩)
        · exact .inl ⟨a, by omega⟩
        · exact .inr ⟨r, hr, a, b⟩
        · exact .inl ⟨by omega, b⟩
    · simp only [Cov, List.mem_cons, exists_eq_or_imp]
      constructor
      · rintro (⟨a, b⟩ | h)
        · exact .inr ⟨a, b⟩
        · exact .inl h
      · rintro (h | ⟨a, b⟩)
        · exact .inr h
        · exact .inl ⟨a, b⟩

theorem sep_lt (n : Nat) (S : Nat → Bool) : ∀ (rr : List (Nat × Nat)), Sep n S rr → ∀ r ∈ rr, r.2 < n
  | [], _, r, hr => by simp at hr
  | (f, l) :: t, h, r, hr => by
    simp only [List.mem_cons] at hr
    rcases hr with rfl | hr
    · exact h.2.1
    · exact sep_lt n S t h.2.2.2.2 r hr

theorem scan_succ (n : Nat) (S E : Nat → Bool) (k : Nat) : scan n S E (k + 1) = step n S E (scan n S E k) k := rfl

/-- closing a region -/
theorem scan_close (n : Nat) (S E : Nat → Bool) (k s : Nat) (hp : pre S (scan n S E k).1 k = some s) (hc : E k = true ∨ k + 1 = n) :
    scan n S E (k + 1) = (none, (scan n S E k).2 ++ [(s, k)]) := by
  rw [scan_succ, step, hp]
  have : (E k || k + 1 == n) = true := by rcases hc with h | h <;> simp [h]
  simp [this]
theorem scan_stay (n : Nat) (S E : Nat → Bool) (k s : Nat) (hp : pre S (scan n S E k).1 k = some s) (hc : E k = false) (hn : k + 1 ≠ n) :
    scan n S E (k + 1) = (some s, (scan n S E k).2) := by
  rw [scan_succ, step, hp]
  have : (E k || k + 1 == n) = false := by simp [hc, hn]
  simp [this]
theorem scan_none (n : Nat) (S E : Nat → Bool) (k : Nat) (hp : pre S (scan n S E k).1 k = none) :
    scan n S E (k + 1) = (none, (scan n S E k).2) := by
  rw [scan_succ, step, hp]

theorem inv_succ (n : Nat) (S E : Nat → Bool) (k : Nat) (hk : k < n) (h : Inv n S E k) : Inv n S E (k + 1) := by
  cases hp : pre S (scan n S E k).1 k with
  | none =>
    have ho : (scan n S E k).1 = none ∧ S k = false := by
      unfold pre at hp
      split at hp
      · cases hp
      · rename_i e
        refine ⟨e, ?_⟩
        cases hs : S k
        · rfl
        · simp [hs] at hp
    have e := scan_none n S E k hp
    refine ⟨by rw [e]; exact h.sep, ?_, ?_, ?_, ?_⟩
    · rw [e]; intro r hr; have := h.low r hr; omega
    · rw [e]; intro s hs; cases hs
    · rw [e]; intro t ht hS
      have hne : t ≠ k := by intro hh; subst hh; rw [ho.2] at hS; cases hS
      rcases h.cov t (by omega) hS with hc | ⟨s, hs, _⟩
      · exact .inl hc
      · rw [ho.1] at hs; cases hs
    · rw [e]; exact h.reg
  | some s =>
    -- the open region's first line, and what is known of it
    have hs : s ≤ k ∧ S s = true ∧ (∀ r ∈ runsR n (scan n S E k).2, r.1 ≤ s - 5 ∧ r.2 ≤ s + 4) := by
      unfold pre at hp
      split at hp
      · rename_i e
        cases hp
        have := h.opn _ e
        exact ⟨by omega, this.2.2.1, this.2.2.2⟩
      · split at hp
        · cases hp
          rename_i hS
          exact ⟨Nat.le_refl _, hS, h.low⟩
        · cases hp
    have hcv : ∀ t, t < k + 1 → S t = true → Cov (runsR n (scan n S E k).2) t ∨ s ≤ t := by
      intro t ht hS
      by_cases htk : t = k
      · exact .inr (by omega)
      · rcases h.cov t (by omega) hS with hc | ⟨s', hs', hle⟩
        · exact .inl hc
        · have : pre S (scan n S E k).1 k = some s' := by rw [hs']; rfl
          rw [hp] at this; cases this
          exact .inr hle
    by_cases hc : E k = true ∨ k + 1 = n
    · have e := scan_close n S E k s hp hc
      have hn := sep_lt n S _ h.sep
      have hcov := addR_cov n (runsR n (scan n S E k).2) s k hs.1 hk hs.2.2 hn
      refine ⟨?_, ?_, ?_, ?_, ?_⟩
      · rw [e]; simp only; rw [runsR_snoc]
        exact addR_sep n S _ s k h.sep hs.1 hk hs.2.1 hs.2.2
      · rw [e]; simp only; rw [runsR_snoc]
        intro r hr
        rcases addR_mem n _ s k r hr with hr | ⟨h2, h1⟩
        · have := h.low r hr; omega
        · refine ⟨?_, by rw [h2]; unfold hi; omega⟩
          rcases h1 with h1 | ⟨l, h1⟩
          · omega
          · have := (h.low _ h1).1; simp only at this; omega
      · rw [e]; intro s' hs'; cases hs'
      · rw [e]; simp only; rw [runsR_snoc]
        intro t ht hS
        refine .inl ((hcov t).2 ?_)
        rcases hcv t ht hS with hc | hle
        · exact .inl hc
        · exact .inr ⟨by omega, by unfold hi; omega⟩
      · rw [e]; simp only; rw [runsR_snoc]
        intro t
        rw [hcov t, h.reg t]
        simp only [List.mem_append, List.mem_singleton]
        constructor
        · rintro (⟨r, hr, a⟩ | a)
          · exact ⟨r, .inl hr, a⟩
          · exact ⟨(s, k), .inr rfl, a⟩
        · rintro ⟨r, hr | rfl, a⟩
          · exact .inl ⟨r, hr, a⟩
          · exact .inr a
    · have hE : E k = false := by cases he : E k; rfl; exact absurd (.inl he) hc
      have hkn : k + 1 ≠ n := fun he => hc (.inr he)
      have e := scan_stay n S E k s hp hE hkn
      refine ⟨by rw [e]; exact h.sep, ?_, ?_, ?_, ?_⟩
      · rw [e]; intro r hr; have := h.low r hr; omega
      · rw [e]; intro s' hs'; cases hs'
        exact ⟨by omega, by omega, hs.2.1, hs.2.2⟩
      · rw [e]; intro t ht hS
        rcases hcv t ht hS with hc | hle
        · exact .inl hc
        · exact .inr ⟨s, rfl, hle⟩
      · rw [e]; exact h.reg

theorem inv_all (n : Nat) (S E : Nat → Bool) : ∀ k, k ≤ n → Inv n S E k
  | 0, _ => inv_zero n S E
  | k + 1, h => inv_succ n S E k (by omega) (inv_all n S E k (by omega))

/-- at the file's end no region is open -/
theorem scan_end (n : Nat) (S E : Nat → Bool) : (scan n S E n).1 = none := by
  cases h : (scan n S E n).1 with
  | none => rfl
  | some s => have := (inv_all n S E n (Nat.le_refl _)).opn s h; omega

/-! ### what the law asks, of the runs in order -/
def runs (n : Nat) (S E : Nat → Bool) : List (Nat × Nat) := (runsR n (scan n S E n).2).reverse

theorem sep_get (n : Nat) (S : Nat → Bool) : ∀ (rr : List (Nat × Nat)), Sep n S rr → ∀ i (h : i < rr.length),
    rr[i].1 ≤ rr[i].2 ∧ rr[i].2 < n ∧ (∃ u, rr[i].1 ≤ u ∧ u ≤ rr[i].2 ∧ S u = true) ∧ ∀ j (hj : j < rr.length), i < j → rr[j].2 + 1 < rr[i].1
  | [], _, i, h => by simp at h
  | (f, l) :: t, hs, 0, _ => by
    refine ⟨hs.1, hs.2.1, hs.2.2.1, ?_⟩
    intro j hj hij
    obtain ⟨j', rfl⟩ : ∃ j', j = j' + 1 := ⟨j - 1, by omega⟩
    simp only [List.getElem_cons_succ, List.getElem_cons_zero]
    exact hs.2.2.2.1 _ (List.getElem_mem _)
  | (f, l) :: t, hs, i + 1, h => by
    have := sep_get n S t hs.2.2.2.2 i (by simpa using h)
    simp only [List.getElem_cons_succ]
    refine ⟨this.1, this.2.1, this.2.2.1, ?_⟩
    intro j hj hij
    obtain ⟨j', rfl⟩ : ∃ j', j = j' + 1 := ⟨j - 1, by omega⟩
    simp only [List.getElem_cons_succ]
    exact this.2.2.2 j' (by simpa using hj) (by omega)

theorem runs_get (n : Nat) (S E : Nat → Bool) (i : Nat) (h : i < (runs n S E).length) :
    (runs n S E)[i].1 ≤ (runs n S E)[i].2 ∧ (runs n S E)[i].2 < n ∧ (∃ u, (runs n S E)[i].1 ≤ u ∧ u ≤ (runs n S E)[i].2 ∧ S u = true) ∧
      ∀ j (hj : j < (runs n S E).length), j < i → (runs n S E)[j].2 + 1 < (runs n S E)[i].1 := by
  have hsep := (inv_all n S E n (Nat.le_refl _)).sep
  unfold runs at h ⊢
  simp only [List.length_reverse] at h
  simp only [List.getElem_reverse, List.length_reverse]
  have g := sep_get n S _ hsep ((runsR n (scan n S E n).2).length - 1 - i) (by omega)
  refine ⟨g.1, g.2.1, g.2.2.1, ?_⟩
  intro j hj hij
  exact g.2.2.2 _ (by omega) (by omega)

theorem runs_cov (n : Nat) (S E : Nat → Bool) (t : Nat) (ht : t < n) (hS : S t = true) : ∃ i, ∃ h : i < (runs n S E).length, (runs n S E)[i].1 ≤ t ∧ t ≤ (runs n S E)[i].2 := by
  rcases (inv_all n S E n (Nat.le_refl _)).cov t ht hS with ⟨r, hr, a, b⟩ | ⟨s, hs, _⟩
  · have : r ∈ runs n S E := by unfold runs; simpa using hr
    obtain ⟨i, h, rfl⟩ := List.getElem_of_mem this
    exact ⟨i, h, a, b⟩
  · rw [scan_end] at hs; cases hs

theorem runs_reg (n : Nat) (S E : Nat → Bool) (t : Nat) : (∃ i, ∃ h : i < (runs n S E).length, (runs n S E)[i].1 ≤ t ∧ t ≤ (runs n S E)[i].2) ↔ ∃ r ∈ (scan n S E n).2, r.1 - 5 ≤ t ∧ t ≤ hi n r.2 := by
  rw [← (inv_all n S E n (Nat.le_refl _)).reg t]
  constructor
  · rintro ⟨i, h, a, b⟩
    exact ⟨(runs n S E)[i], by have := List.getElem_mem h; unfold runs at this ⊢; simpa using this, a, b⟩
  · rintro ⟨r, hr, a, b⟩
    have : r ∈ runs n S E := by unfold runs; simpa using hr
    obtain ⟨i, h, rfl⟩ := List.getElem_of_mem this
    exact ⟨i, h, a, b⟩
end Go.Proofs.Qxb6602367a.Exc
