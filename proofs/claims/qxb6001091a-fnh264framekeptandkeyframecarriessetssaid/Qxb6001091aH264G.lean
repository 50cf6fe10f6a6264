/- withParameterSets: the walk. -/
import Derived.Test.Qxb6001091aH264F
import Derived.Deep.RegionWith
namespace Go.Proofs.Qxb6001091a.H264
open Go.RowKit
open Go.Proofs.Qxb6001091a.Bits (Bytes Touch IsBool num_eq info5)

theorem nal5_box {w : World} {N t : Nat} {v u : Value} {X : Nat → Value} (h : Nal5 w v t) (box : w.rowIs N 56 3 X) (i : Nat) : Nal5 (w.setCell ⟨N, i, none⟩ u) v t := by
  obtain ⟨base, n, D, h1, h2, h3, h4, h5⟩ := h
  refine ⟨base, n, D, h1, h2, h3, h4, h5.kept (row := some N) ?_ ?_⟩
  · exact ⟨by first | rfl | simp, by first | rfl | simp, by first | rfl | simp, by simp, fun k hk hne => Below.heap_setCell _ _ _ _ (by intro e; exact hne (by rw [e]))⟩
  · rcases h5.2 with ⟨rfl, _⟩ | ⟨g, cap, cur, rfl, _, hg, _⟩
    · exact .inl rfl
    · refine .inr (fun e => ?_)
      simp only [Value.ownBlock, Option.some.injEq] at e
      subst e
      obtain ⟨c, hc, _⟩ := box
      rw [hg] at hc
      simp at hc
theorem own_box {w : World} {N n : Nat} {v u : Value} {xs : List Value} (h : w.ownsRow (N + 1) 23 1 v n xs) (i : Nat) : (w.setCell ⟨N, i, none⟩ u).ownsRow (N + 1) 23 1 v n xs := by
  refine h.kept (row := some N) ⟨by first | rfl | simp, by first | rfl | simp, by first | rfl | simp, by simp, fun k hk hne => Below.heap_setCell _ _ _ _ (by intro e; exact hne (by rw [e]))⟩ ?_
  cases e : v.ownBlock
  · exact .inl rfl
  · refine .inr (fun e' => ?_)
    have := (h.lt _ (e.trans e')).1
    omega
theorem st_store {w0 wr : World} {N k i : Nat} {X : Nat → Value} {T : Nat → Nat} {s t v : Value} (h : St w0 wr N X T k s t) : St w0 (wr.setCell ⟨N, i, none⟩ v) N (upd X i v) T k s t := by
  obtain ⟨p, q, xs, ys, e1, e2, e3, e4, e5, e6, e7, e8, e9⟩ := h.ex
  refine ⟨h.bel.setCell (Nat.le_refl _) _, (h.box.set i v).congr (fun j _ => by unfold upd; rfl), p, q, xs, ys, e1, e2, own_box e3 i, own_box e4 i, e5, fun u hu => nal5_box (e6 u hu) h.box i, fun u hu => nal5_box (e7 u hu) h.box i, e8, e9⟩
theorem own_shape {w : World} {b e n : Nat} {v : Value} {xs : List Value} (h : w.ownsRow b e 1 v n xs) : ∃ a c, v = .slice a n c := by
  rcases h.2 with ⟨rfl, rfl⟩ | ⟨g, cap, cur, rfl, _⟩
  · exact ⟨none, 0, rfl⟩
  · exact ⟨_, _, rfl⟩
theorem one_new (w : World) (x : Value) : ∀ j u, [x][j]? = some u → (w.alloc (.cells #[x] 23)).cell? ((⟨w.heap.size, 0, none⟩ : Addr).add j) = some u := by
  intro j u hj
  match j, hj with
  | 0, hj => simp at hj; subst hj; simp [Addr.add, go_sem]
theorem nal_one {w : World} {v : Value} {t : Nat} (h : Nal w v t) : v.oneCell' = true := by
  obtain ⟨a, n, c, D, rfl, _⟩ := h
  rfl
theorem one_one {w : World} {v : Value} {t : Nat} (h : Nal5 w v t) : ∀ u ∈ [v], u.oneCell' = true := by
  intro u hu
  rw [List.mem_singleton.1 hu]
  exact nal_one h.nal

theorem nal5_shape {w : World} {v : Value} {t : Nat} (h : Nal5 w v t) : ∃ a l c, v = .slice a l c := by
  obtain ⟨base, n, D, h1, h2, h3, h4, h5⟩ := h
  obtain ⟨a, c, rfl⟩ := own_shape h5
  exact ⟨a, n, c, rfl⟩

/-- after the two stores -/
def Stored (w0 w' : World) (N : Nat) (S0 P0 : Value) (T : Nat → Nat) (n : Nat) (s t : Value) : Prop :=
  ∃ X, X 1 = S0 ∧ X 2 = P0 ∧ St w0 w' N X T n s t

/-- parameter sets held: m of them, each of type t -/
def Sets (w : World) (v : Value) (t : Nat) (m : Nat) : Prop :=
  ∃ xs, Src w v m xs ∧ m ≤ 65536 ∧ (∀ u ∈ xs, Nal w u t)

/-- what withParameterSets gives -/
structure Outs (w0 w' : World) (n : Nat) (V : Nat → Value) (T : Nat → Nat) (m7 m8 : Nat) (oa : Option Addr) (on : Nat) (O : Nat → Value) (z sN pN : Nat) : Prop where
  bel : Below w0.heap.size w0 w'
  row : VRow w' oa on O
  le : z ≤ n
  nine : ∀ j, j < z → T j = 9
  stop : z < n → T z ≠ 9
  num : on = n + (sN + pN)
  sle : sN ≤ 65536
  ple : pN ≤ 65536
  why : sN + pN ≠ 0 → anyT T 5 n = true ∧ (anyT T 7 n && anyT T 8 n) = false
  fst : ∀ j, j < z → O j = V j
  lst : ∀ j, z ≤ j → j < n → O (j + (sN + pN)) = V j
  sps : ∀ j, j < sN → Nal w' (O (z + j)) 7
  pps : ∀ j, j < pN → Nal w' (O (z + sN + j)) 8
  has7 : anyT T 5 n = true → (anyT T 7 n = true ∨ m7 ≠ 0) → anyT T 7 n = true ∨ sN ≠ 0
  has8 : anyT T 5 n = true → (anyT T 8 n = true ∨ m8 ≠ 0) → anyT T 8 n = true ∨ pN ≠ 0

theorem lead_at (T : Nat → Nat) : ∀ n, ∃ z, z ≤ n ∧ (∀ j, j < z → T j = 9) ∧ (z < n → T z ≠ 9)
  | 0 => ⟨0, by omega, fun j h => by omega, fun h => by omega⟩
  | n + 1 => by
    obtain ⟨z, h1, h2, h3⟩ := lead_at T n
    by_cases e : z < n
    · exact ⟨z, by omega, h2, fun _ => h3 e⟩
    · obtain rfl : z = n := by omega
      by_cases h9 : T z = 9
      · exact ⟨z + 1, by omega, fun j hj => by by_cases ej : j = z; (subst ej; exact h9); exact h2 j (by omega), fun h => by omega⟩
      · exact ⟨z, by omega, h2, fun _ => h9⟩

theorem outs_same {w0 wr : World} {n m7 m8 : Nat} {V : Nat → Value} {T : Nat → Nat} {a : Option Addr} (bel : Below w0.heap.size w0 wr) (h : VRow w0 a n V) (hb : (!anyT T 5 n || (anyT T 7 n && anyT T 8 n)) = true) :
    ∃ O z sN pN, Outs w0 wr n V T m7 m8 a n O z sN pN := by
  obtain ⟨z, h1, h2, h3⟩ := lead_at T n
  refine ⟨V, z, 0, 0, bel, h.mono bel, h1, h2, h3, by omega, by omega, by omega, fun h => absurd rfl h, fun j _ => rfl, fun j _ _ => rfl, fun j h => by omega, fun j h => by omega, fun h5 _ => ?_, fun h5 _ => ?_⟩
  · rw [h5] at hb; simp at hb; exact .inl hb.1
  · rw [h5] at hb; simp at hb; exact .inl hb.2

theorem Src.mono {w w' : World} {v : Value} {m : Nat} {xs : List Value} (h : Src w v m xs) (hb : Below w.heap.size w w') : Src w' v m xs := by
  rcases h with h | ⟨ad, c, h1, h2, h3, h4⟩
  · exact .inl h
  · refine .inr ⟨ad, c, h1, h2, fun h => Nat.lt_of_lt_of_le (h3 h) hb.size, fun j u hj => ?_⟩
    rw [hb.cell (p := ad.add j) (by have := h3 (by rintro e; rw [e] at hj; simp at hj); simp only [Addr.add]; split <;> exact this)]
    exact h4 j u hj
theorem Src.len {w : World} {v : Value} {m : Nat} {xs : List Value} (h : Src w v m xs) : xs.length = m := by
  rcases h with ⟨_, rfl, rfl⟩ | ⟨ad, c, h1, h2, h3, h4⟩
  · rfl
  · exact h2
theorem own_src {w : World} {b n : Nat} {v : Value} {xs : List Value} (h : w.ownsRow b 23 1 v n xs) : Src w v n xs := by
  have h1 := h.1
  have hl := h.lt
  have hc := fun g => h.cells (g := g)
  rcases h.2 with ⟨rfl, rfl⟩ | ⟨g, cap, cur, rfl, _⟩
  · refine .inl ⟨rfl, rfl, List.eq_nil_of_length_eq_zero (by omega)⟩
  · exact .inr ⟨⟨g, 0, none⟩, cap, rfl, by omega, fun _ => (hl g rfl).2, hc g rfl⟩
theorem sets_of {w0 wr : World} {N k n m p t : Nat} {T : Nat → Nat} {v s S0 : Value} {xs : List Value} (bel : Below w0.heap.size w0 wr) (hx : v = if anyT T t n then s else S0) (hown : wr.ownsRow N 23 1 s p xs) (hnal : ∀ u ∈ xs, Nal5 wr u t) (hp : p ≠ 0 ↔ anyT T t n = true) (hk : p ≤ k) (hk2 : k ≤ 65536) (h0 : Sets w0 S0 t m) :
    ∃ q ys, Src wr v q ys ∧ q ≤ 65536 ∧ (∀ u ∈ ys, Nal wr u t) ∧ (anyT T t n = true ∨ m ≠ 0 → q ≠ 0) := by
  cases ha : anyT T t n
  · obtain ⟨ys, s1, s2, s3⟩ := h0
    rw [ha] at hx
    subst hx
    exact ⟨m, ys, s1.mono bel, s2, fun u hu => (s3 u hu).mono bel, fun h => by rcases h with h | h; (cases h); exact h⟩
  · rw [ha] at hx
    subst hx
    exact ⟨p, xs, own_src hown, by omega, fun u hu => (hnal u hu).nal, fun _ => hp.2 ha⟩
theorem ready {w0 wr : World} {n m7 m8 : Nat} {X X2 : Nat → Value} {T : Nat → Nat} {s t : Value} (h : St w0 wr w0.heap.size X2 T n s t) (h78 : Sets w0 (X 1) 7 m7 ∧ Sets w0 (X 2) 8 m8) (x1 : X2 1 = if anyT T 7 n then s else X 1) (x2 : X2 2 = if anyT T 8 n then t else X 2) (hn : n ≤ 65536) :
    ∃ sN xs pN ys, Src wr (X2 1) sN xs ∧ sN ≤ 65536 ∧ (∀ u ∈ xs, Nal wr u 7) ∧ (anyT T 7 n = true ∨ m7 ≠ 0 → sN ≠ 0) ∧ Src wr (X2 2) pN ys ∧ pN ≤ 65536 ∧ (∀ u ∈ ys, Nal wr u 8) ∧ (anyT T 8 n = true ∨ m8 ≠ 0 → pN ≠ 0) := by
  obtain ⟨p, q, xs, ys, e1, e2, e3, e4, e5, e6, e7, e8, e9⟩ := h.ex
  obtain ⟨sN, xs', a1, a2, a3, a4⟩ := sets_of h.bel x1 e3 e6 e8 e1 hn h78.1
  obtain ⟨pN, ys', b1, b2, b3, b4⟩ := sets_of h.bel x2 e4 e7 e9 e2 hn h78.2
  exact ⟨sN, xs', pN, ys', a1, a2, a3, a4, b1, b2, b3, b4⟩

/-- the four joined -/
def outL (V : Nat → Value) (z k : Nat) (xs ys : List Value) : List Value := (List.range z).map V ++ xs ++ ys ++ (List.range (k - z)).map (fun i => V (z + i))
def pick4 {α : Type} (a b c d : α) : Nat → α
  | 0 => a
  | 1 => b
  | 2 => c
  | _ => d
theorem run_src {w : World} {b off z c : Nat} {V : Nat → Value} {a : Option Addr} (ha : a = some ⟨b, off, none⟩) (hb : b < w.heap.size) (hc : ∀ i, i < z → w.cell? ⟨b, off + i, none⟩ = some (V i)) : Src w (.slice a z c) z ((List.range z).map V) := by
  subst ha
  refine .inr ⟨_, c, rfl, by simp, fun _ => hb, fun j u hj => ?_⟩
  have hlt : j < z := by
    have := (List.getElem?_eq_some_iff.1 hj).1
    simpa using this
  simp [hlt] at hj
  subst hj
  have e : (⟨b, off, none⟩ : Addr).add j = ⟨b, off + j, none⟩ := by simp [Addr.add]
  rw [e]
  exact hc j hlt
theorem src_if {w : World} {b off z k c : Nat} {V : Nat → Value} (hb : b < w.heap.size) (hkc : k ≤ c) (hc : ∀ i, i < k → w.cell? ⟨b, off + i, none⟩ = some (V i)) :
    Src w (.slice (if c = z then some ⟨b, off, none⟩ else some ⟨b, off + z, none⟩) (k - z) (c - z)) (k - z) ((List.range (k - z)).map (fun i => V (z + i))) := by
  by_cases e : c = z
  · rw [if_pos e]
    have : k - z = 0 := by omega
    rw [this]
    exact run_src rfl hb (fun i hi => by omega)
  · rw [if_neg e]
    exact run_src (V := fun i => V (z + i)) rfl hb (fun i hi => by rw [Nat.add_assoc]; exact hc (z + i) (by omega))
theorem concat4 (wc : World) (V : Nat → Value) (z k : Nat) (v0 v1 v2 v3 : Value) (sN pN : Nat) (xs ys : List Value) {T : Nat → Nat} {m7 m8 : Nat} (hz : z ≤ k) (hk : k ≤ 65536)
    (hv0 : Src wc v0 z ((List.range z).map V)) (hv3 : Src wc v3 (k - z) ((List.range (k - z)).map (fun i => V (z + i)))) (hc : ∀ i, i < k → (V i).oneCell' = true)
    (hr : Src wc v1 sN xs ∧ sN ≤ 65536 ∧ (∀ u ∈ xs, Nal wc u 7) ∧ (anyT T 7 k = true ∨ m7 ≠ 0 → sN ≠ 0) ∧ Src wc v2 pN ys ∧ pN ≤ 65536 ∧ (∀ u ∈ ys, Nal wc u 8) ∧ (anyT T 8 k = true ∨ m8 ≠ 0 → pN ≠ 0)) :
    Calls Try.prog 41 #[.slice (some ⟨wc.heap.size, 0, none⟩) 4 4] (wc.alloc (.cells #[v0, v1, v2, v3] 34)).drew fun e w' =>
      ∃ v, e = .returned v ∧ w'.ownsRow (wc.heap.size + 1) 23 1 v (k + (sN + pN)) (outL V z k xs ys) ∧ Below wc.heap.size wc w' := by
  obtain ⟨r1, r2, r3, _, r5, r6, r7, _⟩ := hr
  obtain ⟨w1, hw1⟩ : ∃ w1, w1 = (wc.alloc (.cells #[v0, v1, v2, v3] 34)).drew := ⟨_, rfl⟩
  rw [← hw1]
  have hB : Below wc.heap.size wc w1 := by rw [hw1]; exact ((Below.refl _ _).alloc (Nat.le_refl _) _).drew
  have hsz : w1.heap.size = wc.heap.size + 1 := by rw [hw1]; simp
  have s0 := hv0.mono hB
  have s3 := hv3.mono hB
  have hcl : ∀ i, i < 4 → w1.cell? ⟨wc.heap.size, i, none⟩ = some (pick4 v0 v1 v2 v3 i) := by
    intro i hi
    rw [hw1]
    match i, hi with
    | 0, _ => simp [go_sem, pick4]
    | 1, _ => simp [go_sem, pick4]
    | 2, _ => simp [go_sem, pick4]
    | 3, _ => simp [go_sem, pick4]
  have hsr : ∀ i, i < 4 → Src w1 (pick4 v0 v1 v2 v3 i) (pick4 z sN pN (k - z) i) (pick4 ((List.range z).map V) xs ys ((List.range (k - z)).map (fun i => V (z + i))) i) := by
    intro i hi
    match i, hi with
    | 0, _ => exact s0
    | 1, _ => exact r1.mono hB
    | 2, _ => exact r5.mono hB
    | 3, _ => exact s3
  have hon : ∀ i, i < 4 → ∀ u ∈ pick4 ((List.range z).map V) xs ys ((List.range (k - z)).map (fun i => V (z + i))) i, u.oneCell' = true := by
    intro i hi u hu
    match i, hi with
    | 0, _ =>
      obtain ⟨j, hj, rfl⟩ := List.mem_map.1 hu
      exact hc j (by have := List.mem_range.1 hj; omega)
    | 1, _ => exact nal_one (r3 u hu)
    | 2, _ => exact nal_one (r7 u hu)
    | 3, _ =>
      obtain ⟨j, hj, rfl⟩ := List.mem_map.1 hu
      exact hc (z + j) (by have := List.mem_range.1 hj; omega)
  have hsum : sumTo (pick4 z sN pN (k - z)) 4 = k + (sN + pN) := by
    simp only [sumTo, pick4]; omega
  have hcat : cat (pick4 ((List.range z).map V) xs ys ((List.range (k - z)).map (fun i => V (z + i)))) 4 = outL V z k xs ys := by
    simp [cat, pick4, outL]
  refine (concat41 wc.heap.size 4 (pick4 v0 v1 v2 v3) (pick4 z sN pN (k - z)) _ w1 (by omega) hcl hsr hon (by omega)).mono ?_
  rintro e w' ⟨v, rfl, hown, hbel⟩
  rw [hsum, hcat, hsz] at hown
  exact ⟨v, rfl, hown, hB.trans (hbel.mono (by omega))⟩

theorem outs_joined {w0 wc w' : World} {n sN pN z m7 m8 : Nat} {V : Nat → Value} {T : Nat → Nat} {v : Value} {xs ys : List Value} (bel : Below w0.heap.size w0 wc) (bel' : Below wc.heap.size wc w') (hown : w'.ownsRow (wc.heap.size + 1) 23 1 v (n + (sN + pN)) (outL V z n xs ys))
    (hb : (!anyT T 5 n || (anyT T 7 n && anyT T 8 n)) = false) (hz : z ≤ n) (h9 : ∀ j, j < z → T j = 9) (hst : z < n → T z ≠ 9) (lx : xs.length = sN) (ly : ys.length = pN)
    (hr : sN ≤ 65536 ∧ (∀ u ∈ xs, Nal wc u 7) ∧ (anyT T 7 n = true ∨ m7 ≠ 0 → sN ≠ 0) ∧ pN ≤ 65536 ∧ (∀ u ∈ ys, Nal wc u 8) ∧ (anyT T 8 n = true ∨ m8 ≠ 0 → pN ≠ 0)) :
    ∃ oa on oc, Ending.returned v = .returned (.slice oa on oc) ∧ ∃ O z sN pN, Outs w0 w' n V T m7 m8 oa on O z sN pN := by
  obtain ⟨oa, oc, rfl⟩ := own_shape hown
  obtain ⟨h1, h2, h3, h4, h5, h6⟩ := hr
  have hB : Below w0.heap.size w0 w' := bel.trans (bel'.mono bel.size)
  refine ⟨oa, _, oc, rfl, fun j => ((outL V z n xs ys)[j]?).getD undef, z, sN, pN, hB, ?_, hz, h9, hst, rfl, h1, h4, ?_, ?_, ?_, ?_, ?_, fun _ h => .inr (h3 h), fun _ h => .inr (h6 h)⟩
  · rcases hown.2 with ⟨_, h0⟩ | ⟨g, cap, cur, he, _⟩
    · exact .inl h0
    · cases he
      refine .inr ⟨g, 0, rfl, (hown.lt g rfl).2, fun i hi => ?_⟩
      rw [Nat.zero_add, hown.cellAt i (by omega)]
      have hl := hown.1
      have hli : i < (outL V z n xs ys).length := by omega
      show _ = some (((outL V z n xs ys)[i]?).getD undef)
      rw [List.getElem?_eq_getElem hli]
      rfl
  · intro _
    revert hb
    cases anyT T 5 n <;> simp
  · intro j hj
    simp [outL, List.getElem?_append, hj]
  · intro j hj hjn
    simp only [outL, List.getElem?_append, List.length_append, List.length_map, List.length_range, lx, ly]
    rw [if_neg (by omega)]
    have : j + (sN + pN) - (z + sN + pN) = j - z := by omega
    rw [this]
    simp [show j - z < n - z by omega]
    congr 1
    omega
  · intro j hj
    simp only [outL, List.getElem?_append, List.length_append, List.length_map, List.length_range, lx, ly]
    rw [if_pos (by omega), if_pos (by omega), if_neg (by omega)]
    have : z + j - z = j := by omega
    rw [this, List.getElem?_eq_getElem (by omega)]
    exact (h2 _ (List.getElem_mem _)).mono bel'
  · intro j hj
    simp only [outL, List.getElem?_append, List.length_append, List.length_map, List.length_range, lx, ly]
    rw [if_pos (by omega), if_neg (by omega)]
    have : z + sN + j - (z + sN) = j := by omega
    rw [this, List.getElem?_eq_getElem (by omega)]
    exact (h5 _ (List.getElem_mem _)).mono bel'

set_option maxHeartbeats 4000000 in
theorem with36 (w0 w : World) (X : Nat → Value) (a : Option Addr) (n c : Nat) (V : Nat → Value) (T : Nat → Nat) (hn : n ≤ 65536) (hcapE : c = n) (bel : Below w0.heap.size w0 w) (box : w.rowIs w0.heap.size 56 3 X) (h : VRow w0 a n V) (hN : ∀ i, i < n → Nal w0 (V i) (T i)) (m7 m8 : Nat) (hs7 : Sets w0 (X 1) 7 m7) (hs8 : Sets w0 (X 2) 8 m8) :
    Calls Try.prog 36 #[.pointer (some ⟨w0.heap.size, 0, none⟩), .slice a n c] w fun e w' => ∃ oa on oc, e = .returned (.slice oa on oc) ∧ ∃ O z sN pN, Outs w0 w' n V T m7 m8 oa on O z sN pN := by
  have H78 : Hid (Sets w0 (X 1) 7 m7 ∧ Sets w0 (X 2) 8 m8) := ⟨hs7, hs8⟩
  clear hs7 hs8
  have hcap : n ≤ c := by omega
  have HC : Hid (c = n) := hcapE
  clear hcapE
  obtain ⟨i0, hi0, hz0, hz1, hz2⟩ := info_parts info23
  have HN : Hid (∀ i, i < n → Nal w0 (V i) (T i)) := hN
  have HV : Hid (VRow w0 a n V) := h
  have H0 : Hid (St w0 w w0.heap.size X T 0 (.slice none 0 0) (.slice none 0 0)) := st_start bel box
  clear hN h
  go_enter Try.func36, Try.ntmps36
  go_wp2
  go_loopw [5, 6, 7, 13] (fun s t r i wr => ∃ k : Nat, k ≤ n ∧ i = .int .i64 (k : Nat) ∧ r = .bool (anyT T 5 k) ∧ St w0 wr w0.heap.size X T k s t) (fun _ _ _ i _ => n - (intOf i).toNat)
  case atStart => exact ⟨0, by omega, rfl, rfl, H0.out⟩
  case round =>
    obtain ⟨k, hk, rfl, rfl, hst⟩ := hrel
    clear H0 bel box
    by_cases hlt : k < n
    · rcases HV.out with h | ⟨b, off, rfl, hb, hc⟩
      · omega
      have hcell : wr.cell? ⟨b, off + k, none⟩ = some (V k) := by rw [hst.bel.cell (p := ⟨b, off + k, none⟩) hb]; exact hc k hlt
      have hnal := (HN.out k hlt).mono hst.bel
      have hnal0 := hnal
      obtain ⟨ua, ul, uc, D, hve, u1, u2, u3, u4, u5⟩ := hnal0
      rcases u4 with u4 | ⟨ub, uo, rfl, hub, huc⟩
      · omega
      have hd := huc 0 (by omega)
      rw [Nat.add_zero] at hd
      have hpos : 0 < ul := by omega
      have hd3 := u3 0
      rw [hve] at hcell hnal
      have HS : Hid (∀ q, anyT T q (k + 1) = (anyT T q k || T k == q)) := fun _ => rfl
      clear hc huc u3 hve u1
      generalize D 0 = d at hd u5 hd3
      have HT : Hid (d % 32 = T k) := u5
      clear u5
      by_cases m7 : d % 32 = 7
      · have e7 : ((d : Int) % 32 == 7) = true := by simp; omega
        have HT7 : Hid (T k = 7) := by have := HT.out; show T k = 7; omega
        rw [HT7.out] at hnal
        go_wp2_with fail
        refine (clone40' hnal).mono ?_
        rintro e w2 ⟨x, rfl, hx, hcl⟩
        obtain ⟨xa, xl, xc, rfl⟩ := nal5_shape hx
        obtain ⟨p, q, xs, ys, hex⟩ := hst.ex
        have HE : Hid (p ≤ k ∧ q ≤ k ∧ wr.ownsRow (w0.heap.size + 1) 23 1 u5 p xs ∧ wr.ownsRow (w0.heap.size + 1) 23 1 u6 q ys ∧ (u5.ownBlock = none ∨ u5.ownBlock ≠ u6.ownBlock) ∧ (∀ u ∈ xs, Nal5 wr u 7) ∧ (∀ u ∈ ys, Nal5 wr u 8) ∧
    (p ≠ 0 ↔ anyT T 7 k = true) ∧ (q ≠ 0 ↔ anyT T 8 k = true)) := hex
        have hp := hex.1
        have hown := own_below hex.2.2.1 hcl
        have hsz : w0.heap.size + 1 ≤ w2.heap.size := by have := hst.box.lt; have := hcl.size; omega
        clear hex
        go_wp2_with (at_builtin; refine wpList_append_own_at _ rfl _ _ 34 rfl (w0.heap.size + 1) 23 i0 (.slice none 0 0) 1 24 Try.underlying34 hi0 hz0 hz1 hz2 rfl (by decide) _ _ _ rfl (hown.alloc _) ⟨w2.heap.size, 0, none⟩ 1 1 [.slice xa xl xc] rfl rfl ?c1 ?c2 ?c3 ?c4 ?c5 ?_)
        case c1 => exact one_new _ _
        case c2 => exact one_one hx
        case c3 => unfold maxLen; omega
        case c4 => omega
        case c5 => simp; omega
        · intro v' w1 hown' hgrow _ hblk
          have R := st_seven hst HT7.out HE.out hcl hx hown' hgrow (by simpa using hblk)
          have HR : Hid (St w0 w1 w0.heap.size X T (k + 1) v' u6) := R
          clear R HE hst hown' hgrow hblk hx hown
          go_wp2_with fail
          go_roundw
          case rel => exact ⟨k + 1, by omega, by go_num, by rw [HS.out, HT7.out]; simp, HR.out⟩
          case measure => simp [intOf]; omega
      · have e7 : ((d : Int) % 32 == 7) = false := by simp; omega
        by_cases m8 : d % 32 = 8
        · have e8 : ((d : Int) % 32 == 8) = true := by simp; omega
          have HT8 : Hid (T k = 8) := by have := HT.out; show T k = 8; omega
          rw [HT8.out] at hnal
          go_wp2_with fail
          refine (clone40' hnal).mono ?_
          rintro e w2 ⟨x, rfl, hx, hcl⟩
          obtain ⟨xa, xl, xc, rfl⟩ := nal5_shape hx
          obtain ⟨p, q, xs, ys, hex⟩ := hst.ex
          have HE : Hid (p ≤ k ∧ q ≤ k ∧ wr.ownsRow (w0.heap.size + 1) 23 1 u5 p xs ∧ wr.ownsRow (w0.heap.size + 1) 23 1 u6 q ys ∧ (u5.ownBlock = none ∨ u5.ownBlock ≠ u6.ownBlock) ∧ (∀ u ∈ xs, Nal5 wr u 7) ∧ (∀ u ∈ ys, Nal5 wr u 8) ∧
    (p ≠ 0 ↔ anyT T 7 k = true) ∧ (q ≠ 0 ↔ anyT T 8 k = true)) := hex
          have hp := hex.2.1
          have hown := own_below hex.2.2.2.1 hcl
          have hsz : w0.heap.size + 1 ≤ w2.heap.size := by have := hst.box.lt; have := hcl.size; omega
          clear hex
          go_wp2_with (at_builtin; refine wpList_append_own_at _ rfl _ _ 34 rfl (w0.heap.size + 1) 23 i0 (.slice none 0 0) 1 24 Try.underlying34 hi0 hz0 hz1 hz2 rfl (by decide) _ _ _ rfl (hown.alloc _) ⟨w2.heap.size, 0, none⟩ 1 1 [.slice xa xl xc] rfl rfl ?c1 ?c2 ?c3 ?c4 ?c5 ?_)
          case c1 => exact one_new _ _
          case c2 => exact one_one hx
          case c3 => unfold maxLen; omega
          case c4 => omega
          case c5 => simp; omega
          · intro v' w1 hown' hgrow _ hblk
            have R := st_eight hst HT8.out HE.out hcl hx hown' hgrow (by simpa using hblk)
            have HR : Hid (St w0 w1 w0.heap.size X T (k + 1) u5 v') := R
            clear R HE hst hown' hgrow hblk hx hown
            go_wp2_with fail
            go_roundw
            case rel => exact ⟨k + 1, by omega, by go_num, by rw [HS.out, HT8.out]; simp, HR.out⟩
            case measure => simp [intOf]; omega
        · have e8 : ((d : Int) % 32 == 8) = false := by simp; omega
          have HR : Hid (St w0 wr w0.heap.size X T (k + 1) u5 u6) := st_skip hst (by have := HT.out; omega) (by have := HT.out; omega)
          by_cases m5 : d % 32 = 5
          · have e5 : ((d : Int) % 32 == 5) = true := by simp; omega
            have HT5 : Hid (T k = 5) := by have := HT.out; show T k = 5; omega
            clear hst hnal
            go_wp2_with fail
            go_roundw
            case rel => exact ⟨k + 1, by omega, by go_num, by rw [HS.out, HT5.out]; simp, HR.out⟩
            case measure => simp [intOf]; omega
          · have e5 : ((d : Int) % 32 == 5) = false := by simp; omega
            have HT5 : Hid ((T k == 5) = false) := by have := HT.out; show (T k == 5) = false; simp; omega
            clear hst hnal
            go_wp2_with fail
            go_roundw
            case rel => exact ⟨k + 1, by omega, by go_num, by rw [HS.out, HT5.out, Bool.or_false], HR.out⟩
            case measure => simp [intOf]; omega
    · obtain rfl : k = n := by omega
      obtain ⟨p, q, xs, ys, hex⟩ := hst.ex
      obtain ⟨sa, sc, rfl⟩ := own_shape hex.2.2.1
      obtain ⟨ta, tc, rfl⟩ := own_shape hex.2.2.2.1
      have hp7 : (0 < p) ↔ anyT T 7 k = true := by rw [← hex.2.2.2.2.2.2.2.1]; omega
      have hq8 : (0 < q) ↔ anyT T 8 k = true := by rw [← hex.2.2.2.2.2.2.2.2]; omega
      have hpk := hex.1
      have hqk := hex.2.1
      have HP7 : Hid ((0 < p) ↔ anyT T 7 k = true) := hp7
      have HQ8 : Hid ((0 < q) ↔ anyT T 8 k = true) := hq8
      clear hex hp7 hq8 hlt hk
      go_upto_if 40 with fail
      go_cut [] from 41 to 44 (fun w' => Stored w0 w' w0.heap.size (if anyT T 7 k then .slice sa p sc else X 1) (X 2) T k (.slice sa p sc) (.slice ta q tc))
      case first =>
        have R1 := st_store (i := 1) (v := .slice sa p sc) hst
        have HR : Hid (St w0 wr w0.heap.size X T k (.slice sa p sc) (.slice ta q tc) ∧ St w0 (wr.setCell ⟨w0.heap.size, 1, none⟩ (.slice sa p sc)) w0.heap.size (upd X 1 (.slice sa p sc)) T k (.slice sa p sc) (.slice ta q tc)) := ⟨hst, R1⟩
        have hb1 := hst.box.cell (i := 1) (by omega)
        have hf1 := hst.box.frozen 1
        clear R1 hst
        by_cases hp : 0 < p
        · have HPT : Hid (anyT T 7 k = true) := HP7.out.1 hp
          go_wp2_with fail
          go_meet
          case rel => exact ⟨upd X 1 (.slice sa p sc), by rw [HPT.out]; rfl, rfl, HR.out.2⟩
        · have HPT : Hid (anyT T 7 k = false) := by show anyT T 7 k = false; rw [Bool.eq_false_iff]; intro e; exact hp (HP7.out.2 e)
          go_wp2_with fail
          go_meet
          case rel => exact ⟨_, by rw [HPT.out]; rfl, rfl, HR.out.1⟩
      case rest =>
        clear hst
        obtain ⟨X1, x11, x12, hst⟩ := hcut
        go_upto_if 47 with fail
        go_cut [] from 48 to 51 (fun w' => Stored w0 w' w0.heap.size (if anyT T 7 k then .slice sa p sc else X 1) (if anyT T 8 k then .slice ta q tc else X 2) T k (.slice sa p sc) (.slice ta q tc))
        case first =>
          have R1 := st_store (i := 2) (v := .slice ta q tc) hst
          have HR : Hid (St w0 wc w0.heap.size X1 T k (.slice sa p sc) (.slice ta q tc) ∧ St w0 (wc.setCell ⟨w0.heap.size, 2, none⟩ (.slice ta q tc)) w0.heap.size (upd X1 2 (.slice ta q tc)) T k (.slice sa p sc) (.slice ta q tc)) := ⟨hst, R1⟩
          have HX : Hid (X1 1 = (if anyT T 7 k then .slice sa p sc else X 1) ∧ X1 2 = X 2) := ⟨x11, x12⟩
          have hb1 := hst.box.cell (i := 2) (by omega)
          have hf1 := hst.box.frozen 2
          clear R1 hst x11 x12
          by_cases hq : 0 < q
          · have HPT : Hid (anyT T 8 k = true) := HQ8.out.1 hq
            go_wp2_with fail
            go_meet
            case rel => exact ⟨upd X1 2 (.slice ta q tc), HX.out.1, by rw [HPT.out]; rfl, HR.out.2⟩
          · have HPT : Hid (anyT T 8 k = false) := by show anyT T 8 k = false; rw [Bool.eq_false_iff]; intro e; exact hq (HQ8.out.2 e)
            go_wp2_with fail
            go_meet
            case rel => exact ⟨_, HX.out.1, by rw [HPT.out]; exact HX.out.2, HR.out.1⟩
        case rest =>
          clear hst x11 x12
          obtain ⟨X2, x21, x22, hst⟩ := hcut
          go_upto_region 18 with fail
          go_cut [7, 63] from 52 to 63 (fun r v w' => r = .bool (anyT T 5 k) ∧ v = .bool (!anyT T 5 k || (anyT T 7 k && anyT T 8 k)) ∧ wc = w')
          case first =>
            clear hst x21 x22
            cases h5 : anyT T 5 k
            · go_wp2_with fail
              go_meet
              case rel => exact ⟨by rw [h5], by rw [h5]; rfl, rfl⟩
            · by_cases hp : 0 < p
              · have HPT : Hid (anyT T 7 k = true) := HP7.out.1 hp
                by_cases hq : 0 < q
                · have HQT : Hid (anyT T 8 k = true) := HQ8.out.1 hq
                  go_wp2_with fail
                  go_meet
                  case rel => exact ⟨by rw [h5], by rw [h5, HPT.out, HQT.out]; rfl, rfl⟩
                · have HQT : Hid (anyT T 8 k = false) := by show anyT T 8 k = false; rw [Bool.eq_false_iff]; intro e; exact hq (HQ8.out.2 e)
                  go_wp2_with fail
                  go_meet
                  case rel => exact ⟨by rw [h5], by rw [h5, HPT.out, HQT.out]; rfl, rfl⟩
              · have HPT : Hid (anyT T 7 k = false) := by show anyT T 7 k = false; rw [Bool.eq_false_iff]; intro e; exact hp (HP7.out.2 e)
                go_wp2_with fail
                go_meet
                case rel => exact ⟨by rw [h5], by rw [h5, HPT.out]; rfl, rfl⟩
          case rest =>
            obtain ⟨rfl, rfl, rfl⟩ := hcut
            cases hb : (!anyT T 5 k || (anyT T 7 k && anyT T 8 k))
            · have HB : Hid ((!anyT T 5 k || (anyT T 7 k && anyT T 8 k)) = false) := hb
              clear hb
              obtain ⟨sN, xs7, pN, ys8, r1, r2, r3, r4, r5, r6, r7, r8⟩ := ready hst H78.out x21 x22 hn
              have H5 : Hid (anyT T 5 k = true) := by have := HB.out; show anyT T 5 k = true; revert this; cases anyT T 5 k <;> simp
              have hk0 : 0 < k := by
                rcases Nat.eq_zero_or_pos k with e | e
                · have := H5.out; rw [e] at this; cases this
                · exact e
              obtain ⟨s1a, s1c, hs1⟩ := r1.shape
              obtain ⟨p1a, p1c, hp1⟩ := r5.shape
              have hb1 := hst.box.cell (i := 1) (by omega)
              have hb2 := hst.box.cell (i := 2) (by omega)
              rw [hs1] at hb1 r1
              rw [hp1] at hb2 r5
              have HST : Hid (St w0 wc w0.heap.size X2 T k (.slice sa p sc) (.slice ta q tc)) := hst
              have HRD : Hid (Src wc (.slice s1a sN s1c) sN xs7 ∧ sN ≤ 65536 ∧ (∀ u ∈ xs7, Nal wc u 7) ∧ (anyT T 7 k = true ∨ m7 ≠ 0 → sN ≠ 0) ∧ Src wc (.slice p1a pN p1c) pN ys8 ∧ pN ≤ 65536 ∧ (∀ u ∈ ys8, Nal wc u 8) ∧ (anyT T 8 k = true ∨ m8 ≠ 0 → pN ≠ 0)) := ⟨r1, r2, r3, r4, r5, r6, r7, r8⟩
              have bel := hst.bel
              clear r1 r2 r3 r4 r5 r6 r7 r8 hst x21 x22 hs1 hp1
              rcases HV.out with h | ⟨b, off, rfl, hb, hc⟩
              · omega
              have HVC : Hid (∀ i, i < k → wc.cell? ⟨b, off + i, none⟩ = some (V i) ∧ (V i).oneCell' = true) := fun i hi => ⟨by rw [bel.cell (p := ⟨b, off + i, none⟩) hb]; exact hc i hi, nal_one (HN.out i hi)⟩
              have hbw : b < wc.heap.size := Nat.lt_of_lt_of_le hb bel.size
              clear hc
              go_wp2_with fail
              go_loop [10] (fun i => ∃ z : Nat, z ≤ k ∧ i = .int .i64 (z : Nat) ∧ (∀ j, j < z → T j = 9)) (fun i => k - (intOf i).toNat)
              case atStart => exact ⟨0, by omega, rfl, fun j h => by omega⟩
              case round =>
                obtain ⟨z, hz, rfl, hnine⟩ := hrel
                have HZ : Hid (∀ j, j < z → T j = 9) := hnine
                clear hnine
                by_cases hlt : z < k
                · have hcell : wc.cell? ⟨b, off + z, none⟩ = some (V z) := by
                    rcases HV.out with h | ⟨b', off', he, hb', hc'⟩
                    · omega
                    cases he
                    rw [bel.cell (p := ⟨b, off + z, none⟩) hb]; exact hc' z hlt
                  have hnal := (HN.out z hlt).mono bel
                  obtain ⟨ua, ul, uc, D, hve, u1, u2, u3, u4, u5⟩ := hnal
                  rcases u4 with u4 | ⟨ub, uo, rfl, hub, huc⟩
                  · omega
                  have hd := huc 0 (by omega)
                  rw [Nat.add_zero] at hd
                  have hpos : 0 < ul := by omega
                  have hd3 := u3 0
                  rw [hve] at hcell
                  clear huc u3 hve u1
                  generalize D 0 = d at hd u5 hd3
                  have HT : Hid (d % 32 = T z) := u5
                  clear u5
                  by_cases m9 : d % 32 = 9
                  · have e9 : ((d : Int) % 32 == 9) = true := by simp; omega
                    have HT9 : Hid (T z = 9) := by have := HT.out; show T z = 9; omega
                    go_wp2_with fail
                    go_round
                    case rel => exact ⟨z + 1, by omega, by go_num, fun j hj => by by_cases e : j = z; (rw [e]; exact HT9.out); exact HZ.out j (by omega)⟩
                    case measure => simp [intOf]; omega
                  · have e9 : ((d : Int) % 32 == 9) = false := by simp; omega
                    have HT9 : Hid (z < k → T z ≠ 9) := fun _ => by have := HT.out; omega
                    have hzi : (z : Int) ≤ (k : Int) := by omega
                    have HS0 : Hid (Src wc (.slice (some ⟨b, off, none⟩) z c) z ((List.range z).map V)) := run_src rfl hbw (fun i hi => (HVC.out i (by omega)).1)
                    have HS3 : Hid (Src wc (.slice (if c = z then some ⟨b, off, none⟩ else some ⟨b, off + z, none⟩) (k - z) (c - z)) (k - z) ((List.range (k - z)).map (fun i => V (z + i)))) := src_if hbw hcap (fun i hi => (HVC.out i hi).1)
                    have hzc : (z : Int) ≤ (c : Int) := by omega
                    go_wp2_with fail
                    go_region_with (go_at_call 41; refine (concat4 wc V z k (.slice (some ⟨b, off, none⟩) z c) _ _ (.slice (if c = z then some ⟨b, off, none⟩ else some ⟨b, off + z, none⟩) (k - z) (c - z)) sN pN xs7 ys8 hz hn HS0.out HS3.out (fun i hi => (HVC.out i hi).2) HRD.out).mono ?_; rintro e w' ⟨v, rfl, hown, hbel'⟩)
                    all_goals (go_wp2_with fail; go_ret; exact outs_joined bel hbel' hown HB.out hz HZ.out HT9.out HRD.out.1.len HRD.out.2.2.2.2.1.len ⟨HRD.out.2.1, HRD.out.2.2.1, HRD.out.2.2.2.1, HRD.out.2.2.2.2.2.1, HRD.out.2.2.2.2.2.2.1, HRD.out.2.2.2.2.2.2.2⟩)
                · have HT9 : Hid (z < k → T z ≠ 9) := fun h => absurd h hlt
                  have hzi : (z : Int) ≤ (k : Int) := by omega
                  have hcz : c = z := by have := HC.out; omega
                  have HS0 : Hid (Src wc (.slice (some ⟨b, off, none⟩) z z) z ((List.range z).map V)) := run_src rfl hbw (fun i hi => (HVC.out i (by omega)).1)
                  have HS3 : Hid (Src wc (.slice (some ⟨b, off, none⟩) (k - z) 0) (k - z) ((List.range (k - z)).map (fun i => V (z + i)))) := run_src rfl hbw (fun i hi => by omega)
                  have hzc : (z : Int) ≤ (c : Int) := by omega
                  go_wp2_with fail
                  go_region_with (go_at_call 41; refine (concat4 wc V z k (.slice (some ⟨b, off, none⟩) z z) _ _ (.slice (some ⟨b, off, none⟩) (k - z) 0) sN pN xs7 ys8 hz hn HS0.out HS3.out (fun i hi => (HVC.out i hi).2) HRD.out).mono ?_; rintro e w' ⟨v, rfl, hown, hbel'⟩)
                  all_goals (go_wp2_with fail; go_ret; exact outs_joined bel hbel' hown HB.out hz HZ.out HT9.out HRD.out.1.len HRD.out.2.2.2.2.1.len ⟨HRD.out.2.1, HRD.out.2.2.1, HRD.out.2.2.2.1, HRD.out.2.2.2.2.2.1, HRD.out.2.2.2.2.2.2.1, HRD.out.2.2.2.2.2.2.2⟩)
            · have HB : Hid ((!anyT T 5 k || (anyT T 7 k && anyT T 8 k)) = true) := hb
              clear hb
              go_wp2_with fail
              go_ret
              exact ⟨a, k, c, rfl, outs_same hst.bel HV.out HB.out⟩
end Go.Proofs.Qxb6001091a.H264
