/- withParameterSets: the plain part. -/
import Derived.Test.Qxb6001091aH264E
import Derived.Maps.AppendAt
namespace Go.Proofs.Qxb6001091a.H264
open Go.RowKit
open Go.Proofs.Qxb6001091a.Bits (Bytes Touch IsBool num_eq info5)

/-- a unit in a block of its own -/
def Nal5 (w : World) (v : Value) (t : Nat) : Prop :=
  ∃ base n D, n ≠ 0 ∧ n ≤ 1048576 ∧ (∀ i, D i < 256) ∧ D 0 % 32 = t ∧ w.ownsRow base 5 1 v n (byteList D n)
theorem Nal5.nal {w : World} {v : Value} {t : Nat} (h : Nal5 w v t) : Nal w v t := by
  obtain ⟨base, n, D, h1, h2, h3, h4, h5⟩ := h
  exact nal_own h1 h2 h3 h4 h5
theorem own_apart {w : World} {b1 b2 n1 n2 : Nat} {v u : Value} {xs ys : List Value} (h : w.ownsRow b1 5 1 v n1 xs) (k : w.ownsRow b2 23 1 u n2 ys) : v.ownBlock = none ∨ v.ownBlock ≠ u.ownBlock := by
  rcases h.2 with ⟨rfl, _⟩ | ⟨g, cap, cur, rfl, _, hg, _⟩
  · exact .inl rfl
  · rcases k.2 with ⟨rfl, _⟩ | ⟨g', cap', cur', rfl, _, hg', _⟩
    · exact .inr (by simp [Value.ownBlock])
    · refine .inr (fun e => ?_)
      simp only [Value.ownBlock, Option.some.injEq] at e
      subst e
      rw [hg] at hg'
      simp at hg'
theorem Nal5.kept {w w' : World} {b n t : Nat} {v u : Value} {ys : List Value} (h : Nal5 w v t) (k : w.ownsRow b 23 1 u n ys) (hg : w.grownBy w' u.ownBlock) : Nal5 w' v t := by
  obtain ⟨base, n, D, h1, h2, h3, h4, h5⟩ := h
  exact ⟨base, n, D, h1, h2, h3, h4, h5.kept hg (own_apart h5 k)⟩
theorem below_grown {w w' : World} (h : Below w.heap.size w w') (row : Option Nat) : w.grownBy w' row := ⟨h.os, h.tape, h.output, h.size, fun k hk _ => h.block k hk⟩
theorem Nal5.below {w w' : World} {t : Nat} {v : Value} (h : Nal5 w v t) (hb : Below w.heap.size w w') : Nal5 w' v t := by
  obtain ⟨base, n, D, h1, h2, h3, h4, h5⟩ := h
  refine ⟨base, n, D, h1, h2, h3, h4, h5.kept (below_grown hb none) ?_⟩
  cases v.ownBlock
  · exact .inl rfl
  · exact .inr (by simp)
theorem own_below {w w' : World} {base e n : Nat} {v : Value} {xs : List Value} (h : w.ownsRow base e 1 v n xs) (hb : Below w.heap.size w w') : w'.ownsRow base e 1 v n xs := by
  refine h.kept (below_grown hb none) ?_
  cases v.ownBlock
  · exact .inl rfl
  · exact .inr (by simp)

set_option maxHeartbeats 2000000 in
/-- slices.Clone of a unit: its block is its own -/
theorem clone40' {w : World} {v : Value} {t : Nat} (h : Nal w v t) : Calls Try.prog 40 #[v] w fun e w' => ∃ v', e = .returned v' ∧ Nal5 w' v' t ∧ Below w.heap.size w w' := by
  obtain ⟨a, n, c, D, rfl, h2, h3, h4, h5, ht⟩ := h
  rcases h5 with h5 | ⟨b, off, rfl, hb, hc⟩
  · omega
  have q22 : ∀ (w : World) (a : Option Addr) (n c n' c' : Nat), (binOp .eql 23 (.slice a n c) (.slice none n' c')).run Try.prog w = .ok (.bool a.isNone) w := fun w a n c n' c' => Lib.run_eql_slice_nil w _ _ a n c n' c' Try.underlying23
  obtain ⟨i0, hi0, hz0, hz1, hz2⟩ := info_parts info5
  have HC : Hid (∀ i, i < n → w.cell? ⟨b, off + i, none⟩ = some (.int .u8 (D i))) := hc
  clear hc
  go_enter Try.func40, Try.ntmps40
  go_wp2_with (at_builtin; refine wpList_append_own _ rfl _ _ 23 rfl w.heap.size 5 i0 (.int .u8 0) 1 1 Try.underlying23 hi0 hz0 hz1 hz2 rfl (by decide) _ _ _ rfl (World.ownsRow_lit w #[] 0 (Nat.le_refl _) (by decide) rfl) ⟨b, off, none⟩ n c (byteList D n) rfl ?c0 ?c1 ?c2 ?c3 ?c4 ?c5 ?_)
  case c0 => simp [byteList]
  case c1 => exact list_cells hb ((Below.refl _ _).alloc (Nat.le_refl _) _) HC.out
  case c2 => exact list_one D n
  case c3 => unfold maxLen; omega
  case c4 => omega
  case c5 => simp
  · intro v' w1 hown hgrow _
    have hown' : w1.ownsRow w.heap.size 5 1 v' n (byteList D n) := by simpa using hown
    have hbel : Below w.heap.size w w1 := ((Below.refl _ _).alloc (Nat.le_refl _) _).grown hgrow (by simp) (fun k hk => by simp [Value.ownBlock] at hk; omega)
    have HR : Hid (Nal5 w1 v' t ∧ Below w.heap.size w w1) := ⟨⟨_, n, D, h2, h3, h4, ht, hown'⟩, hbel⟩
    clear hown hown' hgrow hbel
    go_wp2_with fail
    go_ret
    exact ⟨v', rfl, HR.out.1, HR.out.2⟩

/-- what an append to one of the two rows leaves of the rest -/
theorem two_grow {w0 wr w2 w1 : World} {N p q ta tb : Nat} {X : Nat → Value} {o : Obj} {va va' vb x : Value} {xs ys : List Value}
    (bel : Below N w0 wr) (box : wr.rowIs N 56 3 X) (ha : wr.ownsRow (N + 1) 23 1 va p xs) (hb : wr.ownsRow (N + 1) 23 1 vb q ys) (hne : va.ownBlock = none ∨ va.ownBlock ≠ vb.ownBlock)
    (hxs : ∀ u ∈ xs, Nal5 wr u ta) (hys : ∀ u ∈ ys, Nal5 wr u tb) (hcl : Below wr.heap.size wr w2) (hx : Nal5 w2 x ta) (hg : (w2.alloc o).grownBy w1 va.ownBlock) (hblk : va'.ownBlock = va.ownBlock ∨ va'.ownBlock = some (w2.alloc o).heap.size) :
    Below N w0 w1 ∧ w1.rowIs N 56 3 X ∧ w1.ownsRow (N + 1) 23 1 vb q ys ∧ (va'.ownBlock = none ∨ va'.ownBlock ≠ vb.ownBlock) ∧ (∀ u ∈ xs ++ [x], Nal5 w1 u ta) ∧ (∀ u ∈ ys, Nal5 w1 u tb) := by
  have hN := box.lt
  have hal : Below w2.heap.size w2 (w2.alloc o) := (Below.refl _ _).alloc (Nat.le_refl _) _
  have hb3 : Below wr.heap.size wr (w2.alloc o) := hcl.trans (hal.mono hcl.size)
  have hsz := hb3.size
  have hblo : ∀ j, va.ownBlock = some j → N + 1 ≤ j := fun j hj => (ha.lt j hj).1
  have ha3 := own_below ha hb3
  have hb4 := own_below hb hb3
  refine ⟨?_, ?_, ?_, ?_, ?_, ?_⟩
  · exact (bel.trans (hb3.mono (by omega))).grown hg (by omega) (fun j hj => by have := hblo j hj; omega)
  · exact (box.of_block (hb3.block _ hN)).of_block (hg.block _ (by omega) (fun e => by have := hblo _ e.symm; omega))
  · refine hb4.kept hg ?_
    rcases hne with h | h
    · rw [h]
      cases vb.ownBlock
      · exact .inl rfl
      · exact .inr (by simp)
    · exact .inr (fun e => h e.symm)
  · rcases hblk with e | e
    · rw [e]; exact hne
    · refine .inr (fun he => ?_)
      rw [e] at he
      have := (hb4.lt _ he.symm).2
      omega
  · intro u hu
    rcases List.mem_append.1 hu with hu | hu
    · exact ((hxs u hu).below hb3).kept ha3 hg
    · rw [List.mem_singleton.1 hu]
      exact (hx.below hal).kept ha3 hg
  · intro u hu
    exact ((hys u hu).below hb3).kept ha3 hg

/-- what loop 1 keeps -/
structure St (w0 wr : World) (N : Nat) (X : Nat → Value) (T : Nat → Nat) (k : Nat) (s t : Value) : Prop where
  bel : Below N w0 wr
  box : wr.rowIs N 56 3 X
  ex : ∃ p q xs ys, p ≤ k ∧ q ≤ k ∧ wr.ownsRow (N + 1) 23 1 s p xs ∧ wr.ownsRow (N + 1) 23 1 t q ys ∧ (s.ownBlock = none ∨ s.ownBlock ≠ t.ownBlock) ∧ (∀ u ∈ xs, Nal5 wr u 7) ∧ (∀ u ∈ ys, Nal5 wr u 8) ∧
    (p ≠ 0 ↔ anyT T 7 k = true) ∧ (q ≠ 0 ↔ anyT T 8 k = true)
theorem st_start {w0 w : World} {N : Nat} {X : Nat → Value} {T : Nat → Nat} (bel : Below N w0 w) (box : w.rowIs N 56 3 X) : St w0 w N X T 0 (.slice none 0 0) (.slice none 0 0) :=
  ⟨bel, box, 0, 0, [], [], by omega, by omega, World.ownsRow_nil _ _ _ _, World.ownsRow_nil _ _ _ _, .inl rfl, (fun u h => by cases h), (fun u h => by cases h), by simp [anyT], by simp [anyT]⟩
theorem st_skip {w0 wr : World} {N k : Nat} {X : Nat → Value} {T : Nat → Nat} {s t : Value} (h : St w0 wr N X T k s t) (h7 : T k ≠ 7) (h8 : T k ≠ 8) : St w0 wr N X T (k + 1) s t := by
  obtain ⟨p, q, xs, ys, e1, e2, e3, e4, e5, e6, e7, e8, e9⟩ := h.ex
  refine ⟨h.bel, h.box, p, q, xs, ys, by omega, by omega, e3, e4, e5, e6, e7, ?_, ?_⟩
  · rw [e8]; simp [anyT, h7]
  · rw [e9]; simp [anyT, h8]
theorem st_seven {w0 wr w2 w1 : World} {N k p q : Nat} {X : Nat → Value} {T : Nat → Nat} {s t s' x : Value} {xs ys : List Value} {o : Obj} (h : St w0 wr N X T k s t) (h7 : T k = 7)
    (e : p ≤ k ∧ q ≤ k ∧ wr.ownsRow (N + 1) 23 1 s p xs ∧ wr.ownsRow (N + 1) 23 1 t q ys ∧ (s.ownBlock = none ∨ s.ownBlock ≠ t.ownBlock) ∧ (∀ u ∈ xs, Nal5 wr u 7) ∧ (∀ u ∈ ys, Nal5 wr u 8) ∧
    (p ≠ 0 ↔ anyT T 7 k = true) ∧ (q ≠ 0 ↔ anyT T 8 k = true))
    (hcl : Below wr.heap.size wr w2) (hx : Nal5 w2 x 7) (hown : w1.ownsRow (N + 1) 23 1 s' (p + 1) (xs ++ [x])) (hg : (w2.alloc o).grownBy w1 s.ownBlock) (hblk : s'.ownBlock = s.ownBlock ∨ s'.ownBlock = some (w2.alloc o).heap.size) :
    St w0 w1 N X T (k + 1) s' t := by
  obtain ⟨e1, e2, e3, e4, e5, e6, e7, e8, e9⟩ := e
  obtain ⟨r1, r2, r3, r4, r5, r6⟩ := two_grow h.bel h.box e3 e4 e5 e6 e7 hcl hx hg hblk
  refine ⟨r1, r2, p + 1, q, _, ys, by omega, by omega, hown, r3, r4, r5, r6, ?_, ?_⟩
  · simp [anyT, h7]
  · rw [e9]; simp [anyT, h7]
theorem ne_comm' {a b : Option Nat} (h : a = none ∨ a ≠ b) : b = none ∨ b ≠ a := by
  rcases h with h | h
  · subst h; cases b
    · exact .inl rfl
    · exact .inr (by simp)
  · exact .inr (fun e => h e.symm)
theorem st_eight {w0 wr w2 w1 : World} {N k p q : Nat} {X : Nat → Value} {T : Nat → Nat} {s t t' x : Value} {xs ys : List Value} {o : Obj} (h : St w0 wr N X T k s t) (h8 : T k = 8)
    (e : p ≤ k ∧ q ≤ k ∧ wr.ownsRow (N + 1) 23 1 s p xs ∧ wr.ownsRow (N + 1) 23 1 t q ys ∧ (s.ownBlock = none ∨ s.ownBlock ≠ t.ownBlock) ∧ (∀ u ∈ xs, Nal5 wr u 7) ∧ (∀ u ∈ ys, Nal5 wr u 8) ∧
    (p ≠ 0 ↔ anyT T 7 k = true) ∧ (q ≠ 0 ↔ anyT T 8 k = true))
    (hcl : Below wr.heap.size wr w2) (hx : Nal5 w2 x 8) (hown : w1.ownsRow (N + 1) 23 1 t' (q + 1) (ys ++ [x])) (hg : (w2.alloc o).grownBy w1 t.ownBlock) (hblk : t'.ownBlock = t.ownBlock ∨ t'.ownBlock = some (w2.alloc o).heap.size) :
    St w0 w1 N X T (k + 1) s t' := by
  obtain ⟨e1, e2, e3, e4, e5, e6, e7, e8, e9⟩ := e
  obtain ⟨r1, r2, r3, r4, r5, r6⟩ := two_grow h.bel h.box e4 e3 (ne_comm' e5) e7 e6 hcl hx hg hblk
  refine ⟨r1, r2, p, q + 1, xs, _, by omega, by omega, r3, hown, ne_comm' r4, r6, r5, ?_, ?_⟩
  · rw [e8]; simp [anyT, h8]
  · simp [anyT, h8]
end Go.Proofs.Qxb6001091a.H264
