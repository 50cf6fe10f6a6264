/- cloneUnits; slices.Clone of a unit. -/
import Derived.Test.Qxb6001091aH264B
namespace Go.Proofs.Qxb6001091a.H264
open Go.RowKit
open Go.Proofs.Qxb6001091a.Bits (Bytes Touch IsBool num_eq copied copied_next info5)

/-- bytes in a block from M on -/
def From (M : Nat) (a : Option Addr) : Prop := ∀ x, a = some x → M ≤ x.block

set_option maxHeartbeats 1000000 in
/-- cloneBytes: the copy lies in new memory -/
theorem clone12b (a : Option Addr) (n c : Nat) (D : Nat → Nat) (w : World) (hn : n ≤ 16777216) (h : Bytes w a n D) :
    Calls Try.prog 12 #[.slice a n c] w fun e w' => ∃ a' c', e = .returned (.slice a' n c') ∧ Bytes w' a' n D ∧ From w.heap.size a' ∧ Below w.heap.size w w' := by
  have q22 : ∀ (w : World) (a : Option Addr) (n c n' c' : Nat), (binOp .eql 23 (.slice a n c) (.slice none n' c')).run Try.prog w = .ok (.bool a.isNone) w := fun w a n c n' c' => Lib.run_eql_slice_nil w _ _ a n c n' c' Try.underlying23
  have hmk := run_make_row' (P := Try.prog) 23 5 (.int .u8 0) 1 Try.underlying23 info5 rfl .i64 .i64 n (by omega) (by omega)
  cases a with
  | none =>
    have h0 : n = 0 := by
      rcases h with h | ⟨b, off, h, _⟩
      · exact h
      · cases h
    subst h0
    go_enter Try.func12, Try.ntmps12
    go_wp2
    go_ret
    exact ⟨none, 0, rfl, .inl rfl, (fun x hx => by cases hx), Below.refl _ _⟩
  | some ad =>
    go_enter Try.func12, Try.ntmps12
    go_wp2
    go_loopw [4] (fun i wr => ∃ k : Nat, k ≤ n ∧ i = .int .i64 k ∧ wr.rowIs w.heap.size 5 n (copied D k) ∧ Below w.heap.size w wr) (fun i _ => n - (intOf i).toNat)
    case atStart => exact ⟨0, by omega, rfl, (World.rowIs_made w _ n 5).congr (fun j _ => by simp [copied]), (Below.refl _ _).alloc (Nat.le_refl _) _⟩
    case round =>
      obtain ⟨k, hk, rfl, hrow, hbel⟩ := hrel
      by_cases hlt : k < n
      · rcases h with h | ⟨b, off, hae, hb, hc⟩
        · omega
        cases hae
        have hcell : wr.cell? ⟨b, off + k, none⟩ = some (.int .u8 (D k)) := by rw [hbel.cell (p := ⟨b, off + k, none⟩) hb]; exact hc k hlt
        have hd := hrow.cell hlt
        have hf := hrow.frozen k
        have H := copied_next wr w.heap.size n k D hrow
        have hH : Hid ((wr.setCell ⟨w.heap.size, k, none⟩ (.int .u8 (D k))).rowIs w.heap.size 5 n (copied D (k + 1))) := H
        clear H hc
        go_wp2
        go_roundw
        case rel => exact ⟨k + 1, by omega, by go_num, hH.out, hbel.setCell (Nat.le_refl _) _⟩
        case measure => simp [intOf]; omega
      · have hk' : k = n := by omega
        go_wp2
        go_ret
        refine ⟨_, _, rfl, .inr ⟨w.heap.size, 0, rfl, hrow.lt, fun i hi => ?_⟩, (fun x hx => by cases hx; exact Nat.le_refl _), hbel⟩
        have := hrow.cell hi
        rw [Nat.zero_add, this]
        simp [copied, show i < k by omega]

theorem info23 : (Try.prog.info? 23).map (fun i => (i.zero, i.size, i.bytes)) = some (some (.slice none 0 0), 1, 24) := by kernel_rfl

/-- the headers copied so far -/
def heads (A : Nat → Option Addr) (L C : Nat → Nat) (k j : Nat) : Value := if j < k then .slice (A j) (L j) (C j) else .slice none 0 0
def upd {α : Type} (f : Nat → α) (k : Nat) (x : α) (j : Nat) : α := if j = k then x else f j

theorem heads_next {w : World} {N n k : Nat} {A : Nat → Option Addr} {L C : Nat → Nat} {a : Option Addr} {l c : Nat} (h : w.rowIs N 23 n (heads A L C k)) (hl : L k = l) :
    (w.setCell ⟨N, k, none⟩ (.slice a l c)).rowIs N 23 n (heads (upd A k a) L (upd C k c) (k + 1)) := by
  refine (h.set k _).congr ?_
  intro j _
  unfold heads upd
  by_cases e : j = k
  · subst e; simp [hl]
  · rw [if_neg e]
    by_cases hlt : j < k
    · rw [if_pos hlt, if_pos (by omega), if_neg e, if_neg e]
    · rw [if_neg hlt, if_neg (by omega)]

/-- bytes over a store into another block -/
theorem bytes_other {w : World} {a : Option Addr} {n N : Nat} {D : Nat → Nat} {p : Addr} {v : Value} (h : Bytes w a n D) (hf : From (N + 1) a) (hp : p.block = N) : Bytes (w.setCell p v) a n D := by
  rcases h with h | ⟨b, off, h1, h2, h3⟩
  · exact .inl h
  · have hbN := hf _ h1
    refine .inr ⟨b, off, h1, by simpa using h2, fun i hi => ?_⟩
    rw [World.cell?_of_block (w := w) (w' := w.setCell p v) (a := ⟨b, off + i, none⟩) (Below.heap_setCell _ _ _ _ (by show b ≠ p.block; have : N + 1 ≤ b := hbN; omega))]
    exact h3 i hi

/-- what the loop of cloneUnits keeps -/
structure Cl (w wr : World) (n : Nat) (L : Nat → Nat) (B : Nat → Nat → Nat) (k : Nat) : Prop where
  ex : ∃ (A : Nat → Option Addr) (C : Nat → Nat), wr.rowIs w.heap.size 23 n (heads A L C k) ∧ (∀ j, j < k → Bytes wr (A j) (L j) (B j)) ∧ (∀ j, j < k → From (w.heap.size + 1) (A j))
  bel : Below w.heap.size w wr

theorem cl_start (w : World) (n : Nat) (L : Nat → Nat) (B : Nat → Nat → Nat) : Cl w (w.alloc (.cells (madeCells #[.slice none 0 0] n) 23)) n L B 0 :=
  ⟨⟨fun _ => none, fun _ => 0, (World.rowIs_made w _ n 23).congr (fun j _ => by simp [heads]), fun j h => by omega, fun j h => by omega⟩, (Below.refl _ _).alloc (Nat.le_refl _) _⟩
theorem cl_next {w wr w2 : World} {n k : Nat} {L : Nat → Nat} {B : Nat → Nat → Nat} {a : Option Addr} {l c : Nat} (h : Cl w wr n L B k) (hl : L k = l) (hb : Below wr.heap.size wr w2) (hby : Bytes w2 a l (B k)) (hf : From wr.heap.size a) :
    Cl w (w2.setCell ⟨w.heap.size, k, none⟩ (.slice a l c)) n L B (k + 1) := by
  obtain ⟨A, C, h1, h2, h3⟩ := h.ex
  have hN := h1.lt
  refine ⟨⟨upd A k a, upd C k c, heads_next (h1.of_block (hb.block _ hN)) hl, fun j hj => ?_, fun j hj => ?_⟩, (h.bel.trans (hb.mono h.bel.size)).setCell (Nat.le_refl _) _⟩
  · unfold upd
    by_cases e : j = k
    · subst e
      rw [if_pos rfl, hl]
      exact bytes_other (N := w.heap.size) hby (fun x hx => by have := hf x hx; omega) rfl
    · rw [if_neg e]
      exact bytes_other ((h2 j (by omega)).mono hb) (h3 j (by omega)) rfl
  · unfold upd
    by_cases e : j = k
    · rw [if_pos e]; exact fun x hx => by have := hf x hx; omega
    · rw [if_neg e]; exact h3 j (by omega)

set_option maxHeartbeats 2000000 in
/-- cloneUnits -/
theorem clone23 (a : Option Addr) (n c : Nat) (A : Nat → Option Addr) (L C : Nat → Nat) (B : Nat → Nat → Nat) (w : World) (hS : Small n L) (h : Uns w a n A L C B) :
    Calls Try.prog 23 #[.slice a n c] w fun e w' => ∃ a' c' A' C', e = .returned (.slice a' n c') ∧ Uns w' a' n A' L C' B ∧ Below w.heap.size w w' := by
  obtain ⟨hn, hL⟩ := hS
  have q34 : ∀ (w : World) (a : Option Addr) (n c n' c' : Nat), (binOp .eql 34 (.slice a n c) (.slice none n' c')).run Try.prog w = .ok (.bool a.isNone) w := fun w a n c n' c' => Lib.run_eql_slice_nil w _ _ a n c n' c' Try.underlying34
  have hmk := run_make_row' (P := Try.prog) 34 23 (.slice none 0 0) 24 Try.underlying34 info23 rfl .i64 .i64 n (by omega) (by omega)
  cases a with
  | none =>
    have h0 : n = 0 := by
      rcases h.row with h | ⟨b, off, h, _⟩
      · exact h
      · cases h
    subst h0
    clear hL
    go_enter Try.func23, Try.ntmps23
    go_wp2
    go_ret
    exact ⟨none, 0, A, C, rfl, ⟨.inl rfl, fun i hi => by omega⟩, Below.refl _ _⟩
  | some ad =>
    have HU : Hid (Uns w (some ad) n A L C B ∧ ∀ i, i < n → L i ≤ 1048576) := ⟨h, hL⟩
    clear h hL
    go_enter Try.func23, Try.ntmps23
    go_wp2
    go_loopw [4] (fun i wr => ∃ k : Nat, k ≤ n ∧ i = .int .i64 (k : Nat) ∧ Cl w wr n L B k) (fun i _ => n - (intOf i).toNat)
    case atStart => exact ⟨0, by omega, rfl, cl_start w n L B⟩
    case round =>
      obtain ⟨k, hk, rfl, hcl⟩ := hrel
      by_cases hlt : k < n
      · obtain ⟨⟨hrow, hbyt⟩, hLL⟩ := HU.out
        rcases hrow with h0 | ⟨b, off, hae, hb, hc⟩
        · omega
        cases hae
        have hcell : wr.cell? ⟨b, off + k, none⟩ = some (.slice (A k) (L k) (C k)) := by rw [hcl.bel.cell (p := ⟨b, off + k, none⟩) hb]; exact hc k hlt
        have hby : Bytes wr (A k) (L k) (B k) := (hbyt k hlt).mono hcl.bel
        have hLk := hLL k hlt
        clear hc hbyt hLL
        obtain ⟨l, HL⟩ : ∃ l, Hid (L k = l) := ⟨_, rfl⟩
        rw [HL.out] at hcell hby hLk
        generalize A k = ak at hcell hby
        generalize C k = ck at hcell
        go_wp2_with fail
        refine (clone12b ak l ck (B k) _ (by omega) hby).mono ?_
        rintro e w2 ⟨a', c', rfl, hby', hf', hb'⟩
        have R := cl_next (c := c') hcl HL.out hb' hby' hf'
        obtain ⟨A0, C0, hr0, _, _⟩ := hcl.ex
        have hr1 := hr0.of_block (hb'.block _ hr0.lt)
        have hdc := hr1.cell hlt
        have hdf := hr1.frozen k
        have HR : Hid (Cl w (w2.setCell ⟨w.heap.size, k, none⟩ (.slice a' l c')) n L B (k + 1)) := R
        clear R hcl hby hby' hf' hb' hr0 hr1
        go_wp2_with fail
        go_roundw
        case rel => exact ⟨k + 1, by omega, by go_num, HR.out⟩
        case measure => simp [intOf]; omega
      · obtain rfl : k = n := by omega
        obtain ⟨A0, C0, hr0, hby0, _⟩ := hcl.ex
        have hbel := hcl.bel
        go_wp2_with fail
        go_ret
        refine ⟨_, _, A0, C0, rfl, ⟨.inr ⟨w.heap.size, 0, rfl, hr0.lt, fun i hi => ?_⟩, hby0⟩, hbel⟩
        rw [Nat.zero_add, hr0.cell hi]
        simp [heads, hi]

/-- n bytes as cells -/
def byteList (D : Nat → Nat) (n : Nat) : List Value := (List.range n).map (fun i => .int .u8 (D i))

theorem list_one (D : Nat → Nat) (n : Nat) : ∀ u ∈ byteList D n, u.oneCell' = true := by
  intro u hu
  simp only [byteList, List.mem_map] at hu
  obtain ⟨i, _, rfl⟩ := hu
  rfl
theorem list_cells {w w' : World} {b off n : Nat} {D : Nat → Nat} (hb : b < w.heap.size) (hB : Below w.heap.size w w') (hc : ∀ i, i < n → w.cell? ⟨b, off + i, none⟩ = some (.int .u8 (D i))) :
    ∀ j u, (byteList D n)[j]? = some u → w'.cell? ((⟨b, off, none⟩ : Addr).add j) = some u := by
  intro j u hj
  have hlt : j < n := by
    have := (List.getElem?_eq_some_iff.1 hj).1
    simpa [byteList] using this
  simp [byteList, hlt] at hj
  subst hj
  have e : (⟨b, off, none⟩ : Addr).add j = ⟨b, off + j, none⟩ := by simp [Addr.add]
  rw [e, hB.cell (p := ⟨b, off + j, none⟩) hb]
  exact hc j hlt
theorem nal_own {w : World} {base n t : Nat} {v : Value} {D : Nat → Nat} (hn : n ≠ 0) (hs : n ≤ 1048576) (hD : ∀ i, D i < 256) (ht : D 0 % 32 = t) (h : w.ownsRow base 5 1 v n (byteList D n)) : Nal w v t := by
  rcases h.2 with ⟨_, h0⟩ | ⟨g, cap, cur, rfl, _⟩
  · exact absurd h0 hn
  · refine ⟨some ⟨g, 0, none⟩, n, cap, D, rfl, hn, hs, hD, .inr ⟨g, 0, rfl, (h.lt g rfl).2, fun i hi => ?_⟩, ht⟩
    rw [Nat.zero_add, h.cellAt i (by omega)]
    simp [byteList, hi]

set_option maxHeartbeats 2000000 in
/-- slices.Clone of a unit -/
theorem clone40 {w : World} {v : Value} {t : Nat} (h : Nal w v t) : Calls Try.prog 40 #[v] w fun e w' => ∃ v', e = .returned v' ∧ Nal w' v' t ∧ Below w.heap.size w w' := by
  obtain ⟨a, n, c, D, rfl, h2, h3, h4, h5, ht⟩ := h
  rcases h5 with h5 | ⟨b, off, rfl, hb, hc⟩
  · omega
  have q22 : ∀ (w : World) (a : Option Addr) (n c n' c' : Nat), (binOp .eql 23 (.slice a n c) (.slice none n' c')).run Try.prog w = .ok (.bool a.isNone) w := fun w a n c n' c' => Lib.run_eql_slice_nil w _ _ a n c n' c' Try.underlying23
  obtain ⟨i0, hi0, hz0, hz1, hz2⟩ := info_parts info5
  have HC : Hid (∀ i, i < n → w.cell? ⟨b, off + i, none⟩ = some (.int .u8 (D i))) := hc
  clear hc
  go_enter Try.func40, Try.ntmps40
  go_wp2_with (at_builtin; refine wpList_append_own _ rfl _ _ 23 rfl w.heap.size 5 i0 (.int .u8 0) 1 1 Try.underlying23 hi0 hz0 hz1 hz2 rfl (by decide) _ _ _ rfl (World.ownsRow_lit w #[] 0 (Nat.le_refl _) (by decide) rfl) ⟨b, off, none⟩ n c (byteList D n) rfl ?c0 ?c1 ?c2 ?c3 ?c4 ?c5 ?_)
  case c0 => simp [byteList]
  case c1 => exact list_cells hb ((Below.refl _ _).alloc (Nat.le_refl _) _) HC.out
  case c2 => exact list_one D n
  case c3 => unfold maxLen; omega
  case c4 => omega
  case c5 => simp
  · intro v' w1 hown hgrow _
    have hown' : w1.ownsRow w.heap.size 5 1 v' n (byteList D n) := by simpa using hown
    have hbel : Below w.heap.size w w1 := ((Below.refl _ _).alloc (Nat.le_refl _) _).grown hgrow (by simp) (fun k hk => by simp [Value.ownBlock] at hk; omega)
    have HR : Hid (Nal w1 v' t ∧ Below w.heap.size w w1) := ⟨nal_own h2 h3 h4 ht hown', hbel⟩
    clear hown hown' hgrow hbel
    go_wp2_with fail
    go_ret
    exact ⟨v', rfl, HR.out.1, HR.out.2⟩
end Go.Proofs.Qxb6001091a.H264
