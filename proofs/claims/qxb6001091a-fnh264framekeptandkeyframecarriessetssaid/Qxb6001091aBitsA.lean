/- cloneBytes and (*bitReader).read: what each call does. -/
import Derived.Test.Qxb6001091aRows
import Derived.Test.Qxb6001091aBitsNat
import Derived.WalkKit
import Derived.WalkSpells
import Derived.WalkLawsBesides
import Derived.RegionTactic
import Derived.ChangeAlike
import Derived.Deep.QuietTactic
import Derived.BigQuiet
import Derived.Deep.DeepCutAuto
import Derived.Deep.OwnRows
import Derived.Lib.SliceRun
namespace Go.Proofs.Qxb6001091a.Bits
open Go.RowKit

/-- it returned some bool -/
def IsBool (e : Ending) : Prop := ∃ b : Bool, e = .returned (.bool b)
/-- a slice of n bytes: D i at place i -/
def Bytes (w : World) (a : Option Addr) (n : Nat) (D : Nat → Nat) : Prop :=
  n = 0 ∨ ∃ b off, a = some ⟨b, off, none⟩ ∧ b < w.heap.size ∧ ∀ i, i < n → w.cell? ⟨b, off + i, none⟩ = some (.int .u8 (D i))

theorem Bytes.mono {w w' : World} {a : Option Addr} {n : Nat} {D : Nat → Nat} (h : Bytes w a n D) (hb : Below w.heap.size w w') : Bytes w' a n D := by
  rcases h with h | ⟨b, off, h1, h2, h3⟩
  · exact .inl h
  · exact .inr ⟨b, off, h1, Nat.lt_of_lt_of_le h2 hb.size, fun i hi => by rw [hb.cell (p := ⟨b, off + i, none⟩) h2]; exact h3 i hi⟩

theorem info5 : (Try.prog.info? 5).map (fun i => (i.zero, i.size, i.bytes)) = some (some (.int .u8 0), 1, 1) := by kernel_rfl

def copied (D : Nat → Nat) (k j : Nat) : Value := if j < k then .int .u8 (D j) else .int .u8 0
theorem copied_next (w : World) (N n k : Nat) (D : Nat → Nat) (h : w.rowIs N 5 n (copied D k)) :
    (w.setCell ⟨N, k, none⟩ (.int .u8 (D k))).rowIs N 5 n (copied D (k + 1)) := by
  refine (h.set k (.int .u8 (D k))).congr ?_
  intro j _
  unfold copied
  by_cases e : j = k
  · subst e; simp
  · rw [if_neg e]
    by_cases hlt : j < k
    · rw [if_pos hlt, if_pos (by omega)]
    · rw [if_neg hlt, if_neg (by omega)]

set_option maxHeartbeats 1000000 in
/-- cloneBytes -/
theorem clone12 (a : Option Addr) (n c : Nat) (D : Nat → Nat) (w : World) (hn : n ≤ 16777216) (h : Bytes w a n D) :
    Calls Try.prog 12 #[.slice a n c] w fun e w' => ∃ a' c', e = .returned (.slice a' n c') ∧ Bytes w' a' n D ∧ (∀ x, a' = some x → x.block < w'.heap.size) ∧ Below w.heap.size w w' := by
  have q22 : ∀ (w : World) (a : Option Addr) (n c n' c' : Nat), (binOp .eql 23 (.slice a n c) (.slice none n' c')).run Try.prog w = .ok (.bool a.isNone) w := fun w a n c n' c' => Lib.run_eql_slice_nil w _ _ a n c n' c' Try.underlying23
  have hmk := run_make_row' (P := Try.prog) 23 5 (.int .u8 0) 1 Try.underlying23 info5 rfl .i64 .i64 n (by omega) (by omega)
  cases a with
  | none =>
    have h0 : n = 0 := by
      rcases h with h | ⟨b, off, h, _⟩
      · exact h
      · cases h
    subst h0
    go_enter Try.func12, Try.ntmps12
    go_wp2
    go_ret
    exact ⟨none, 0, rfl, .inl rfl, (fun x hx => by cases hx), Below.refl _ _⟩
  | some ad =>
    go_enter Try.func12, Try.ntmps12
    go_wp2
    go_loopw [4] (fun i wr => ∃ k : Nat, k ≤ n ∧ i = .int .i64 k ∧ wr.rowIs w.heap.size 5 n (copied D k) ∧ Below w.heap.size w wr) (fun i _ => n - (intOf i).toNat)
    case atStart => exact ⟨0, by omega, rfl, (World.rowIs_made w _ n 5).congr (fun j _ => by simp [copied]), (Below.refl _ _).alloc (Nat.le_refl _) _⟩
    case round =>
      obtain ⟨k, hk, rfl, hrow, hbel⟩ := hrel
      by_cases hlt : k < n
      · rcases h with h | ⟨b, off, hae, hb, hc⟩
        · omega
        cases hae
        have hcell : wr.cell? ⟨b, off + k, none⟩ = some (.int .u8 (D k)) := by rw [hbel.cell (p := ⟨b, off + k, none⟩) hb]; exact hc k hlt
        have hd := hrow.cell hlt
        have hf := hrow.frozen k
        have H := copied_next wr w.heap.size n k D hrow
        have hH : Hid ((wr.setCell ⟨w.heap.size, k, none⟩ (.int .u8 (D k))).rowIs w.heap.size 5 n (copied D (k + 1))) := H
        clear H hc
        go_wp2
        go_roundw
        case rel => exact ⟨k + 1, by omega, by go_num, hH.out, hbel.setCell (Nat.le_refl _) _⟩
        case measure => simp [intOf]; omega
      · have hk' : k = n := by omega
        go_wp2
        go_ret
        refine ⟨_, _, rfl, .inr ⟨w.heap.size, 0, rfl, hrow.lt, fun i hi => ?_⟩, (fun x hx => by cases hx; exact hrow.lt), hbel⟩
        have := hrow.cell hi
        rw [Nat.zero_add, this]
        simp [copied, show i < k by omega]

/-- a bitReader in a block of its own -/
def rdCells (a : Option Addr) (n c pos : Nat) (sh : Bool) (i : Nat) : Value := if i = 0 then .slice a n c else if i = 1 then .int .i64 pos else .bool sh
def Rd (w : World) (rb : Nat) (a : Option Addr) (n c pos : Nat) (sh : Bool) : Prop := w.rowIs rb 58 3 (rdCells a n c pos sh)

/-- only block rb has been written -/
structure Touch (rb : Nat) (w w' : World) : Prop where
  os : w'.os = w.os
  tape : w'.tape = w.tape
  output : w'.output = w.output
  size : w'.heap.size = w.heap.size
  block : ∀ k, k ≠ rb → w'.heap[k]? = w.heap[k]?
theorem Touch.refl (rb : Nat) (w : World) : Touch rb w w := ⟨rfl, rfl, rfl, rfl, fun _ _ => rfl⟩
theorem Touch.trans {rb : Nat} {a b c : World} (h : Touch rb a b) (k : Touch rb b c) : Touch rb a c :=
  ⟨k.os.trans h.os, k.tape.trans h.tape, k.output.trans h.output, k.size.trans h.size, fun i hi => (k.block i hi).trans (h.block i hi)⟩
theorem Touch.drewN {rb nq : Nat} {a b : World} (h : Touch rb a b) : Touch rb a (b.drewN nq) := ⟨h.os, h.tape, h.output, h.size, h.block⟩
theorem Touch.setCell {rb off : Nat} {a b : World} (h : Touch rb a b) (v : Value) : Touch rb a (b.setCell ⟨rb, off, none⟩ v) :=
  h.trans ⟨rfl, rfl, rfl, by simp, fun k hk => Below.heap_setCell _ _ _ _ hk⟩
theorem Touch.cell {rb : Nat} {a b : World} (h : Touch rb a b) {p : Addr} (hp : p.block ≠ rb) : b.cell? p = a.cell? p := World.cell?_of_block (w := a) (h.block p.block hp)
theorem Touch.below {rb B : Nat} {a b : World} (h : Touch rb a b) (hB : B ≤ rb) : Below B a b := ⟨h.os, h.tape, h.output, by rw [h.size]; exact Nat.le_refl _, fun k hk => h.block k (by omega)⟩

theorem num_eq {a b : Int} (h : a = b) : Value.int .i64 a = .int .i64 b := by rw [h]
/-- bit i of the bytes, the highest bit of each byte first -/
def bit (D : Nat → Nat) (i : Nat) : Nat := D (i / 8) / 2 ^ (7 - i % 8) % 2
/-- k bits from place p on, as a number -/
def bitsV (D : Nat → Nat) (p : Nat) : Nat → Nat
  | 0 => 0
  | k + 1 => 2 * bitsV D p k + bit D (p + k)

theorem bit_lt (D : Nat → Nat) (i : Nat) : bit D i < 2 := Nat.mod_lt _ (by omega)
theorem bitsV_lt (D : Nat → Nat) (p : Nat) : ∀ k, bitsV D p k < 2 ^ k
  | 0 => by simp [bitsV]
  | k + 1 => by
    have h1 := bitsV_lt D p k
    have h2 := bit_lt D (p + k)
    simp only [bitsV, Nat.pow_succ]
    omega
/-- where the reader stands behind a read of k bits -/
def rdPos (T p k : Nat) : Nat := if p + k ≤ T then p + k else T
def rdSh (T p k : Nat) (sh : Bool) : Bool := if p + k ≤ T then sh else true
def rdVal (D : Nat → Nat) (T p k : Nat) : Nat := if p + k ≤ T then bitsV D p k else 0

theorem rd_set {w : World} {rb n c pos pos' : Nat} {a : Option Addr} {sh : Bool} (h : Rd w rb a n c pos sh) {P : Int} (hP : P = pos') : Rd (w.setCell ⟨rb, 1, none⟩ (.int .i64 P)) rb a n c pos' sh := by
  subst hP
  refine (World.rowIs.set h 1 _).congr (fun i hi => ?_)
  unfold rdCells
  by_cases e : i = 1
  · subst e; simp
  · simp [e]
theorem rd_short {w : World} {rb n c pos pos' : Nat} {a : Option Addr} {sh : Bool} (h : Rd w rb a n c pos sh) {P : Int} (hP : P = pos') :
    Rd ((w.setCell ⟨rb, 2, none⟩ (.bool true)).setCell ⟨rb, 1, none⟩ (.int .i64 P)) rb a n c pos' true := by
  subst hP
  refine (World.rowIs.set (World.rowIs.set h 2 _) 1 _).congr (fun i hi => ?_)
  unfold rdCells
  by_cases e : i = 1
  · subst e; simp
  · by_cases e2 : i = 2
    · subst e2; simp
    · have : i = 0 := by omega
      subst this; simp

/-- what a read of k bits does -/
def Read (w : World) (rb : Nat) (a : Option Addr) (n c pos k : Nat) (sh : Bool) (D : Nat → Nat) (e : Ending) (w' : World) : Prop :=
  e = .returned (.int .i64 (rdVal D (8 * n) pos k)) ∧ Rd w' rb a n c (rdPos (8 * n) pos k) (rdSh (8 * n) pos k sh) ∧ Touch rb w w'

set_option maxHeartbeats 1000000 in
/-- (*bitReader).read -/
theorem read39 (rb : Nat) (a : Option Addr) (n c pos k : Nat) (sh : Bool) (D : Nat → Nat) (w : World) (hn : n ≤ 16777216) (hk : k ≤ 32) (hpos : pos ≤ 8 * n) (hD : ∀ i, D i < 256)
    (hR : Rd w rb a n c pos sh) (hB : Bytes w a n D) (hab : ∀ x, a = some x → x.block < rb) :
    Calls Try.prog 39 #[.pointer (some ⟨rb, 0, none⟩), .int .i64 k] w fun e w' => Read w rb a n c pos k sh D e w' := by
  have c0 : w.cell? ⟨rb, 0, none⟩ = some (.slice a n c) := hR.cell (i := 0) (by omega)
  have c1 : w.cell? ⟨rb, 1, none⟩ = some (.int .i64 pos) := hR.cell (i := 1) (by omega)
  have c2 : w.cell? ⟨rb, 2, none⟩ = some (.bool sh) := hR.cell (i := 2) (by omega)
  have f1 := hR.frozen 1
  have f2 := hR.frozen 2
  by_cases hs : 8 * n < pos + k
  · have HV : Hid (rdVal D (8 * n) pos k = 0 ∧ rdPos (8 * n) pos k = 8 * n ∧ rdSh (8 * n) pos k sh = true) := by
      refine ⟨?_, ?_, ?_⟩
      · unfold rdVal; rw [if_neg (by omega)]
      · unfold rdPos; rw [if_neg (by omega)]
      · unfold rdSh; rw [if_neg (by omega)]
    go_enter Try.func39, Try.ntmps39
    go_wp2
    go_quiet (fail)
    go_wp2
    go_ret
    refine ⟨by rw [HV.out.1]; rfl, ?_, (((Touch.refl rb w).drewN).setCell _).setCell _⟩
    rw [HV.out.2.1, HV.out.2.2]
    exact rd_short (w := w.drewN nq) hR (by omega)
  · have HV : Hid (rdVal D (8 * n) pos k = bitsV D pos k ∧ rdPos (8 * n) pos k = pos + k ∧ rdSh (8 * n) pos k sh = sh) := by
      refine ⟨?_, ?_, ?_⟩
      · unfold rdVal; rw [if_pos (by omega)]
      · unfold rdPos; rw [if_pos (by omega)]
      · unfold rdSh; rw [if_pos (by omega)]
    go_enter Try.func39, Try.ntmps39
    go_wp2
    go_quiet (fail)
    go_wp2
    clear c0 c1 c2 f1 f2
    go_loopw [5, 33] (fun v i wr => ∃ j : Nat, j ≤ k ∧ i = .int .i64 j ∧ v = .int .i64 (bitsV D pos j) ∧ Rd wr rb a n c (pos + j) sh ∧ Touch rb w wr) (fun _ i _ => k - (intOf i).toNat)
    case atStart => exact ⟨0, by omega, rfl, rfl, hR, (Touch.refl rb w).drewN⟩
    case round =>
      obtain ⟨j, hj, rfl, rfl, hRj, hT⟩ := hrel
      by_cases hlt : j < k
      · rcases hB with h0 | ⟨b, off, rfl, hb, hc⟩
        · omega
        have hbr := hab _ rfl
        simp only at hbr
        have c0 : wr.cell? ⟨rb, 0, none⟩ = some (.slice (some ⟨b, off, none⟩) n c) := hRj.cell (i := 0) (by omega)
        have c1 : wr.cell? ⟨rb, 1, none⟩ = some (.int .i64 ((pos + j : Nat) : Int)) := hRj.cell (i := 1) (by omega)
        have f1 := hRj.frozen 1
        have hq : (pos + j) / 8 < n := by omega
        have hd : wr.cell? ⟨b, off + (pos + j) / 8, none⟩ = some (.int .u8 (D ((pos + j) / 8))) := by
          rw [hT.cell (p := ⟨b, off + (pos + j) / 8, none⟩) (by simp; omega)]; exact hc _ hq
        have HB : Hid (bits .or .i64 (wrap64 ((bitsV D pos j : Int) * 2)) (wrap64 (bits .and .u8 ((D ((pos + j) / 8) : Int) / 2 ^ (7 - (pos + j) % 8)) 1)) = ((bitsV D pos (j + 1) : Nat) : Int)) :=
          step_val _ _ _ (Nat.lt_of_lt_of_le (bitsV_lt D pos j) (Nat.pow_le_pow_right (n := 2) (by omega) (show j ≤ 32 by omega))) (hD _)
        have hbd := bitsV_lt D pos j
        generalize hp : pos + j = p at c1 hq hd hRj HB
        have hpn : p < 8 * n := by omega
        have HP : Hid (pos + j = p) := hp
        clear hp hc hab hD hbd
        go_wp2
        go_quiet (fail)
        go_wp2
        go_roundw
        case rel =>
          refine ⟨j + 1, by omega, by go_num, num_eq HB.out, ?_, hT.drewN.setCell _⟩
          exact rd_set (w := wr.drewN nq) hRj (by have := HP.out; omega)
        case measure => simp [intOf]; omega
      · have hjk : j = k := by omega
        subst hjk
        go_wp2
        go_ret
        exact ⟨by rw [HV.out.1]; rfl, by rw [HV.out.2.1, HV.out.2.2]; exact hRj, hT⟩
end Go.Proofs.Qxb6001091a.Bits
