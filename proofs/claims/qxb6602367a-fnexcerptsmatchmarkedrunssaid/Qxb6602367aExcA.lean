/- The small callees of the two laws on excerpts: the size guards, the copy, the two tests on how a text begins. -/
import Derived.Test.Qxb6602367aRows
import Derived.WalkKit
import Derived.WalkSpells
import Derived.WalkLawsBesides
import Derived.RegionTactic
import Derived.ChangeAlike
import Derived.Deep.QuietTactic
import Derived.BigQuiet
import Derived.Deep.DeepCutAuto
import Derived.Lib.SliceRun
import Derived.Lib.Strings
import Derived.Deep.OwnRows
namespace Go.Proofs.Qxb6602367a.Exc
open Go.RowKit

/-- it returned some bool -/
def IsBool (e : Ending) : Prop := ∃ b : Bool, e = .returned (.bool b)
/-- a slice of n strings: L i at place i -/
def Strs (w : World) (a : Option Addr) (n : Nat) (L : Nat → ByteArray) : Prop :=
  n = 0 ∨ ∃ b off, a = some ⟨b, off, none⟩ ∧ b < w.heap.size ∧ ∀ i, i < n → w.cell? ⟨b, off + i, none⟩ = some (.string (L i))

theorem Strs.mono {w w' : World} {a : Option Addr} {n : Nat} {L : Nat → ByteArray} (h : Strs w a n L) (hb : Below w.heap.size w w') : Strs w' a n L := by
  rcases h with h | ⟨b, off, h1, h2, h3⟩
  · exact .inl h
  · exact .inr ⟨b, off, h1, Nat.lt_of_lt_of_le h2 hb.size, fun i hi => by rw [hb.cell (p := ⟨b, off + i, none⟩) h2]; exact h3 i hi⟩

set_option maxHeartbeats 1000000 in
/-- zzBytes_FnExcerptsRunsAreSeparatedAndCoverEveryMarker -/
theorem bytes11 (a : Option Addr) (n c : Nat) (L : Nat → ByteArray) (w : World) (hn : n ≤ maxLen) (h : Strs w a n L) :
    Calls Try.prog 11 #[.slice a n c] w fun e w' => IsBool e ∧ w = w' := by
  unfold maxLen at hn
  by_cases hbig : 1048576 < n
  · go_enter Try.func11, Try.ntmps11
    go_wp2
    go_ret
    exact ⟨⟨_, rfl⟩, rfl⟩
  · go_enter Try.func11, Try.ntmps11
    go_wp2
    go_loop [3, 4] (fun t i => ∃ (k : Nat) (z : Int), k ≤ n ∧ i = .int .i64 k ∧ t = .int .i64 z ∧ 0 ≤ z ∧ z ≤ 1048576) (fun _ i => n - (intOf i).toNat)
    case atStart => exact ⟨0, _, by omega, rfl, rfl, by omega, by omega⟩
    case round =>
      obtain ⟨k, z, hk, rfl, rfl, hz0, hz1⟩ := hrel
      by_cases hlt : k < n
      · rcases h with h | ⟨b, off, rfl, hb, hc⟩
        · omega
        have hcell := hc k hlt
        clear hc
        go_wp2
        · go_ret
          exact ⟨⟨_, rfl⟩, rfl⟩
        · go_ret
          exact ⟨⟨_, rfl⟩, rfl⟩
        · go_round
          case rel => exact ⟨k + 1, _, by omega, by go_num, rfl, by omega, by omega⟩
          case measure => simp [intOf]; omega
      · go_wp2
        go_ret
        exact ⟨⟨_, rfl⟩, rfl⟩
set_option maxHeartbeats 1000000 in
/-- zzBytes_FnExcerptsMatchMarkedRuns -/
theorem bytes6 (a : Option Addr) (n c : Nat) (L : Nat → ByteArray) (w : World) (hn : n ≤ maxLen) (h : Strs w a n L) :
    Calls Try.prog 6 #[.slice a n c] w fun e w' => IsBool e ∧ w = w' := by
  unfold maxLen at hn
  by_cases hbig : 1048576 < n
  · go_enter Try.func6, Try.ntmps6
    go_wp2
    go_ret
    exact ⟨⟨_, rfl⟩, rfl⟩
  · go_enter Try.func6, Try.ntmps6
    go_wp2
    go_loop [3, 4] (fun t i => ∃ (k : Nat) (z : Int), k ≤ n ∧ i = .int .i64 k ∧ t = .int .i64 z ∧ 0 ≤ z ∧ z ≤ 1048576) (fun _ i => n - (intOf i).toNat)
    case atStart => exact ⟨0, _, by omega, rfl, rfl, by omega, by omega⟩
    case round =>
      obtain ⟨k, z, hk, rfl, rfl, hz0, hz1⟩ := hrel
      by_cases hlt : k < n
      · rcases h with h | ⟨b, off, rfl, hb, hc⟩
        · omega
        have hcell := hc k hlt
        clear hc
        go_wp2
        · go_ret
          exact ⟨⟨_, rfl⟩, rfl⟩
        · go_ret
          exact ⟨⟨_, rfl⟩, rfl⟩
        · go_round
          case rel => exact ⟨k + 1, _, by omega, by go_num, rfl, by omega, by omega⟩
          case measure => simp [intOf]; omega
      · go_wp2
        go_ret
        exact ⟨⟨_, rfl⟩, rfl⟩

/-- it returned a bool that, where it is true, bounds the number of lines -/
def FitB (n : Nat) (e : Ending) : Prop := ∃ b : Bool, e = .returned (.bool b) ∧ (b = true → n ≤ 65536)

set_option maxHeartbeats 1000000 in
/-- zzLinesFit -/
theorem fit7 (a : Option Addr) (n c : Nat) (L : Nat → ByteArray) (w : World) (hn : n ≤ maxLen) (h : Strs w a n L) :
    Calls Try.prog 7 #[.slice a n c] w fun e w' => FitB n e ∧ w = w' := by
  unfold maxLen at hn
  by_cases hbig : 65536 < n
  · go_enter Try.func7, Try.ntmps7
    go_wp2
    go_ret
    exact ⟨⟨_, rfl, fun h => by cases h⟩, rfl⟩
  · go_enter Try.func7, Try.ntmps7
    go_wp2
    go_loop [3, 4] (fun t i => ∃ (k : Nat) (z : Int), k ≤ n ∧ i = .int .i64 k ∧ t = .int .i64 z ∧ 0 ≤ z ∧ z ≤ 1048576) (fun _ i => n - (intOf i).toNat)
    case atStart => exact ⟨0, _, by omega, rfl, rfl, by omega, by omega⟩
    case round =>
      obtain ⟨k, z, hk, rfl, rfl, hz0, hz1⟩ := hrel
      by_cases hlt : k < n
      · rcases h with h | ⟨b, off, rfl, hb, hc⟩
        · omega
        have hcell := hc k hlt
        clear hc
        go_wp2
        · go_ret
          exact ⟨⟨_, rfl, fun h => by cases h⟩, rfl⟩
        · go_ret
          exact ⟨⟨_, rfl, fun h => by cases h⟩, rfl⟩
        · go_round
          case rel => exact ⟨k + 1, _, by omega, by go_num, rfl, by omega, by omega⟩
          case measure => simp [intOf]; omega
      · go_wp2
        go_ret
        exact ⟨⟨_, rfl, fun _ => by omega⟩, rfl⟩

theorem info9 : (Try.prog.info? 9).map (fun i => (i.zero, i.size, i.bytes)) = some (some (.string ByteArray.empty), 1, 16) := by kernel_rfl

def copied (L : Nat → ByteArray) (k j : Nat) : Value := if j < k then .string (L j) else .string ByteArray.empty

theorem copied_next (w : World) (N n k : Nat) (L : Nat → ByteArray) (h : w.rowIs N 9 n (copied L k)) :
    (w.setCell ⟨N, k, none⟩ (.string (L k))).rowIs N 9 n (copied L (k + 1)) := by
  refine (h.set k (.string (L k))).congr ?_
  intro j _
  unfold copied
  by_cases e : j = k
  · subst e; simp
  · rw [if_neg e]
    by_cases hlt : j < k
    · rw [if_pos hlt, if_pos (by omega)]
    · rw [if_neg hlt, if_neg (by omega)]

set_option maxHeartbeats 1000000 in
/-- zzCopyLines -/
theorem copy8 (a : Option Addr) (n c : Nat) (L : Nat → ByteArray) (w : World) (hn : n ≤ 65536) (h : Strs w a n L) :
    Calls Try.prog 8 #[.slice a n c] w fun e w' => ∃ a' c', e = .returned (.slice a' n c') ∧ Strs w' a' n L ∧ Below w.heap.size w w' := by
  have q22 : ∀ (w : World) (a : Option Addr) (n c n' c' : Nat), (binOp .eql 22 (.slice a n c) (.slice none n' c')).run Try.prog w = .ok (.bool a.isNone) w := fun w a n c n' c' => Lib.run_eql_slice_nil w _ _ a n c n' c' Try.underlying22
  have hmk := run_make_row' (P := Try.prog) 22 9 (.string ByteArray.empty) 16 Try.underlying22 info9 rfl .i64 .i64 n (by omega) (by omega)
  cases a with
  | none =>
    have h0 : n = 0 := by
      rcases h with h | ⟨b, off, h, _⟩
      · exact h
      · cases h
    subst h0
    go_enter Try.func8, Try.ntmps8
    go_wp2
    go_ret
    exact ⟨none, 0, rfl, .inl rfl, Below.refl _ _⟩
  | some ad =>
    go_enter Try.func8, Try.ntmps8
    go_wp2
    go_loopw [4] (fun i wr => ∃ k : Nat, k ≤ n ∧ i = .int .i64 k ∧ wr.rowIs w.heap.size 9 n (copied L k) ∧ Below w.heap.size w wr) (fun i _ => n - (intOf i).toNat)
    case atStart => exact ⟨0, by omega, rfl, (World.rowIs_made w _ n 9).congr (fun j _ => by simp [copied]), (Below.refl _ _).alloc (Nat.le_refl _) _⟩
    case round =>
      obtain ⟨k, hk, rfl, hrow, hbel⟩ := hrel
      by_cases hlt : k < n
      · rcases h with h | ⟨b, off, hae, hb, hc⟩
        · omega
        cases hae
        have hcell : wr.cell? ⟨b, off + k, none⟩ = some (.string (L k)) := by rw [hbel.cell (p := ⟨b, off + k, none⟩) hb]; exact hc k hlt
        have hd := hrow.cell hlt
        have hf := hrow.frozen k
        have H := copied_next wr w.heap.size n k L hrow
        have hH : Hid ((wr.setCell ⟨w.heap.size, k, none⟩ (.string (L k))).rowIs w.heap.size 9 n (copied L (k + 1))) := H
        clear H hc
        go_wp2
        go_roundw
        case rel => exact ⟨k + 1, by omega, by go_num, hH.out, hbel.setCell (Nat.le_refl _) _⟩
        case measure => simp [intOf]; omega
      · have hk' : k = n := by omega
        go_wp2
        go_ret
        refine ⟨_, _, rfl, .inr ⟨w.heap.size, 0, rfl, hrow.lt, fun i hi => ?_⟩, hbel⟩
        have := hrow.cell hi
        rw [Nat.zero_add, this]
        simp [copied, show i < k by omega]

/-- does the text s begin with p? -/
def hp (s p : ByteArray) : Bool := Lib.hasPrefix s.data.toList p.data.toList

set_option maxHeartbeats 1000000 in
/-- internal/stringslite.HasPrefix -/
theorem has22 (s p : ByteArray) (w : World) (_hs : p.size ≤ 1000) :
    Calls Try.prog 22 #[.string s, .string p] w fun e w' => e = .returned (.bool (hp s p)) ∧ w = w' := by
  have e := Lib.hasPrefix_raw s p
  have E : Hid ((decide (p.size ≤ s.size) && ((s.extract 0 p.size).toList == p.toList)) = hp s p) := e
  clear e
  by_cases h : p.size ≤ s.size
  · go_enter Try.func22, Try.ntmps22
    go_wp2
    go_ret
    refine ⟨?_, rfl⟩
    rw [← E.out]
    simp [h]
  · go_enter Try.func22, Try.ntmps22
    go_wp2
    go_ret
    refine ⟨?_, rfl⟩
    rw [← E.out]
    simp [h]

set_option maxHeartbeats 1000000 in
/-- strings.HasPrefix -/
theorem has21 (s p : ByteArray) (w : World) (hs : p.size ≤ 1000) :
    Calls Try.prog 21 #[.string s, .string p] w fun e w' => e = .returned (.bool (hp s p)) ∧ w = w' := by
  go_enter Try.func21, Try.ntmps21
  go_wp2_with fail
  refine (has22 s p _ hs).mono ?_
  rintro e w' ⟨rfl, rfl⟩
  go_wp2
  go_ret
  exact ⟨rfl, rfl⟩

theorem hp_iff (s p : ByteArray) : hp s p = true ↔ p.size ≤ s.size ∧ ∀ j (h1 : j < p.size) (h2 : j < s.size), s[j] = p[j] := by
  unfold hp Lib.hasPrefix
  rw [List.isPrefixOf_iff_prefix, List.prefix_iff_eq_take]
  have l1 : p.data.toList.length = p.size := by simp
  have l2 : s.data.toList.length = s.size := by simp
  constructor
  · intro h
    have hle : p.size ≤ s.size := by
      have := congrArg List.length h
      rw [List.length_take, l1, l2] at this
      omega
    refine ⟨hle, fun j h1 h2 => ?_⟩
    have e1 : p.data.toList[j]? = some p[j] := by
      rw [List.getElem?_eq_getElem (by omega)]; rfl
    have e2 : s.data.toList[j]? = some s[j] := by
      rw [List.getElem?_eq_getElem (by omega)]; rfl
    rw [h, List.getElem?_take, if_pos (by omega), e2] at e1
    exact Option.some.inj e1
  · rintro ⟨hle, h⟩
    apply List.ext_getElem
    · rw [List.length_take, l1, l2]; omega
    · intro j h1 h2
      rw [List.getElem_take]
      exact (h j (by omega) (by omega)).symm
theorem hp_short (s p : ByteArray) (h : s.size < p.size) : hp s p = false := by
  cases e : hp s p
  · rfl
  · have := ((hp_iff s p).1 e).1; omega
theorem hp_parts (s p : ByteArray) (k : Nat) (h1 : k < p.size) (h2 : k < s.size) (h : ((s[k].toNat : Int) != (p[k].toNat : Int)) = true) : hp s p = false := by
  cases e : hp s p
  · rfl
  · have := ((hp_iff s p).1 e).2 k h1 h2
    rw [this] at h
    simp at h
theorem hp_all (s p : ByteArray) (k : Nat) (hk : ¬ k < p.size) (hs : ¬ s.size < p.size) (h : ∀ j (h1 : j < p.size) (h2 : j < s.size), j < k → s[j] = p[j]) : hp s p = true :=
  (hp_iff s p).2 ⟨by omega, fun j h1 h2 => h j h1 h2 (by omega)⟩
theorem hp_next (s p : ByteArray) (k : Nat) (hk1 : k < p.size) (hk2 : k < s.size) (h : ∀ j (h1 : j < p.size) (h2 : j < s.size), j < k → s[j] = p[j])
    (he : ((s[k].toNat : Int) != (p[k].toNat : Int)) = false) : ∀ j (h1 : j < p.size) (h2 : j < s.size), j < k + 1 → s[j] = p[j] := by
  intro j h1 h2 hj
  by_cases e : j = k
  · subst e
    simp only [bne_eq_false_iff_eq] at he
    exact UInt8.toNat_inj.1 (by omega)
  · exact h j h1 h2 (by omega)

set_option maxHeartbeats 1000000 in
/-- zzHasPrefix -/
theorem has12 (s p : ByteArray) (w : World) (hs : p.size ≤ 1000) :
    Calls Try.prog 12 #[.string s, .string p] w fun e w' => e = .returned (.bool (hp s p)) ∧ ∃ nq, w' = w.drewN nq := by
  by_cases h : s.size < p.size
  · go_enter Try.func12, Try.ntmps12
    go_wp2
    go_ret
    exact ⟨by rw [hp_short s p h]; rfl, 0, rfl⟩
  · go_enter Try.func12, Try.ntmps12
    go_wp2
    go_loopw [5] (fun i wr => ∃ k : Nat, k ≤ p.size ∧ i = .int .i64 k ∧ (∀ j (h1 : j < p.size) (h2 : j < s.size), j < k → s[j] = p[j]) ∧ ∃ nq, wr = w.drewN nq) (fun i _ => p.size - (intOf i).toNat)
    case atStart => exact ⟨0, by omega, rfl, fun j _ _ h => by omega, 0, rfl⟩
    case round =>
      obtain ⟨k, hk, rfl, hall, nq0, rfl⟩ := hrel
      have HA : Hid (∀ j (h1 : j < p.size) (h2 : j < s.size), j < k → s[j] = p[j]) := hall
      clear hall
      by_cases hlt : k < p.size
      · have hls : k < s.size := by omega
        go_wp2
        go_quiet (fail)
        go_wp2
        · have ht : ((s[k].toNat : Int) != (p[k].toNat : Int)) = true := by assumption
          go_ret
          exact ⟨by rw [hp_parts s p k hlt hls ht]; rfl, nq0 + nq, by simp⟩
        · have ht : ((s[k].toNat : Int) != (p[k].toNat : Int)) = false := by assumption
          go_roundw
          case rel => exact ⟨k + 1, by omega, by go_num, hp_next s p k hlt hls HA.out ht, _, rfl⟩
          case measure => simp [intOf]; omega
      · go_wp2
        go_ret
        exact ⟨by rw [hp_all s p k hlt h HA.out]; rfl, _, rfl⟩
end Go.Proofs.Qxb6602367a.Exc
