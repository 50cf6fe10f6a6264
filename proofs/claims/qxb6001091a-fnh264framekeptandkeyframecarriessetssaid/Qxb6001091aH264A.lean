/- The small callees of the law on H264: sizes, kinds. -/
import Derived.Test.Qxb6001091aBitsA
import Derived.Maps.AppendAt
namespace Go.Proofs.Qxb6001091a.H264
open Go.RowKit
open Go.Proofs.Qxb6001091a.Bits (Bytes Touch IsBool num_eq)

/-- a row of n values -/
def VRow (w : World) (a : Option Addr) (n : Nat) (V : Nat → Value) : Prop :=
  n = 0 ∨ ∃ b off, a = some ⟨b, off, none⟩ ∧ b < w.heap.size ∧ ∀ i, i < n → w.cell? ⟨b, off + i, none⟩ = some (V i)
theorem VRow.mono {w w' : World} {a : Option Addr} {n : Nat} {V : Nat → Value} (h : VRow w a n V) (hb : Below w.heap.size w w') : VRow w' a n V := by
  rcases h with h | ⟨b, off, h1, h2, h3⟩
  · exact .inl h
  · exact .inr ⟨b, off, h1, Nat.lt_of_lt_of_le h2 hb.size, fun i hi => by rw [hb.cell (p := ⟨b, off + i, none⟩) h2]; exact h3 i hi⟩

/-- a slice of slices of bytes that came in -/
structure Uns (w : World) (a : Option Addr) (n : Nat) (A : Nat → Option Addr) (L C : Nat → Nat) (B : Nat → Nat → Nat) : Prop where
  row : VRow w a n (fun i => .slice (A i) (L i) (C i))
  byt : ∀ i, i < n → Bytes w (A i) (L i) (B i)
theorem Uns.mono {w w' : World} {a : Option Addr} {n : Nat} {A : Nat → Option Addr} {L C : Nat → Nat} {B : Nat → Nat → Nat} (h : Uns w a n A L C B) (hb : Below w.heap.size w w') : Uns w' a n A L C B :=
  ⟨h.row.mono hb, fun i hi => (h.byt i hi).mono hb⟩

set_option maxHeartbeats 1000000 in
/-- unitsSize: never below 0 -/
theorem size20 (a : Option Addr) (n c : Nat) (A : Nat → Option Addr) (L C : Nat → Nat) (w : World) (hn : n ≤ 1048576) (hL : ∀ i, i < n → L i ≤ 1048576) (h : VRow w a n (fun i => .slice (A i) (L i) (C i))) :
    Calls Try.prog 20 #[.slice a n c] w fun e w' => (∃ z : Nat, z ≤ 1048577 ∧ e = .returned (.int .i64 z)) ∧ w = w' := by
  go_enter Try.func20, Try.ntmps20
  go_wp2
  go_loop [3, 4] (fun t i => ∃ k z : Nat, k ≤ n ∧ i = .int .i64 (k : Nat) ∧ t = .int .i64 (z : Nat) ∧ z ≤ 1048576) (fun _ i => n - (intOf i).toNat)
  case atStart => exact ⟨0, 0, by omega, rfl, rfl, by omega⟩
  case round =>
    obtain ⟨k, z, hk, rfl, rfl, hz⟩ := hrel
    by_cases hlt : k < n
    · rcases h with h | ⟨b, off, rfl, hb, hc⟩
      · omega
      have hcell : w.cell? ⟨b, off + k, none⟩ = some (.slice (A k) (L k) (C k)) := hc k hlt
      have hLk := hL k hlt
      clear hc hL
      generalize L k = l at hcell hLk
      generalize A k = ak at hcell
      generalize C k = ck at hcell
      go_wp2
      · go_ret
        exact ⟨⟨1048577, by omega, rfl⟩, rfl⟩
      · go_round
        case rel => exact ⟨k + 1, z + (24 + l), by omega, by go_num, by go_num, by omega⟩
        case measure => simp [intOf]; omega
    · go_wp2
      go_ret
      exact ⟨⟨z, by omega, rfl⟩, rfl⟩

/-- it returned a bool that, where it is true, tells something -/
def Tells (e : Ending) (Q : Prop) : Prop := ∃ b : Bool, e = .returned (.bool b) ∧ (b = true → Q)

set_option maxHeartbeats 1000000 in
/-- allNonEmpty -/
theorem non21 (a : Option Addr) (n c : Nat) (A : Nat → Option Addr) (L C : Nat → Nat) (w : World) (hn : n ≤ 1048576) (h : VRow w a n (fun i => .slice (A i) (L i) (C i))) :
    Calls Try.prog 21 #[.slice a n c] w fun e w' => Tells e (∀ i, i < n → L i ≠ 0) ∧ w = w' := by
  go_enter Try.func21, Try.ntmps21
  go_wp2
  go_loop [3] (fun i => ∃ k : Nat, k ≤ n ∧ i = .int .i64 (k : Nat) ∧ (∀ j, j < k → L j ≠ 0)) (fun i => n - (intOf i).toNat)
  case atStart => exact ⟨0, by omega, rfl, fun j h => by omega⟩
  case round =>
    obtain ⟨k, hk, rfl, hall⟩ := hrel
    have HA : Hid (∀ j, j < k → L j ≠ 0) := hall
    clear hall
    by_cases hlt : k < n
    · rcases h with h | ⟨b, off, rfl, hb, hc⟩
      · omega
      have hcell : w.cell? ⟨b, off + k, none⟩ = some (.slice (A k) (L k) (C k)) := hc k hlt
      clear hc
      obtain ⟨l, HL⟩ : ∃ l, Hid (L k = l) := ⟨_, rfl⟩
      rw [HL.out] at hcell
      generalize A k = ak at hcell
      generalize C k = ck at hcell
      by_cases h0 : l = 0
      · subst h0
        go_wp2
        go_ret
        exact ⟨⟨false, rfl, fun h => by cases h⟩, rfl⟩
      · have hl0 : ((l : Int) == 0) = false := by simp; omega
        go_wp2
        go_round
        case rel => exact ⟨k + 1, by omega, by go_num, fun j hj => by by_cases e : j = k; (rw [e, HL.out]; exact h0); exact HA.out j (by omega)⟩
        case measure => simp [intOf]; omega
    · have hkn : k = n := by omega
      subst hkn
      go_wp2
      go_ret
      exact ⟨⟨true, rfl, fun _ => HA.out⟩, rfl⟩

set_option maxHeartbeats 1000000 in
/-- nalType -/
theorem nal27 (a : Option Addr) (n c : Nat) (D : Nat → Nat) (w : World) (hn : n ≠ 0) (hD : D 0 < 256) (h : Bytes w a n D) :
    Calls Try.prog 27 #[.slice a n c] w fun e w' => e = .returned (.int .i64 ((D 0 % 32 : Nat) : Int)) ∧ w = w' := by
  rcases h with h | ⟨b, off, rfl, hb, hc⟩
  · omega
  have hcell := hc 0 (by omega)
  rw [Nat.add_zero] at hcell
  have hpos : 0 < n := by omega
  clear hc
  go_enter Try.func27, Try.ntmps27
  go_wp2
  go_ret
  exact ⟨by rw [Int.natCast_emod]; rfl, rfl⟩

set_option maxHeartbeats 1000000 in
/-- allOfType -/
theorem type22 (a : Option Addr) (n c t : Nat) (A : Nat → Option Addr) (L C : Nat → Nat) (B : Nat → Nat → Nat) (w : World) (hn : n ≤ 1048576) (hD : ∀ i j, B i j < 256) (h : Uns w a n A L C B) :
    Calls Try.prog 22 #[.slice a n c, .int .i64 t] w fun e w' => Tells e (∀ i, i < n → L i ≠ 0 ∧ B i 0 % 32 = t) ∧ w = w' := by
  obtain ⟨h, hby⟩ := h
  have HBY : Hid (∀ i, i < n → Bytes w (A i) (L i) (B i)) := hby
  clear hby
  go_enter Try.func22, Try.ntmps22
  go_wp2
  go_loop [5] (fun i => ∃ k : Nat, k ≤ n ∧ i = .int .i64 (k : Nat) ∧ (∀ j, j < k → L j ≠ 0 ∧ B j 0 % 32 = t)) (fun i => n - (intOf i).toNat)
  case atStart => exact ⟨0, by omega, rfl, fun j h => by omega⟩
  case round =>
    obtain ⟨k, hk, rfl, hall⟩ := hrel
    have HA : Hid (∀ j, j < k → L j ≠ 0 ∧ B j 0 % 32 = t) := hall
    clear hall
    by_cases hlt : k < n
    · rcases h with h | ⟨b, off, rfl, hb, hc⟩
      · omega
      have hcell : w.cell? ⟨b, off + k, none⟩ = some (.slice (A k) (L k) (C k)) := hc k hlt
      have hb0 := hD k 0
      have hby := HBY.out k hlt
      clear hc hD
      obtain ⟨l, HL⟩ : ∃ l, Hid (L k = l) := ⟨_, rfl⟩
      obtain ⟨d, HDD⟩ : ∃ d, Hid (B k = d) := ⟨_, rfl⟩
      rw [HL.out] at hcell hby
      rw [HDD.out] at hby hb0
      generalize A k = ak at hcell hby
      generalize C k = ck at hcell
      by_cases h0 : l = 0
      · subst h0
        go_wp2
        go_ret
        exact ⟨⟨false, rfl, fun h => by cases h⟩, rfl⟩
      · have hl0 : ((l : Int) == 0) = false := by simp; omega
        go_wp2_with fail
        refine (nal27 ak l ck d _ h0 hb0 hby).mono ?_
        rintro e w' ⟨rfl, rfl⟩
        generalize hm : d 0 % 32 = m
        have HM : Hid (d 0 % 32 = m) := hm
        clear hm
        by_cases hmt : m = t
        · have hne : ((m : Int) != (t : Int)) = false := by simp [hmt]
          have HMT : Hid (m = t) := hmt
          clear hmt
          go_wp2_with fail
          go_round
          case rel => exact ⟨k + 1, by omega, by go_num, fun j hj => by by_cases e : j = k; (rw [e, HL.out, HDD.out, HM.out]; exact ⟨h0, HMT.out⟩); exact HA.out j (by omega)⟩
          case measure => simp [intOf]; omega
        · have hne : ((m : Int) != (t : Int)) = true := by simp; omega
          go_wp2_with fail
          go_ret
          exact ⟨⟨false, rfl, fun h => by cases h⟩, rfl⟩
    · have hkn : k = n := by omega
      subst hkn
      go_wp2
      go_ret
      exact ⟨⟨true, rfl, fun _ => HA.out⟩, rfl⟩
end Go.Proofs.Qxb6001091a.H264
