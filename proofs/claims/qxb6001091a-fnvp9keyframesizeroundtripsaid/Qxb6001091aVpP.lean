/-
  Bits packed into bytes, the highest bit of each byte first: the plain law. No Go in sight.
-/
import Derived.Test.Qxb6001091aVpA
namespace Go.Proofs.Qxb6001091a.Bits
open Go.RowKit

/-- the first k bits of Z have been packed into f -/
def Packed (Z : Nat → Nat) (k : Nat) (f : Nat → Nat) : Prop :=
  (∀ q, f q < 256) ∧ ∀ q j, j < 8 → (f q).testBit (7 - j) = (decide (8 * q + j < k) && decide (Z (8 * q + j) = 1))

theorem packed_zero (Z : Nat → Nat) : Packed Z 0 (fun _ => 0) := ⟨fun _ => Nat.zero_lt_succ _, fun q j _ => by simp⟩
theorem packed_skip {Z : Nat → Nat} {k : Nat} {f : Nat → Nat} (h : Packed Z k f) (hz : Z k ≠ 1) : Packed Z (k + 1) f := by
  refine ⟨h.1, fun q j hj => ?_⟩
  rw [h.2 q j hj]
  by_cases e : 8 * q + j = k
  · rw [e]; simp [hz]
  · have : decide (8 * q + j < k + 1) = decide (8 * q + j < k) := by rw [decide_eq_decide]; omega
    rw [this]
def laid (k : Nat) (f : Nat → Nat) (q : Nat) : Nat := if q = k / 8 then f q ||| 2 ^ (7 - k % 8) else f q
theorem packed_set {Z : Nat → Nat} {k : Nat} {f : Nat → Nat} (h : Packed Z k f) (hz : Z k = 1) : Packed Z (k + 1) (laid k f) := by
  have hp : 2 ^ (7 - k % 8) < 256 := by
    have : 2 ^ (7 - k % 8) ≤ 2 ^ 7 := Nat.pow_le_pow_right (by omega) (by omega)
    omega
  refine ⟨fun q => ?_, fun q j hj => ?_⟩
  · unfold laid
    split
    · exact Nat.or_lt_two_pow (n := 8) (h.1 q) hp
    · exact h.1 q
  · unfold laid
    by_cases e : q = k / 8
    · rw [if_pos e, Nat.testBit_or, h.2 q j hj, Nat.testBit_two_pow]
      by_cases e2 : 8 * q + j = k
      · have e3 : 7 - k % 8 = 7 - j := by omega
        rw [e2, e3]; simp [hz]
      · have e3 : ¬ 7 - k % 8 = 7 - j := by omega
        have e4 : decide (8 * q + j < k + 1) = decide (8 * q + j < k) := by rw [decide_eq_decide]; omega
        rw [e4, decide_eq_false e3, Bool.or_false]
    · rw [if_neg e, h.2 q j hj]
      have e4 : decide (8 * q + j < k + 1) = decide (8 * q + j < k) := by rw [decide_eq_decide]; omega
      rw [e4]
theorem packed_bit {Z : Nat → Nat} {N : Nat} {f : Nat → Nat} (h : Packed Z N f) (i : Nat) (hi : i < N) (hz : Z i < 2) : bit f i = Z i := by
  have h1 := h.2 (i / 8) (i % 8) (by omega)
  rw [show 8 * (i / 8) + i % 8 = i from by omega, decide_eq_true hi, Bool.true_and, Nat.testBit_eq_decide_div_mod_eq, decide_eq_decide] at h1
  unfold bit
  have hm : f (i / 8) / 2 ^ (7 - i % 8) % 2 < 2 := Nat.mod_lt _ (by omega)
  by_cases e : Z i = 1
  · rw [h1.2 e, e]
  · have : ¬ f (i / 8) / 2 ^ (7 - i % 8) % 2 = 1 := fun hh => e (h1.1 hh)
    omega
/-- Go's 'd | 0x80>>s', as the walk writes it -/
theorem or_val (d s : Nat) (hd : d < 256) (hs : s < 8) : bits .or .u8 (d : Int) (128 / 2 ^ s) = ((d ||| 2 ^ (7 - s) : Nat) : Int) := by
  have e : (128 / 2 ^ s : Int) = ((2 ^ (7 - s) : Nat) : Int) := by
    have hs' : s = 0 ∨ s = 1 ∨ s = 2 ∨ s = 3 ∨ s = 4 ∨ s = 5 ∨ s = 6 ∨ s = 7 := by omega
    rcases hs' with rfl | rfl | rfl | rfl | rfl | rfl | rfl | rfl <;> rfl
  have hp : 2 ^ (7 - s) < 256 := by
    have : 2 ^ (7 - s) ≤ 2 ^ 7 := Nat.pow_le_pow_right (by omega) (by omega)
    omega
  rw [e, or_u8_nat _ _ hd hp]
theorem row_laid {w : World} {fb L k : Nat} {f : Nat → Nat} {V : Int} (h : w.rowIs fb 5 L (fun q => .int .u8 (f q))) (hV : V = ((f (k / 8) ||| 2 ^ (7 - k % 8) : Nat) : Int)) :
    (w.setCell ⟨fb, k / 8, none⟩ (.int .u8 V)).rowIs fb 5 L (fun q => .int .u8 (laid k f q)) := by
  subst hV
  refine (h.set (k / 8) _).congr (fun i _ => ?_)
  unfold laid
  by_cases e : i = k / 8
  · subst e; simp
  · rw [if_neg e, if_neg e]
def tailed (m d : Nat) (g : Nat → Nat) (q : Nat) : Nat := if q = m then d else g q
theorem row_tailed {w : World} {fb L m d : Nat} {g : Nat → Nat} (h : w.rowIs fb 5 L (fun q => .int .u8 (g q))) :
    (w.setCell ⟨fb, m, none⟩ (.int .u8 (d : Nat))).rowIs fb 5 L (fun q => .int .u8 (tailed m d g q)) := by
  refine (h.set m _).congr (fun i _ => ?_)
  unfold tailed
  by_cases e : i = m
  · subst e; simp
  · rw [if_neg e, if_neg e]
/-- the frame's bits are the header's -/
theorem suf_of_packed {bl : List Nat} {f g : Nat → Nat} {nb n : Nat} (h2 : ∀ b ∈ bl, b < 2) (h : Packed (fun i => bl.getD i 0) bl.length f) (hg : ∀ q, q < nb → g q = f q) (hnb : bl.length ≤ 8 * nb) :
    Suf g (8 * (nb + n)) 0 bl := by
  refine ⟨by omega, fun i hi => ?_⟩
  rw [Nat.zero_add]
  have hz : bl.getD i 0 < 2 := by
    rw [List.getD_eq_getElem?_getD, List.getElem?_eq_getElem hi]
    exact h2 _ (List.getElem_mem hi)
  rw [← packed_bit h i hi hz]
  unfold bit
  rw [hg (i / 8) (by omega)]
end Go.Proofs.Qxb6001091a.Bits
