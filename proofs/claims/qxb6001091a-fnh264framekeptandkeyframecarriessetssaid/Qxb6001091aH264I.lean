/- The law on H264: the plain part. -/
import Derived.Test.Qxb6001091aH264H
namespace Go.Proofs.Qxb6001091a.H264
open Go.RowKit
open Go.Proofs.Qxb6001091a.Bits (Bytes Touch IsBool num_eq info5)

/-- the types of what came out -/
def ty (T : Nat → Nat) (z sN pN i : Nat) : Nat := if i < z then T i else if i < z + sN then 7 else if i < z + (sN + pN) then 8 else T (i - (sN + pN))

theorem outs_types {w0 wz : World} {n m7 m8 on z sN pN : Nat} {V O : Nat → Value} {T : Nat → Nat} {oa : Option Addr} (h : Outs w0 wz n V T m7 m8 oa on O z sN pN) (hN : ∀ i, i < n → Nal w0 (V i) (T i)) :
    ∀ i, i < on → Nal wz (O i) (ty T z sN pN i) := by
  intro i hi
  have hnum := h.num
  have hle := h.le
  unfold ty
  by_cases h1 : i < z
  · rw [if_pos h1, h.fst i h1]
    exact (hN i (by omega)).mono h.bel
  · rw [if_neg h1]
    by_cases h2 : i < z + sN
    · rw [if_pos h2]
      have := h.sps (i - z) (by omega)
      rw [show z + (i - z) = i by omega] at this
      exact this
    · rw [if_neg h2]
      by_cases h3 : i < z + (sN + pN)
      · rw [if_pos h3]
        have := h.pps (i - (z + sN)) (by omega)
        rw [show z + sN + (i - (z + sN)) = i by omega] at this
        exact this
      · rw [if_neg h3]
        have := h.lst (i - (sN + pN)) (by omega) (by omega)
        rw [show i - (sN + pN) + (sN + pN) = i by omega] at this
        rw [this]
        exact (hN _ (by omega)).mono h.bel
theorem ty_any {T : Nat → Nat} {n z sN pN t : Nat} (h : anyT T t n = true) : anyT (ty T z sN pN) t (n + (sN + pN)) = true := by
  obtain ⟨i, h1, h2⟩ := (anyT_iff T t n).1 h
  refine (anyT_iff _ t _).2 ?_
  by_cases e : i < z
  · exact ⟨i, by omega, by unfold ty; rw [if_pos e]; exact h2⟩
  · exact ⟨i + (sN + pN), by omega, by unfold ty; rw [if_neg (by omega), if_neg (by omega), if_neg (by omega), Nat.add_sub_cancel]; exact h2⟩
theorem outs_seven {w0 wz : World} {n m7 m8 on z sN pN : Nat} {V O : Nat → Value} {T : Nat → Nat} {oa : Option Addr} (h : Outs w0 wz n V T m7 m8 oa on O z sN pN) (h5 : anyT T 5 n = true) (h7 : anyT T 7 n = true ∨ m7 ≠ 0) : anyT (ty T z sN pN) 7 on = true := by
  rw [h.num]
  rcases h.has7 h5 h7 with e | e
  · exact ty_any e
  · refine (anyT_iff _ 7 _).2 ⟨z, by have := h.le; omega, ?_⟩
    unfold ty
    rw [if_neg (by omega), if_pos (by omega)]
theorem outs_eight {w0 wz : World} {n m7 m8 on z sN pN : Nat} {V O : Nat → Value} {T : Nat → Nat} {oa : Option Addr} (h : Outs w0 wz n V T m7 m8 oa on O z sN pN) (h5 : anyT T 5 n = true) (h8 : anyT T 8 n = true ∨ m8 ≠ 0) : anyT (ty T z sN pN) 8 on = true := by
  rw [h.num]
  rcases h.has8 h5 h8 with e | e
  · exact ty_any e
  · refine (anyT_iff _ 8 _).2 ⟨z + sN, by have := h.le; omega, ?_⟩
    unfold ty
    rw [if_neg (by omega), if_neg (by omega), if_pos (by omega)]

/-- where the law lays the cut -/
structure At (wz : World) (n d sN : Nat) (V O : Nat → Value) (z : Nat) : Prop where
  le : z ≤ n
  fst : ∀ j, j < z → O j = V j
  lst : ∀ j, z ≤ j → j < n → O (j + d) = V j
  new : ∀ j, j < d → Nal wz (O (z + j)) (if j < sN then 7 else 8)
theorem at_z {w0 wz : World} {n m7 m8 on z sN pN d : Nat} {V O : Nat → Value} {T : Nat → Nat} {oa : Option Addr} (h : Outs w0 wz n V T m7 m8 oa on O z sN pN) (hd : sN + pN = d) : At wz n d sN V O z := by
  subst hd
  refine ⟨h.le, h.fst, h.lst, fun j hj => ?_⟩
  by_cases e : j < sN
  · rw [if_pos e]; exact h.sps j e
  · rw [if_neg e]
    have := h.pps (j - sN) (by omega)
    rw [show z + sN + (j - sN) = z + j by omega] at this
    exact this
theorem at_0 {w0 wz : World} {n m7 m8 on z sN pN d : Nat} {V O : Nat → Value} {T : Nat → Nat} {oa : Option Addr} (h : Outs w0 wz n V T m7 m8 oa on O z sN pN) (hd : sN + pN = d) (h0 : d = 0) : At wz n d sN V O 0 := by
  refine ⟨by omega, fun j h => by omega, fun j _ hj => ?_, fun j h => by omega⟩
  subst h0
  by_cases e : j < z
  · exact h.fst j e
  · have := h.lst j (by omega) hj
    rw [hd] at this
    exact this
theorem Nal.drewN {w : World} {v : Value} {t : Nat} (h : Nal w v t) (nq : Nat) : Nal (w.drewN nq) v t :=
  h.mono ⟨rfl, rfl, rfl, Nat.le_refl _, fun _ _ => rfl⟩
theorem below_drewN {B : Nat} {a w : World} (h : Below B a w) (nq : Nat) : Below B a (w.drewN nq) := h.trans ⟨rfl, rfl, rfl, Nat.le_refl _, fun _ _ => rfl⟩
theorem VRow.drewN {w : World} {a : Option Addr} {n : Nat} {V : Nat → Value} (h : VRow w a n V) (nq : Nat) : VRow (w.drewN nq) a n V :=
  h.mono ⟨rfl, rfl, rfl, Nat.le_refl _, fun _ _ => rfl⟩
end Go.Proofs.Qxb6001091a.H264
