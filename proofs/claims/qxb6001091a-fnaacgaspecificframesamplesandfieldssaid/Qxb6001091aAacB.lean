/- ZZAACGASpecific; the plain law on the bits consumed. -/
import Derived.Test.Qxb6001091aAacA
namespace Go.Proofs.Qxb6001091a.Bits
open Go.RowKit

/-- what ZZAACGASpecific leaves -/
def Zz (B : Nat) (w : World) (cb n : Nat) (D : Nat → Nat) (ot rate ch : Int) (sbr ps : Bool) (p : Nat) (e : Ending) (w' : World) : Prop :=
  e = .returned (.tuple #[.int .i64 (aac D (8 * n) ch p false).1, .bool (aac D (8 * n) ch p false).2]) ∧
    w'.rowIs cb 48 6 (cfgCells ot rate ch (frame D (8 * n) p) sbr ps) ∧ Below B w w'

theorem rd_new (w : World) (a : Option Addr) (n c p : Nat) : Rd (w.alloc (.cells #[.slice a n c, .int .i64 p, .bool false] 58)) w.heap.size a n c p false := by
  refine World.rowIs_alloc w #[.slice a n c, .int .i64 p, .bool false] 58 (rdCells a n c p false) (fun i hi => ?_)
  have hi' : i < 3 := hi
  match i, hi' with
  | 0, _ => rfl
  | 1, _ => rfl
  | 2, _ => rfl

set_option maxHeartbeats 1000000 in
/-- ZZAACGASpecific -/
theorem zz31 (B cb : Nat) (a : Option Addr) (n c p : Nat) (D : Nat → Nat) (ot rate ch fs : Int) (sbr ps : Bool) (w : World) (hn : n ≤ 16777216) (hD : ∀ i, D i < 256) (hp : p ≤ 8 * n)
    (hcb : B ≤ cb) (hab : ∀ x, a = some x → x.block < cb) (hcfg : w.rowIs cb 48 6 (cfgCells ot rate ch fs sbr ps)) (hbyt : Bytes w a n D) :
    Calls Try.prog 31 #[.slice a n c, .int .i64 p, .pointer (some ⟨cb, 0, none⟩)] w fun e w' => Zz B w cb n D ot rate ch sbr ps p e w' := by
  have hlt := hcfg.lt
  have hb0 : Below B w (w.alloc (.cells #[.slice a n c, .int .i64 p, .bool false] 58)) := (Below.refl _ _).alloc (by omega) _
  have h : Aac B w (w.alloc (.cells #[.slice a n c, .int .i64 p, .bool false] 58)) w.heap.size cb a n c D ot rate ch fs sbr ps p false :=
    ⟨rd_new w a n c p, hcfg.alloc _, hbyt.mono ((Below.refl _ _).alloc (Nat.le_refl _) _), hb0, hp⟩
  have HAB : Hid (∀ x, a = some x → x.block < cb) := hab
  clear hab hcfg hbyt hb0
  go_enter Try.func31, Try.ntmps31
  go_wp2_with fail
  refine (aac37 B w.heap.size cb a n c p false D ot rate ch fs sbr ps w _ hn hD hcb hlt HAB.out h).mono ?_
  rintro e w1 ⟨rfl, h1⟩
  clear h
  have c1 : w1.cell? ⟨w.heap.size, 1, none⟩ = some (.int .i64 ((aac D (8 * n) ch p false).1 : Nat)) := h1.rd.cell (i := 1) (by omega)
  have c2 : w1.cell? ⟨w.heap.size, 2, none⟩ = some (.bool (aac D (8 * n) ch p false).2) := h1.rd.cell (i := 2) (by omega)
  go_wp2_with fail
  go_quiet (fail)
  go_wp2
  go_ret2
  exact ⟨rfl, h1.cfg, ⟨h1.bel.os, h1.bel.tape, h1.bel.output, h1.bel.size, h1.bel.block⟩⟩

/-! ### the plain law -/
theorem rd_cases (T p k : Nat) (s : Bool) : (p + k ≤ T ∧ rdPos T p k = p + k ∧ rdSh T p k s = s) ∨ (T < p + k ∧ rdPos T p k = T ∧ rdSh T p k s = true) := by
  unfold rdPos rdSh
  by_cases h : p + k ≤ T
  · simp [h]
  · simp [h]; omega
theorem rdVal_short (D : Nat → Nat) (T p k : Nat) (h : T < p + k) : rdVal D T p k = 0 := by unfold rdVal; rw [if_neg (by omega)]

theorem mid_law (D : Nat → Nat) (T p : Nat) (s : Bool) (hp : p ≤ T) : ((mid D T p s).1 ≤ T ∧ (mid D T p s).2 = s ∧ ((mid D T p s).1 = p + 1 ∨ (mid D T p s).1 = p + 15)) ∨ ((mid D T p s).1 = T ∧ (mid D T p s).2 = true ∧ T ≤ p + 14) := by
  unfold mid
  by_cases hv : rdVal D T p 1 = 1
  · rw [if_pos hv]
    simp only
    rcases rd_cases T p 1 s with ⟨a, b, c⟩ | ⟨a, b, c⟩
    · rw [b, c]
      rcases rd_cases T (p + 1) 14 s with ⟨a', b', c'⟩ | ⟨a', b', c'⟩
      · rw [b', c']; left; exact ⟨by omega, rfl, .inr (by omega)⟩
      · rw [b', c']; right; exact ⟨rfl, rfl, by omega⟩
    · rw [rdVal_short D T p 1 a] at hv; omega
  · rw [if_neg hv]
    simp only
    rcases rd_cases T p 1 s with ⟨a, b, c⟩ | ⟨a, b, c⟩
    · rw [b, c]; left; exact ⟨by omega, rfl, .inl rfl⟩
    · rw [b, c]; right; exact ⟨rfl, rfl, by omega⟩
theorem fin_law (D : Nat → Nat) (T : Nat) (ch : Int) (p : Nat) (s : Bool) (hp : p ≤ T) : ((fin D T ch p s).1 ≤ T ∧ (fin D T ch p s).2 = s ∧ ((fin D T ch p s).1 = p + 1 ∨ (ch ≠ 0 ∧ (fin D T ch p s).1 = p + 2))) ∨ ((fin D T ch p s).1 = T ∧ (fin D T ch p s).2 = true ∧ T ≤ p + 1) := by
  unfold fin
  by_cases hv : ch ≠ 0 ∧ rdVal D T p 1 = 1
  · rw [if_pos hv]
    simp only
    rcases rd_cases T p 1 s with ⟨a, b, c⟩ | ⟨a, b, c⟩
    · rw [b, c]
      rcases rd_cases T (p + 1) 1 s with ⟨a', b', c'⟩ | ⟨a', b', c'⟩
      · rw [b', c']; left; exact ⟨by omega, rfl, .inr ⟨hv.1, by omega⟩⟩
      · rw [b', c']; right; exact ⟨rfl, rfl, by omega⟩
    · rw [rdVal_short D T p 1 a] at hv; omega
  · rw [if_neg hv]
    simp only
    rcases rd_cases T p 1 s with ⟨a, b, c⟩ | ⟨a, b, c⟩
    · rw [b, c]; left; exact ⟨by omega, rfl, .inl rfl⟩
    · rw [b, c]; right; exact ⟨rfl, rfl, by omega⟩
/-- a complete read takes 3 or 17 bits, or, where there are channels, 4 or 18; a short one stands at the end, with at most 17 bits left -/
theorem aac_law (D : Nat → Nat) (T : Nat) (ch : Int) (p : Nat) (hp : p ≤ T) :
    ((aac D T ch p false).2 = false ∧ ((aac D T ch p false).1 = p + 3 ∨ (aac D T ch p false).1 = p + 17 ∨ (ch ≠ 0 ∧ ((aac D T ch p false).1 = p + 4 ∨ (aac D T ch p false).1 = p + 18)))) ∨
    ((aac D T ch p false).2 = true ∧ (aac D T ch p false).1 = T ∧ T ≤ p + 17) := by
  unfold aac
  rcases rd_cases T p 1 false with ⟨a, b, c⟩ | ⟨a, b, c⟩
  · rw [b, c]
    rcases mid_law D T (p + 1) false (by omega) with ⟨m1, m2, m3⟩ | ⟨m1, m2, m3⟩
    · rw [m2]
      rcases fin_law D T ch (mid D T (p + 1) false).1 false m1 with ⟨f1, f2, f3⟩ | ⟨f1, f2, f3⟩
      · left; refine ⟨f2, ?_⟩; omega
      · right; exact ⟨f2, f1, by omega⟩
    · rw [m2, m1]
      rcases fin_law D T ch T true (Nat.le_refl _) with ⟨f1, f2, f3⟩ | ⟨f1, f2, f3⟩
      · omega
      · right; exact ⟨f2, f1, by omega⟩
  · rw [b, c]
    rcases mid_law D T T true (Nat.le_refl _) with ⟨m1, m2, m3⟩ | ⟨m1, m2, m3⟩
    · omega
    · rw [m2, m1]
      rcases fin_law D T ch T true (Nat.le_refl _) with ⟨f1, f2, f3⟩ | ⟨f1, f2, f3⟩
      · omega
      · right; exact ⟨f2, f1, by omega⟩
end Go.Proofs.Qxb6001091a.Bits
