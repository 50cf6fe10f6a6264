/- The reader's contracts over a list of bits; vp9ReadProfile. -/
import Derived.Test.Qxb6001091aVpA
namespace Go.Proofs.Qxb6001091a.Bits
open Go.RowKit

/-- a reader at rb whose next bits are bs; all below B as it was -/
def Vr (B : Nat) (w0 w : World) (rb : Nat) (a : Option Addr) (n c : Nat) (D : Nat → Nat) (bs : List Nat) : Prop :=
  ∃ p, Rd w rb a n c p false ∧ Bytes w a n D ∧ Below B w0 w ∧ Suf D (8 * n) p bs

theorem vr_next {B : Nat} {w0 w w' : World} {rb n c : Nat} {a : Option Addr} {D : Nat → Nat} {p p' : Nat} {bs : List Nat} (hB : B ≤ rb) (hab : ∀ x, a = some x → x.block < rb)
    (hby : Bytes w a n D) (hbl : Below B w0 w) (hT : Touch rb w w') (hR : Rd w' rb a n c p' false) (hs : Suf D (8 * n) p bs) (hp : p' = p) : Vr B w0 w' rb a n c D bs := by
  subst hp
  refine ⟨p', hR, ?_, hbl.trans (hT.below hB), hs⟩
  rcases hby with h0 | ⟨b, off, h1, h2, h3⟩
  · exact .inl h0
  · exact .inr ⟨b, off, h1, by rw [hT.size]; exact h2, fun i hi => by rw [hT.cell (p := ⟨b, off + i, none⟩) (by have := hab _ h1; simp at this ⊢; omega)]; exact h3 i hi⟩

/-- what holds of the reader all along -/
structure Fix (B rb n : Nat) (a : Option Addr) (D : Nat → Nat) : Prop where
  n : n ≤ 16777216
  d : ∀ i, D i < 256
  b : B ≤ rb
  ab : ∀ x, a = some x → x.block < rb

/-- a read of a number that stands next -/
theorem readV {B : Nat} {w0 w : World} {rb n c : Nat} {a : Option Addr} {D : Nat → Nat} {v k : Nat} {bs : List Nat} (F : Fix B rb n a D) (hk : k ≤ 32) (hv : v < 2 ^ k) (h : Vr B w0 w rb a n c D (bitsOf v k ++ bs)) :
    Calls Try.prog 39 #[.pointer (some ⟨rb, 0, none⟩), .int .i64 k] w fun e w' => e = .returned (.int .i64 v) ∧ Vr B w0 w' rb a n c D bs := by
  obtain ⟨p, hR, hby, hbl, hs⟩ := h
  refine (read39 rb a n c p k false D w F.n hk (by have := hs.1; omega) F.d hR hby F.ab).mono ?_
  rintro e w' ⟨rfl, hR', hT⟩
  obtain ⟨r1, r2, r3, r4⟩ := suf_read hs hv
  rw [r3] at hR'
  exact ⟨by rw [r1], vr_next F.b F.ab hby hbl hT hR' r4 r2⟩
/-- a read past free bits -/
theorem readS {B : Nat} {w0 w : World} {rb n c : Nat} {a : Option Addr} {D : Nat → Nat} {k : Nat} {x bs : List Nat} (F : Fix B rb n a D) (hk : k ≤ 32) (hx : x.length = k) (h : Vr B w0 w rb a n c D (x ++ bs)) :
    Calls Try.prog 39 #[.pointer (some ⟨rb, 0, none⟩), .int .i64 k] w fun e w' => (∃ z : Nat, e = .returned (.int .i64 z)) ∧ Vr B w0 w' rb a n c D bs := by
  obtain ⟨p, hR, hby, hbl, hs⟩ := h
  refine (read39 rb a n c p k false D w F.n hk (by have := hs.1; omega) F.d hR hby F.ab).mono ?_
  rintro e w' ⟨rfl, hR', hT⟩
  obtain ⟨r2, r3, r4⟩ := suf_skip hs hx
  rw [r3] at hR'
  exact ⟨⟨_, rfl⟩, vr_next F.b F.ab hby hbl hT hR' r4 r2⟩

set_option maxHeartbeats 1000000 in
/-- vp9ReadProfile -/
theorem prof38 {B : Nat} {w0 w : World} {rb n c : Nat} {a : Option Addr} {D : Nat → Nat} {P : Nat} {x1 bs : List Nat} (F : Fix B rb n a D) (hP : P ≤ 3) (hx : x1.length = if P = 3 then 1 else 0)
    (h : Vr B w0 w rb a n c D (bitsOf 2 2 ++ (bitsOf (P % 2) 1 ++ (bitsOf (P / 2) 1 ++ (x1 ++ bs))))) :
    Calls Try.prog 38 #[.pointer (some ⟨rb, 0, none⟩)] w fun e w' => e = .returned (.tuple #[.int .i64 P, .bool true]) ∧ Vr B w0 w' rb a n c D bs := by
  go_enter Try.func38, Try.ntmps38
  go_wp2_with fail
  refine (readV (v := 2) (k := 2) F (by omega) (by omega) h).mono ?_
  rintro e w1 ⟨rfl, h1⟩
  clear h
  go_wp2_with fail
  refine (readV (v := P % 2) (k := 1) F (by omega) (by omega) h1).mono ?_
  rintro e w2 ⟨rfl, h2⟩
  clear h1
  go_wp2_with fail
  refine (readV (v := P / 2) (k := 1) F (by omega) (by omega) h2).mono ?_
  rintro e w3 ⟨rfl, h3⟩
  clear h2
  have hPs : P = 0 ∨ P = 1 ∨ P = 2 ∨ P = 3 := by omega
  rcases hPs with rfl | rfl | rfl | rfl
  · have hx0 : x1 = [] := by simpa using hx
    subst hx0
    have hb : bits .or .i64 0 0 = 0 := by decide
    go_wp2_with fail
    go_ret2
    exact ⟨rfl, h3⟩
  · have hx0 : x1 = [] := by simpa using hx
    subst hx0
    have hb : bits .or .i64 0 1 = 1 := by decide
    go_wp2_with fail
    go_ret2
    exact ⟨rfl, h3⟩
  · have hx0 : x1 = [] := by simpa using hx
    subst hx0
    have hb : bits .or .i64 2 0 = 2 := by decide
    go_wp2_with fail
    go_ret2
    exact ⟨rfl, h3⟩
  · have hb : bits .or .i64 2 1 = 3 := by decide
    go_wp2_with fail
    refine (readS (k := 1) F (by omega) (by simpa using hx) h3).mono ?_
    rintro e w4 ⟨⟨z, rfl⟩, h4⟩
    go_wp2_with fail
    go_ret2
    exact ⟨rfl, h4⟩
end Go.Proofs.Qxb6001091a.Bits
