/- Bits written one a byte (putBits, fillBit), and read back as a list. -/
import Derived.Test.Qxb6001091aBitsA
namespace Go.Proofs.Qxb6001091a.Bits
open Go.RowKit

/-- the lowest k bits of v, the highest first -/
def bitsOf (v : Nat) : Nat → List Nat
  | 0 => []
  | k + 1 => bitsOf (v / 2) k ++ [v % 2]
theorem bitsOf_len (k : Nat) : ∀ v, (bitsOf v k).length = k := by
  induction k with
  | zero => intro v; rfl
  | succ k ih => intro v; simp [bitsOf, ih]
theorem bitsOf_get (k : Nat) : ∀ v j, j < k → (bitsOf v k)[j]? = some (v / 2 ^ (k - 1 - j) % 2) := by
  induction k with
  | zero => intro v j h; omega
  | succ k ih =>
    intro v j h
    simp only [bitsOf]
    by_cases e : j < k
    · rw [List.getElem?_append_left (by rw [bitsOf_len]; exact e), ih (v / 2) j e, Nat.div_div_eq_div_mul]
      rw [show k + 1 - 1 - j = (k - 1 - j) + 1 from by omega, Nat.pow_succ, Nat.mul_comm 2]
    · have : j = k := by omega
      subst this
      rw [List.getElem?_append_right (by rw [bitsOf_len]; exact Nat.le_refl _), bitsOf_len]
      simp

/-- the bits of D from place p on read as the list bs, all within T bits -/
def Suf (D : Nat → Nat) (T p : Nat) (bs : List Nat) : Prop := p + bs.length ≤ T ∧ ∀ i, i < bs.length → bit D (p + i) = bs.getD i 0

theorem suf_bits (D : Nat → Nat) (k : Nat) : ∀ p v, (∀ i, i < k → bit D (p + i) = (bitsOf v k).getD i 0) → bitsV D p k = v % 2 ^ k := by
  induction k with
  | zero => intro p v h; simp [bitsV]; omega
  | succ k ih =>
    intro p v h
    have h1 : bitsV D p k = v / 2 % 2 ^ k := by
      refine ih p (v / 2) (fun i hi => ?_)
      rw [h i (by omega)]
      simp only [bitsOf]
      rw [List.getD_eq_getElem?_getD, List.getD_eq_getElem?_getD, List.getElem?_append_left (by rw [bitsOf_len]; exact hi)]
    have h2 : bit D (p + k) = v % 2 := by
      rw [h k (by omega)]
      simp only [bitsOf]
      rw [List.getD_eq_getElem?_getD, List.getElem?_append_right (by rw [bitsOf_len]; exact Nat.le_refl _), bitsOf_len]
      simp
    simp only [bitsV]
    rw [h1, h2, Nat.pow_succ]
    have : v % (2 ^ k * 2) = 2 * (v / 2 % 2 ^ k) + v % 2 := by
      rw [Nat.mul_comm, Nat.mod_mul]
      omega
    omega

/-- reading a number that stands next -/
theorem suf_read {D : Nat → Nat} {T p v k : Nat} {bs : List Nat} (h : Suf D T p (bitsOf v k ++ bs)) (hv : v < 2 ^ k) :
    rdVal D T p k = v ∧ rdPos T p k = p + k ∧ rdSh T p k false = false ∧ Suf D T (p + k) bs := by
  obtain ⟨h1, h2⟩ := h
  rw [List.length_append, bitsOf_len] at h1
  have hle : p + k ≤ T := by omega
  refine ⟨?_, ?_, ?_, by omega, fun i hi => ?_⟩
  · unfold rdVal; rw [if_pos hle, suf_bits D k p v ?_, Nat.mod_eq_of_lt hv]
    intro i hi
    rw [h2 i (by rw [List.length_append, bitsOf_len]; omega), List.getD_eq_getElem?_getD, List.getD_eq_getElem?_getD, List.getElem?_append_left (by rw [bitsOf_len]; exact hi)]
  · unfold rdPos; rw [if_pos hle]
  · unfold rdSh; rw [if_pos hle]
  · have := h2 (k + i) (by rw [List.length_append, bitsOf_len]; omega)
    rw [List.getD_eq_getElem?_getD, List.getElem?_append_right (by rw [bitsOf_len]; omega), bitsOf_len] at this
    rw [Nat.add_assoc, this, List.getD_eq_getElem?_getD, Nat.add_sub_cancel_left]
/-- reading past free bits -/
theorem suf_skip {D : Nat → Nat} {T p k : Nat} {x bs : List Nat} (h : Suf D T p (x ++ bs)) (hx : x.length = k) :
    rdPos T p k = p + k ∧ rdSh T p k false = false ∧ Suf D T (p + k) bs := by
  subst hx
  obtain ⟨h1, h2⟩ := h
  rw [List.length_append] at h1
  have hle : p + x.length ≤ T := by omega
  refine ⟨?_, ?_, by omega, fun i hi => ?_⟩
  · unfold rdPos; rw [if_pos hle]
  · unfold rdSh; rw [if_pos hle]
  · have := h2 (x.length + i) (by rw [List.length_append]; omega)
    rw [List.getD_eq_getElem?_getD, List.getElem?_append_right (by omega)] at this
    rw [Nat.add_assoc, this, List.getD_eq_getElem?_getD, Nat.add_sub_cancel_left]

/-- a buffer of 96 bytes that holds the bits bl, one a byte -/
def BufIs (w : World) (bb : Nat) (bl : List Nat) : Prop := w.rowIs bb 5 96 (fun i => .int .u8 (bl.getD i 0))

theorem buf_push {w : World} {bb : Nat} {bl : List Nat} {b : Nat} {B : Int} (h : BufIs w bb bl) (hB : B = b) : BufIs (w.setCell ⟨bb, bl.length, none⟩ (.int .u8 B)) bb (bl ++ [b]) := by
  subst hB
  refine (World.rowIs.set h bl.length _).congr (fun i _ => ?_)
  by_cases e : i = bl.length
  · subst e; simp
  · rw [if_neg e]
    by_cases hlt : i < bl.length
    · simp [List.getElem?_append_left hlt]
    · simp [List.getElem?_append_right (show bl.length ≤ i by omega), List.getElem?_eq_none (show bl.length ≤ i by omega), List.getElem?_eq_none (show ([b] : List Nat).length ≤ i - bl.length by simp; omega)]

theorem take_bits (v c j : Nat) (h : j < c) : (bitsOf v c).take (j + 1) = (bitsOf v c).take j ++ [v / 2 ^ (c - 1 - j) % 2] := by
  have hg := bitsOf_get c v j h
  rw [List.take_add_one, hg]
  rfl

/-- one bit of v, as the walk writes it -/
theorem put_val (v s : Nat) (hv : v < 4294967296) : bits .and .i64 ((v : Int) / 2 ^ s) 1 % 256 = ((v / 2 ^ s % 2 : Nat) : Int) := by
  have e1 : ((v : Int) / 2 ^ s) = ((v / 2 ^ s : Nat) : Int) := by simp
  have hd : v / 2 ^ s < 9223372036854775808 := Nat.lt_of_le_of_lt (Nat.div_le_self _ _) (by omega)
  have hb : v / 2 ^ s % 2 < 2 := Nat.mod_lt _ (by omega)
  rw [e1, and1_i64 _ hd]
  omega

set_option maxHeartbeats 1000000 in
/-- putBits -/
theorem put13 (bb : Nat) (bl : List Nat) (v c : Nat) (w : World) (hv : v < 4294967296) (hc32 : c ≤ 32) (hc : bl.length + c ≤ 96) (h : BufIs w bb bl) :
    Calls Try.prog 13 #[.slice (some ⟨bb, 0, none⟩) 96 96, .int .i64 bl.length, .int .i64 v, .int .i64 c] w fun e w' =>
      e = .returned (.int .i64 ((bl ++ bitsOf v c).length : Nat)) ∧ BufIs w' bb (bl ++ bitsOf v c) ∧ Touch bb w w' := by
  go_enter Try.func13, Try.ntmps13
  go_wp2
  go_loopw [1, 9] (fun nv iv wr => ∃ j : Nat, j ≤ c ∧ nv = .int .i64 ((bl.length : Int) + (j : Int)) ∧ iv = .int .i64 ((c : Int) - 1 - (j : Int)) ∧ BufIs wr bb (bl ++ (bitsOf v c).take j) ∧ Touch bb w wr) (fun _ iv _ => ((intOf iv) + 1).toNat)
  case atStart => exact ⟨0, by omega, by simp, by simp, by simpa using h, Touch.refl _ _⟩
  case round =>
    obtain ⟨j, hj, rfl, rfl, hb, hT⟩ := hrel
    by_cases hlt : j < c
    · have hlen : (bl ++ (bitsOf v c).take j).length = bl.length + j := by rw [List.length_append, List.length_take, bitsOf_len]; omega
      have hcell := World.rowIs.cell hb (show bl.length + j < 96 by omega)
      have hfr := World.rowIs.frozen hb (bl.length + j)
      have HV : Hid (bits .and .i64 ((v : Int) / 2 ^ (c - 1 - j)) 1 % 256 = ((v / 2 ^ (c - 1 - j) % 2 : Nat) : Int)) := put_val v (c - 1 - j) hv
      have HL : Hid ((bl ++ (bitsOf v c).take j).length = bl.length + j) := hlen
      clear hlen
      go_wp2
      go_roundw
      case rel =>
        refine ⟨j + 1, by omega, num_eq (by omega), num_eq (by omega), ?_, hT.setCell _⟩
        have := buf_push hb HV.out
        rw [HL.out, List.append_assoc, ← take_bits v c j hlt] at this
        exact this
      case measure => simp [intOf]; omega
    · have hjc : j = c := by omega
      subst hjc
      have HE : Hid ((bitsOf v j).take j = bitsOf v j) := List.take_of_length_le (by rw [bitsOf_len]; exact Nat.le_refl _)
      go_wp2
      go_ret
      refine ⟨?_, by rw [HE.out] at hb; exact hb, hT⟩
      have : ((bl ++ bitsOf v j).length : Int) = (bl.length : Int) + (j : Int) := by rw [List.length_append, bitsOf_len]; omega
      rw [this]; rfl

theorem fill_val (f i : Nat) (hf : f < 4294967296) : wrap64 (bits .and .u32 ((f : Int) / 2 ^ i) 1) = ((f / 2 ^ i % 2 : Nat) : Int) := by
  have e1 : ((f : Int) / 2 ^ i) = ((f / 2 ^ i : Nat) : Int) := by simp
  have hd : f / 2 ^ i < 4294967296 := Nat.lt_of_le_of_lt (Nat.div_le_self _ _) hf
  have hb : f / 2 ^ i % 2 < 2 := Nat.mod_lt _ (by omega)
  rw [e1, and1_u32 _ hd, IntWalk.wrap64_in _ ⟨by omega, by omega⟩]
/-- it returned a bit -/
def IsBit (e : Ending) : Prop := ∃ b : Nat, b < 2 ∧ e = .returned (.int .i64 b)
set_option maxHeartbeats 1000000 in
/-- fillBit -/
theorem fill14 (f : Nat) (i : Nat) (w : World) (hf : f < 4294967296) (hi : i ≤ 20) :
    Calls Try.prog 14 #[.int .u32 f, .int .i64 i] w fun e w' => IsBit e ∧ w = w' := by
  go_enter Try.func14, Try.ntmps14
  go_wp2
  go_ret
  exact ⟨⟨f / 2 ^ i % 2, Nat.mod_lt _ (by omega), by rw [← fill_val f i hf]; rfl⟩, rfl⟩
end Go.Proofs.Qxb6001091a.Bits
