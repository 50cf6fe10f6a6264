import Derived.Test.Qxb6001091aH264D
import Derived.Laws.AppendOwnNone
import Derived.Lib.AppendZeros
namespace Go.Proofs.Qxb6001091a.H264
open Go.RowKit
open Go.Proofs.Qxb6001091a.Bits (Bytes Touch IsBool num_eq)

/-- joined so far -/
def Cat (m : Nat → Nat) (xs : Nat → List Value) (w wr : World) (s : Value) (k : Nat) : Prop :=
  wr.ownsRow w.heap.size 23 1 s (sumTo m k) (cat xs k) ∧ Below w.heap.size w wr
theorem Cat.skip {m : Nat → Nat} {xs : Nat → List Value} {w wr : World} {s : Value} {k : Nat} (h : Cat m xs w wr s k) (hm : m k = 0) (hx : xs k = []) : Cat m xs w wr s (k + 1) := by
  unfold Cat
  simp only [sumTo, cat, hm, hx, List.append_nil, Nat.add_zero]
  exact h
theorem Cat.more {m : Nat → Nat} {xs : Nat → List Value} {w wr w' : World} {s s' : Value} {k : Nat} (h : Cat m xs w wr s k) (ho : w'.ownsRow w.heap.size 23 1 s' (sumTo m k + m k) (cat xs k ++ xs k)) (hg : wr.grownBy w' s.ownBlock) : Cat m xs w w' s' (k + 1) :=
  ⟨ho, h.2.grown hg h.2.size (fun j hj => (h.1.lt j hj).1)⟩

set_option maxHeartbeats 2000000 in
/-- slices.Concat of four -/
theorem concat41 (xb c : Nat) (S : Nat → Value) (m : Nat → Nat) (xs : Nat → List Value) (w : World) (hxb : xb < w.heap.size) (hS : ∀ i, i < 4 → w.cell? ⟨xb, i, none⟩ = some (S i)) (hsrc : ∀ i, i < 4 → Src w (S i) (m i) (xs i))
    (hone : ∀ i, i < 4 → ∀ u ∈ xs i, u.oneCell' = true) (hsum : sumTo m 4 ≤ 16777216) :
    Calls Try.prog 41 #[.slice (some ⟨xb, 0, none⟩) 4 c] w fun e w' => ∃ v, e = .returned v ∧ w'.ownsRow w.heap.size 23 1 v (sumTo m 4) (cat xs 4) ∧ Below w.heap.size w w' := by
  have HF : Hid ((∀ i, i < 4 → w.cell? ⟨xb, i, none⟩ = some (S i)) ∧ (∀ i, i < 4 → Src w (S i) (m i) (xs i)) ∧ (∀ i, i < 4 → ∀ u ∈ xs i, u.oneCell' = true)) := ⟨hS, hsrc, hone⟩
  clear hS hsrc hone
  go_enter Try.func41, Try.ntmps41
  go_wp2
  go_loop [3, 11] (fun t i => ∃ k : Nat, k ≤ 4 ∧ i = .int .i64 (k : Nat) ∧ t = .int .i64 (sumTo m k : Nat)) (fun _ i => 4 - (intOf i).toNat)
  case atStart => exact ⟨0, by omega, rfl, rfl⟩
  case round =>
    obtain ⟨k, hk, rfl, rfl⟩ := hrel
    by_cases hlt : k < 4
    · have hcell := HF.out.1 k hlt
      obtain ⟨ak, ck, hv⟩ := (HF.out.2.1 k hlt).shape
      rw [hv] at hcell
      have hs1 : sumTo m (k + 1) ≤ sumTo m 4 := sumTo_le m _ _ (by omega)
      have HE : Hid (sumTo m (k + 1) = sumTo m k + m k) := rfl
      have hs2 : sumTo m k + m k ≤ 16777216 := by have := HE.out; omega
      clear hv hs1
      go_wp2
      go_round
      case rel => exact ⟨k + 1, by omega, by go_num, by rw [HE.out]; go_num⟩
      case measure => simp [intOf]; omega
    · have hk4 : k = 4 := by omega
      subst hk4
      clear hlt hk
      go_wp2_with fail
      refine (grow42 (sumTo m 4) w hsum).mono ?_
      rintro e w1 ⟨v, rfl, hown, hbel⟩
      go_wp2
      go_loopw [6, 27] (fun s i wr => ∃ k : Nat, k ≤ 4 ∧ i = .int .i64 (k : Nat) ∧ Cat m xs w wr s k) (fun _ i _ => 4 - (intOf i).toNat)
      case atStart => exact ⟨0, by omega, rfl, hown, hbel⟩
      case round =>
        obtain ⟨k, hk, rfl, hcat⟩ := hrel
        by_cases hlt : k < 4
        · have hcell : wr.cell? ⟨xb, k, none⟩ = some (S k) := by rw [hcat.2.cell (p := ⟨xb, k, none⟩) hxb]; exact HF.out.1 k hlt
          have hs1 : sumTo m (k + 1) ≤ sumTo m 4 := sumTo_le m _ _ (by omega)
          have HE : Hid (sumTo m (k + 1) = sumTo m k + m k) := rfl
          have hs2 : sumTo m k + m k ≤ 16777216 := by have := HE.out; omega
          obtain ⟨i, hi, hz, hs, hb⟩ := info_parts info23
          clear hs1
          rcases (HF.out.2.1 k hlt) with ⟨hv, hm0, hx0⟩ | ⟨ad, ck, hv, hlen, hlt', hcells⟩
          · rw [hv] at hcell
            have HN : Hid (Cat m xs w wr _ (k + 1)) := hcat.skip hm0 hx0
            clear hv hm0 hx0
            go_wp2_with (at_builtin; refine wpList_append_own_none rfl (.tmp 31) (.tmp 32) 34 rfl w.heap.size 23 i 1 Try.underlying34 hi _ _ _ rfl hcat.1 rfl ?_)
            go_roundw
            case rel => exact ⟨k + 1, by omega, by go_num, HN.out⟩
            case measure => simp [intOf]; omega
          · rw [hv] at hcell
            clear hv
            have hone := HF.out.2.2 k hlt
            go_wp2_with (at_builtin; refine wpList_append_own _ rfl (.tmp 31) (.tmp 32) 34 rfl w.heap.size 23 i (.slice none 0 0) 1 24 Try.underlying34 hi hz hs hb rfl (by omega) _ _ _ rfl hcat.1 ad _ _ (xs k) rfl ?len ?cells hone ?h63 ?hbytes ?hbase ?_)
            case len => omega
            case cells =>
              intro j u hj
              rw [hcat.2.cell (p := ad.add j) (by have := hlt' (by rintro e; rw [e] at hj; simp at hj); simp only [Addr.add]; split <;> exact this)]
              exact hcells j u hj
            case h63 => unfold maxLen; omega
            case hbytes => omega
            case hbase => exact hcat.2.size
            intro v' w' ho hg hz'
            have HN : Hid (Cat m xs w w' v' (k + 1)) := hcat.more ho hg
            go_wp2
            go_roundw
            case rel => exact ⟨k + 1, by omega, by go_num, HN.out⟩
            case measure => simp [intOf]; omega
        · have hk4 : k = 4 := by omega
          subst hk4
          clear hlt hk
          go_wp2
          go_ret
          exact ⟨_, rfl, hcat.1, hcat.2⟩
end Go.Proofs.Qxb6001091a.H264
