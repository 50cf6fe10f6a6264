import Derived.Test.Qxb6001091aH264C
import Derived.Laws.AppendOwnNone
import Derived.Lib.AppendZeros
namespace Go.Proofs.Qxb6001091a.H264
open Go.RowKit
open Go.Proofs.Qxb6001091a.Bits (Bytes Touch IsBool num_eq)

theorem grow_owns (w : World) (n : Nat) (hn : n ≤ 16777216) : (w.drew.alloc (.cells (Builtin.zeroCells #[.slice none 0 0] n ++ Builtin.zeroCells #[.slice none 0 0] (grownCap w n 0 23 - n)) 23)).ownsRow w.heap.size 23 1 (.slice (some ⟨w.heap.size, 0, none⟩) 0 (grownCap w n 0 23)) 0 [] := by
  have hge := grownCap_ge w n 0 23
  have hle : grownCap w n 0 23 ≤ maxLen := grownCap_le_maxLen w n 0 23 (by unfold maxLen; omega)
  refine ⟨rfl, .inr ⟨w.heap.size, _, _, rfl, Nat.le_refl _, heap_alloc_new w.drew _, Nat.zero_le _, hle, ?_, rfl⟩⟩
  simp [size_zeroCells]
  omega

set_option maxHeartbeats 1000000 in
/-- slices.Grow of nil -/
theorem grow42 (n : Nat) (w : World) (hn : n ≤ 16777216) :
    Calls Try.prog 42 #[.slice none 0 0, .int .i64 n] w fun e w' => ∃ v, e = .returned v ∧ w'.ownsRow w.heap.size 23 1 v 0 [] ∧ Below w.heap.size w w' := by
  obtain ⟨i, hi, hz, hs, hb⟩ := info_parts info23
  by_cases h0 : n = 0
  · subst h0
    go_enter Try.func42, Try.ntmps42
    go_wp2
    go_ret
    exact ⟨_, rfl, World.ownsRow_nil _ _ _ _, Below.refl _ _⟩
  · have happ : Hid (∀ w, (Builtin.append_ #[34, 3] 34 #[.slice none 0 0, .int .i64 (n : Int)]).run Try.prog w = .ok (.slice (some ⟨w.heap.size, 0, none⟩) n (grownCap w n 0 23)) (w.drew.alloc (.cells (Builtin.zeroCells (Value.slice none 0 0).cells n ++ Builtin.zeroCells (Value.slice none 0 0).cells (grownCap w n 0 23 - n)) 23))) :=
      fun w => Lib.run_append_nil_zeros (P := Try.prog) w 34 3 34 23 i (.slice none 0 0) .i64 .i64 Try.underlying34 Try.underlying3 hi hz n (by omega) (by omega) (by omega) (by rw [hb]; omega)
    have hpos : 0 < n := by omega
    have HO : Hid ((w.drew.alloc (.cells (Builtin.zeroCells #[.slice none 0 0] n ++ Builtin.zeroCells #[.slice none 0 0] (grownCap w n 0 23 - n)) 23)).ownsRow w.heap.size 23 1 (.slice (some ⟨w.heap.size, 0, none⟩) 0 (grownCap w n 0 23)) 0 []) := grow_owns w n hn
    go_enter Try.func42, Try.ntmps42
    go_wp2_with (at_builtin; refine Lib.wpList_append_run _ rfl (.tmp 20) (.tmp 21) 34 3 rfl _ _ rfl rfl _ _ (happ.out _) ?_)
    go_ret
    exact ⟨_, rfl, HO.out, ⟨rfl, rfl, rfl, by simp, fun k hk => Below.heap_alloc w _ k hk⟩⟩

/-- what is appended: nil, or a row of values -/
def Src (w : World) (v : Value) (m : Nat) (xs : List Value) : Prop :=
  (v = .slice none 0 0 ∧ m = 0 ∧ xs = []) ∨ ∃ ad c, v = .slice (some ad) m c ∧ xs.length = m ∧ (xs ≠ [] → ad.block < w.heap.size) ∧ ∀ j u, xs[j]? = some u → w.cell? (ad.add j) = some u
theorem Src.shape {w : World} {v : Value} {m : Nat} {xs : List Value} (h : Src w v m xs) : ∃ a c, v = .slice a m c := by
  rcases h with ⟨rfl, rfl, _⟩ | ⟨ad, c, rfl, _⟩
  · exact ⟨none, 0, rfl⟩
  · exact ⟨some ad, c, rfl⟩
def sumTo (m : Nat → Nat) : Nat → Nat
  | 0 => 0
  | k + 1 => sumTo m k + m k
def cat (xs : Nat → List Value) : Nat → List Value
  | 0 => []
  | k + 1 => cat xs k ++ xs k
theorem sumTo_le (m : Nat → Nat) (k j : Nat) (h : k ≤ j) : sumTo m k ≤ sumTo m j := by
  induction j with
  | zero => have : k = 0 := by omega
            subst this; exact Nat.le_refl _
  | succ j ih =>
    by_cases e : k = j + 1
    · subst e; exact Nat.le_refl _
    · have := ih (by omega); simp only [sumTo]; omega

end Go.Proofs.Qxb6001091a.H264
