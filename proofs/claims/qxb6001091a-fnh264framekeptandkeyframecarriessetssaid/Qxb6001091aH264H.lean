/- The law's later callees. -/
import Derived.Test.Qxb6001091aH264G
namespace Go.Proofs.Qxb6001091a.H264
open Go.RowKit
open Go.Proofs.Qxb6001091a.Bits (Bytes Touch IsBool num_eq copied copied_next info5)

set_option maxHeartbeats 2000000 in
/-- cloneUnits -/
theorem clone23' (a : Option Addr) (n c : Nat) (A : Nat → Option Addr) (L C : Nat → Nat) (B : Nat → Nat → Nat) (w : World) (hS : Small n L) (h : Uns w a n A L C B) :
    Calls Try.prog 23 #[.slice a n c] w fun e w' => ∃ a' c' A' C', e = .returned (.slice a' n c') ∧ (c' = n ∧ (a' = none → n = 0)) ∧ Uns w' a' n A' L C' B ∧ Below w.heap.size w w' := by
  obtain ⟨hn, hL⟩ := hS
  have q34 : ∀ (w : World) (a : Option Addr) (n c n' c' : Nat), (binOp .eql 34 (.slice a n c) (.slice none n' c')).run Try.prog w = .ok (.bool a.isNone) w := fun w a n c n' c' => Lib.run_eql_slice_nil w _ _ a n c n' c' Try.underlying34
  have hmk := run_make_row' (P := Try.prog) 34 23 (.slice none 0 0) 24 Try.underlying34 info23 rfl .i64 .i64 n (by omega) (by omega)
  cases a with
  | none =>
    have h0 : n = 0 := by
      rcases h.row with h | ⟨b, off, h, _⟩
      · exact h
      · cases h
    subst h0
    clear hL
    go_enter Try.func23, Try.ntmps23
    go_wp2
    go_ret
    exact ⟨none, 0, A, C, rfl, (by simp), ⟨.inl rfl, fun i hi => by omega⟩, Below.refl _ _⟩
  | some ad =>
    have HU : Hid (Uns w (some ad) n A L C B ∧ ∀ i, i < n → L i ≤ 1048576) := ⟨h, hL⟩
    clear h hL
    go_enter Try.func23, Try.ntmps23
    go_wp2
    go_loopw [4] (fun i wr => ∃ k : Nat, k ≤ n ∧ i = .int .i64 (k : Nat) ∧ Cl w wr n L B k) (fun i _ => n - (intOf i).toNat)
    case atStart => exact ⟨0, by omega, rfl, cl_start w n L B⟩
    case round =>
      obtain ⟨k, hk, rfl, hcl⟩ := hrel
      by_cases hlt : k < n
      · obtain ⟨⟨hrow, hbyt⟩, hLL⟩ := HU.out
        rcases hrow with h0 | ⟨b, off, hae, hb, hc⟩
        · omega
        cases hae
        have hcell : wr.cell? ⟨b, off + k, none⟩ = some (.slice (A k) (L k) (C k)) := by rw [hcl.bel.cell (p := ⟨b, off + k, none⟩) hb]; exact hc k hlt
        have hby : Bytes wr (A k) (L k) (B k) := (hbyt k hlt).mono hcl.bel
        have hLk := hLL k hlt
        clear hc hbyt hLL
        obtain ⟨l, HL⟩ : ∃ l, Hid (L k = l) := ⟨_, rfl⟩
        rw [HL.out] at hcell hby hLk
        generalize A k = ak at hcell hby
        generalize C k = ck at hcell
        go_wp2_with fail
        refine (clone12b ak l ck (B k) _ (by omega) hby).mono ?_
        rintro e w2 ⟨a', c', rfl, hby', hf', hb'⟩
        have R := cl_next (c := c') hcl HL.out hb' hby' hf'
        obtain ⟨A0, C0, hr0, _, _⟩ := hcl.ex
        have hr1 := hr0.of_block (hb'.block _ hr0.lt)
        have hdc := hr1.cell hlt
        have hdf := hr1.frozen k
        have HR : Hid (Cl w (w2.setCell ⟨w.heap.size, k, none⟩ (.slice a' l c')) n L B (k + 1)) := R
        clear R hcl hby hby' hf' hb' hr0 hr1
        go_wp2_with fail
        go_roundw
        case rel => exact ⟨k + 1, by omega, by go_num, HR.out⟩
        case measure => simp [intOf]; omega
      · obtain rfl : k = n := by omega
        obtain ⟨A0, C0, hr0, hby0, _⟩ := hcl.ex
        have hbel := hcl.bel
        go_wp2_with fail
        go_ret
        refine ⟨_, _, A0, C0, rfl, ⟨rfl, fun h => by cases h⟩, ⟨.inr ⟨w.heap.size, 0, rfl, hr0.lt, fun i hi => ?_⟩, hby0⟩, hbel⟩
        rw [Nat.zero_add, hr0.cell hi]
        simp [heads, hi]


theorem uns_nal {w : World} {a : Option Addr} {n t : Nat} {A : Nat → Option Addr} {L C : Nat → Nat} {B : Nat → Nat → Nat} (h : Uns w a n A L C B) (hS : Small n L) (hD : ∀ i j, B i j < 256) {i : Nat} (hi : i < n) (h0 : L i ≠ 0) (ht : B i 0 % 32 = t) : Nal w (.slice (A i) (L i) (C i)) t :=
  ⟨A i, L i, C i, B i, rfl, h0, hS.2 i hi, hD i, h.byt i hi, ht⟩
theorem uns_sets {w : World} {a : Option Addr} {n t : Nat} {A : Nat → Option Addr} {L C : Nat → Nat} {B : Nat → Nat → Nat} (h : Uns w a n A L C B) (hS : Small n L) (hD : ∀ i j, B i j < 256) (hn : n ≤ 65536) (hnone : a = none → n = 0) (hall : ∀ i, i < n → L i ≠ 0 ∧ B i 0 % 32 = t) :
    Sets w (.slice a n n) t n := by
  refine ⟨(List.range n).map (fun i => .slice (A i) (L i) (C i)), ?_, hn, fun u hu => ?_⟩
  · cases a with
    | none => have := hnone rfl; subst this; exact .inl ⟨rfl, rfl, rfl⟩
    | some ad =>
      rcases h.row with h0 | ⟨b, off, he, hb, hc⟩
      · subst h0; exact .inr ⟨ad, 0, rfl, rfl, fun h => absurd rfl h, fun j u hj => by simp at hj⟩
      · exact run_src he hb hc
  · obtain ⟨i, hi, rfl⟩ := List.mem_map.1 hu
    have hi' := List.mem_range.1 hi
    exact uns_nal h hS hD hi' (hall i hi').1 (hall i hi').2

set_option maxHeartbeats 1000000 in
/-- ZZNewH264 -/
theorem new25 (a1 a2 : Option Addr) (n1 n2 c1 c2 : Nat) (w : World) :
    Calls Try.prog 25 #[.slice a1 n1 c1, .slice a2 n2 c2] w fun e w' => e = .returned (.pointer (some ⟨w.heap.size, 0, none⟩)) ∧ (∃ X, w'.rowIs w.heap.size 56 3 X ∧ X 1 = .slice a1 n1 c1 ∧ X 2 = .slice a2 n2 c2) ∧ Below w.heap.size w w' := by
  go_enter Try.func25, Try.ntmps25
  go_wp2
  go_ret
  refine ⟨rfl, ?_, (Below.refl _ _).alloc (Nat.le_refl _) _⟩
  refine ⟨pick4 (.int .i64 0) (.slice a1 n1 c1) (.slice a2 n2 c2) undef, ⟨#[.int .i64 0, .slice a1 n1 c1, .slice a2 n2 c2], heap_alloc_new w _, rfl, fun i hi => ?_⟩, rfl, rfl⟩
  match i, hi with
  | 0, _ => rfl
  | 1, _ => rfl
  | 2, _ => rfl

set_option maxHeartbeats 1000000 in
/-- ZZWithParameterSets -/
theorem par26 (w0 w : World) (X : Nat → Value) (a : Option Addr) (n c : Nat) (V : Nat → Value) (T : Nat → Nat) (hn : n ≤ 65536) (hcapE : c = n) (bel : Below w0.heap.size w0 w) (box : w.rowIs w0.heap.size 56 3 X) (h : VRow w0 a n V) (hN : ∀ i, i < n → Nal w0 (V i) (T i)) (m7 m8 : Nat) (hs7 : Sets w0 (X 1) 7 m7) (hs8 : Sets w0 (X 2) 8 m8) :
    Calls Try.prog 26 #[.pointer (some ⟨w0.heap.size, 0, none⟩), .slice a n c] w fun e w' => ∃ oa on oc, e = .returned (.slice oa on oc) ∧ ∃ O z sN pN, Outs w0 w' n V T m7 m8 oa on O z sN pN := by
  have K := with36 w0 w X a n c V T hn hcapE bel box h hN m7 m8 hs7 hs8
  clear hcapE bel box h hN hs7 hs8
  go_enter Try.func26, Try.ntmps26
  go_wp2_with fail
  refine K.mono ?_
  rintro e w' ⟨oa, on, oc, rfl, H⟩
  have HH : Hid (∃ O z sN pN, Outs w0 w' n V T m7 m8 oa on O z sN pN) := H
  clear H
  go_wp2_with fail
  go_ret
  exact ⟨oa, on, oc, rfl, HH.out⟩
end Go.Proofs.Qxb6001091a.H264
