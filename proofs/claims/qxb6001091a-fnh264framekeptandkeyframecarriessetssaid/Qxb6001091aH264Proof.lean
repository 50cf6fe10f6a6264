/-
  'Rows.FnH264FrameKeptAndKeyframeCarriesSetsSaid' proved: the frame (after the guide's template) round the walk.
-/
import Derived.Test.Qxb6001091aH264J
import Derived.Test.Qxb6001091aHead
import Derived.WalkKit
import Derived.ProofKit
import Derived.OpenShut
import Derived.ShutString
import Derived.ChangeOld
import Derived.Below
import Derived.Deep.Slices
namespace Go.Proofs.Qxb6001091a.fnH264FrameKeptAndKeyframeCarriesSets
open Go.ChangeShapes Go.WideShapes Go.ChangeAt Go.RowKit
set_option linter.unusedVariables false

theorem own : ownKnob Try.prog.godebug = none := by kernel_rfl
theorem laidOut : laidOutB Try.prog = true := by kernel_rfl

/-- WHAT THE WALK IS TOLD OF A SLICE OF INTEGERS THAT CAME IN: it is nil; or it leads to a row of 'cap' cells, the numbers 'zs' (the first 'len' are its elements, the rest its spare room), each fitting its kind. -/
def IsRow (k : IntKind) (w : World) (a : Option Addr) (len cap : Nat) (zs : List Int) : Prop :=
  (a = none ∧ len = 0 ∧ cap = 0 ∧ zs = []) ∨
  ∃ x, a = some x ∧ len ≤ cap ∧ cap ≤ maxLen ∧ zs.length = cap ∧ (∀ i, i < zs.length → w.cell? (x.add i) = some (.int k (zs.getD i 0))) ∧ ∀ n ∈ zs, (Lit.int k n).wf = true

theorem wf_byte {x : Int} (h : (Lit.int .u8 x).wf = true) : 0 ≤ x ∧ x < 256 := by
  simp [Lit.wf, IntKind.min, IntKind.max, IntKind.signed, IntKind.bits] at h
  omega
/-- What a row of bytes that came in reads as. -/
theorem isRow_bytes {w : World} {a : Option Addr} {len cap : Nat} {zs : List Int} (h : IsRow .u8 w a len cap zs) :
    len ≤ maxLen ∧ ∃ D : Nat → Nat, (∀ i, D i < 256) ∧ Bits.Bytes w a len D := by
  rcases h with ⟨rfl, rfl, rfl, rfl⟩ | ⟨x, rfl, hl, hm, hz, hc, hw⟩
  · exact ⟨by unfold maxLen; omega, fun _ => 0, fun _ => Nat.zero_lt_succ _, .inl rfl⟩
  · have hb : ∀ i, 0 ≤ zs.getD i 0 ∧ zs.getD i 0 < 256 := by
      intro i
      by_cases hi : i < zs.length
      · have hmem : zs.getD i 0 ∈ zs := by rw [List.getD_eq_getElem?_getD, List.getElem?_eq_getElem hi]; exact List.getElem_mem hi
        exact wf_byte (hw _ hmem)
      · rw [List.getD_eq_getElem?_getD, List.getElem?_eq_none (by omega)]; decide
    refine ⟨by omega, fun i => (zs.getD i 0).toNat, fun i => by have := hb i; show (zs.getD i 0).toNat < 256; omega, ?_⟩
    by_cases h0 : len = 0
    · exact .inl h0
    · have hpos : 0 < zs.length := by omega
      have hbk : x.block < w.heap.size := World.block_lt_of_cell? w _ (hc 0 hpos)
      obtain ⟨b, off, spot⟩ := x
      have hspot : spot = none := by simpa [Addr.add] using World.cell?_spot (hc 0 hpos)
      subst hspot
      refine .inr ⟨b, off, rfl, hbk, fun i hi => ?_⟩
      have h1 := hc i (by omega)
      rw [add_plain] at h1
      rw [h1]
      have := hb i
      show some (Value.int .u8 (zs.getD i 0)) = some (Value.int .u8 (((zs.getD i 0).toNat : Nat) : Int))
      rw [Int.toNat_of_nonneg this.1]

theorem cells23 : Try.prog.cellsOf 23 = 1 := by kernel_rfl

/-- A slice of bytes that came in, as an element. -/
theorem open_el {H : Type} {enc : TypeId × Value → H} {W : World} {n : Nat} {u : Value} {x : DataW H × List MemPlace} (hf : DataW.trod enc Try.prog W 0 (fun _ => true) true n 23 [u] = some x) :
    ∃ (a : Option Addr) (l c : Nat) (D : Nat → Nat), u = .slice a l c ∧ (∀ i, D i < 256) ∧ Bits.Bytes W a l D := by
  rcases open_ints Try.underlying23 Try.underlying5 (by kernel_rfl) hf with ⟨hcs, _⟩ | ⟨x, l, c, zs, hcs, _, hl, hm, hz, _, hcell, hwz⟩
  · simp at hcs
    subst hcs
    exact ⟨none, 0, 0, fun _ => 0, rfl, fun _ => Nat.zero_lt_succ _, .inl rfl⟩
  · simp at hcs
    subst hcs
    obtain ⟨_, D, h1, h2⟩ := isRow_bytes (w := W) (a := some x) (len := l) (cap := c) (zs := zs) (.inr ⟨_, rfl, hl, hm, by simpa using hz, hcell, hwz⟩)
    exact ⟨some x, l, c, D, rfl, h1, h2⟩

/-- A slice of slices of bytes that came in. -/
theorem open_uns {H : Type} {enc : TypeId × Value → H} {W : World} {a0 : Option Addr} {len0 cap0 : Nat} {d : DataW H} {ps : List MemPlace}
    (hd : DataW.Trod enc Try.prog W 0 (fun _ => true) true 34 (.slice a0 len0 cap0) d ps) : len0 ≤ maxLen ∧ ∃ A L C B, (∀ i j, B i j < 256) ∧ H264.Uns W a0 len0 A L C B := by
  obtain ⟨fuel, hf⟩ := hd
  rcases Go.Deep.open_slice1 Try.underlying34 cells23 hf with ⟨hcs, _⟩ | ⟨a, len, cap, m, n, V, D, Pl, hcs, _, hl, hm, hmm, hx, hV⟩
  · simp [Value.cells] at hcs
    obtain ⟨rfl, rfl, rfl⟩ := hcs
    exact ⟨by unfold maxLen; omega, fun _ => none, fun _ => 0, fun _ => 0, fun _ _ => 0, fun _ _ => Nat.zero_lt_succ _, ⟨.inl rfl, fun i hi => by omega⟩⟩
  · simp [Value.cells] at hcs
    obtain ⟨rfl, rfl, rfl⟩ := hcs
    refine ⟨by omega, ?_⟩
    have hlm : len0 ≤ m := by rw [hmm]; simp; omega
    have key : ∀ i : Nat, ∃ x : Option Addr × Nat × Nat × (Nat → Nat), (∀ j, x.2.2.2 j < 256) ∧ (i < len0 → V i = .slice x.1 x.2.1 x.2.2.1 ∧ Bits.Bytes W x.1 x.2.1 x.2.2.2) := by
      intro i
      by_cases hi : i < len0
      · obtain ⟨a, l, c, D, h1, h2, h3⟩ := open_el (hV i (by omega)).2
        exact ⟨(a, l, c, D), h2, fun _ => ⟨h1, h3⟩⟩
      · exact ⟨(none, 0, 0, fun _ => 0), fun _ => Nat.zero_lt_succ _, fun h => absurd h hi⟩
    refine ⟨fun i => (Classical.choose (key i)).1, fun i => (Classical.choose (key i)).2.1, fun i => (Classical.choose (key i)).2.2.1, fun i => (Classical.choose (key i)).2.2.2, fun i j => (Classical.choose_spec (key i)).1 j, ⟨?_, fun i hi => ((Classical.choose_spec (key i)).2 hi).2⟩⟩
    by_cases h0 : len0 = 0
    · exact .inl h0
    · have hc0 := (hV 0 (by omega)).1
      have hbk : (a.add 0).block < W.heap.size := World.block_lt_of_cell? W _ hc0
      obtain ⟨b, off, spot⟩ := a
      have hspot : spot = none := by simpa [Addr.add] using World.cell?_spot hc0
      subst hspot
      refine .inr ⟨b, off, rfl, by simpa [Addr.add] using hbk, fun i hi => ?_⟩
      have h1 := (hV i (by omega)).1
      rw [add_plain] at h1
      rw [h1]
      exact congrArg some ((Classical.choose_spec (key i)).2 hi).1

set_option maxRecDepth 100000 in
theorem lifted (os : Os) (started : os.Started) (H : Type) (enc : TypeId × Value → H) :
    ReturnsInHanded {} Try.checked os 6 .any (Rows.fnH264FrameKeptAndKeyframeCarriesSetsSpec.pre6 enc Try.prog Try.f6 Rows.fnH264FrameKeptAndKeyframeCarriesSetsRow.domain false) (Rows.fnH264FrameKeptAndKeyframeCarriesSetsSpec.post enc Try.prog Try.f6 false true false false) := by
  refine returnsInHanded_of_change (C := Try.checked) own started (by kernel_rfl) Try.func6
    (ChangeSpec.witness6 (enc := enc) (C := Try.checked) false ⟨#[], #[.slice none 0 0, .slice none 0 0, .slice none 0 0], []⟩ 8 (by kernel_rfl) (by kernel_rfl) (by kernel_rfl) (by kernel_rfl)) ?_
  intro W base args ds gs before hval0 hW hcnd _
  have hval : ∀ (j : Nat) t v, Try.f6.params[j]? = some t → args[j]? = some v → Value.okWide Try.prog W .any base t v := hval0
  have hW' := hW
  obtain ⟨p, q, hA0, hV, rfl, hfz, hnd⟩ := hW
  have hA : DataW.TrodAll enc Try.prog W 0 (fun _ => true) true Try.f6.params.toList args.toList ds p := hA0
  rw [Try.params6] at hA hval
  obtain ⟨v0, vs0, d0, ds0, p0, q0, hargs, rfl, rfl, h0, r0⟩ := trodAll_cons hA
  obtain ⟨v1, vs1, d1, ds1, p1, q1, rfl, rfl, rfl, h1, r1⟩ := trodAll_cons r0
  obtain ⟨v2, vs2, d2, ds2, p2, q2, rfl, rfl, rfl, h2, r2⟩ := trodAll_cons r1
  obtain ⟨rfl, rfl, rfl⟩ := trodAll_nil r2
  obtain rfl : args = #[v0, v1, v2] := by cases args; simp_all
  obtain ⟨rfl, rfl⟩ := trodVars_none hV
  obtain ⟨a0, len0, cap0, rfl⟩ := okWide_slice Try.underlying34 (hval 0 34 v0 rfl rfl)
  obtain ⟨a1, len1, cap1, rfl⟩ := okWide_slice Try.underlying34 (hval 1 34 v1 rfl rfl)
  obtain ⟨a2, len2, cap2, rfl⟩ := okWide_slice Try.underlying34 (hval 2 34 v2 rfl rfl)
  have lt0 : ∀ x ∈ p0, x.block < W.heap.size := by obtain ⟨m, hm⟩ := h0; exact DataW.trod_lt m _ _ _ hm
  have lt1 : ∀ x ∈ p1, x.block < W.heap.size := by obtain ⟨m, hm⟩ := h1; exact DataW.trod_lt m _ _ _ hm
  have lt2 : ∀ x ∈ p2, x.block < W.heap.size := by obtain ⟨m, hm⟩ := h2; exact DataW.trod_lt m _ _ _ hm
  obtain ⟨m0, A0, L0, C0, B0, D0, u0⟩ := open_uns h0
  obtain ⟨m1, A1, L1, C1, B1, D1, u1⟩ := open_uns h1
  obtain ⟨m2, A2, L2, C2, B2, D2, u2⟩ := open_uns h2
  clear hA0 hval0
  refine (H264.law6 a0 a1 a2 len0 len1 len2 cap0 cap1 cap2 A0 A1 A2 L0 L1 L2 C0 C1 C2 B0 B1 B2 W m0 m1 m2 D0 D1 D2 u0 u1 u2).mono fun e W' ⟨he, bel⟩ => ?_
  subst he
  exact ⟨_, rfl, _, _, _, [], _, [], hW', trodAll_mk1 (shut_bool Try.underlying4 _), (trodAll_cons_mk (Below.trod laidOut (by kernel_rfl) (of_decide_eq_true (by kernel_rfl)) h0 bel lt0) (trodAll_cons_mk (Below.trod laidOut (by kernel_rfl) (of_decide_eq_true (by kernel_rfl)) h1 bel lt1) (trodAll_cons_mk (Below.trod laidOut (by kernel_rfl) (of_decide_eq_true (by kernel_rfl)) h2 bel lt2) trodAll_mk0))), rfl, bel.frame _, fun h => by cases h⟩

theorem closed : joinedFacts Try.prog 6 Try.f6 Rows.fnH264FrameKeptAndKeyframeCarriesSetsSpec Rows.fnH264FrameKeptAndKeyframeCarriesSetsRow = true := by
  unfold joinedFacts
  rw [Head.mayEnter, Head.liftsFinal, Head.made]
  kernel_rfl

theorem over : Rows.fnH264FrameKeptAndKeyframeCarriesSetsRow.holds Try.pinned (OpenSpec.ofChange Rows.fnH264FrameKeptAndKeyframeCarriesSetsSpec) :=
  OpenClaim.holds_of_wide 6 Try.f6 rfl rfl rfl rfl rfl rfl rfl ⟨rfl, rfl, rfl, rfl, rfl⟩ rfl rfl rfl rfl rfl (by kernel_rfl) Try.func6 closed
    (of_decide_eq_true (by kernel_rfl)) (by unfold Func.isWrapper; first | (rw [if_pos (by decide +kernel)]; kernel_rfl) | (rw [if_neg (by decide +kernel)]; exact ⟨rfl, rfl⟩))
    (fun os started H enc _ => lifted os started H enc)

/-- ████ THE STATEMENT ████ -/
theorem proved : Rows.FnH264FrameKeptAndKeyframeCarriesSetsSaid := over
#print axioms proved
end Go.Proofs.Qxb6001091a.fnH264FrameKeptAndKeyframeCarriesSets
