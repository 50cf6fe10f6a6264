/- FnForgetReviewExact: for every input the call returns true and turns nothing that was there. -/
import Derived.Test.Qxb6602367aForgetB
import Derived.LaidEqlPtr
import Derived.Lib.Builder
namespace Go.Proofs.Qxb6602367a.Forget
open Go.RowKit
theorem info9 : ∃ j, Try.prog.info? 9 = some j := by
  cases h : Try.prog.info? 9 with
  | some j => exact ⟨j, rfl⟩
  | none => exact absurd (show (Try.prog.info? 9).isSome = true by kernel_rfl) (by rw [h]; decide)
theorem neq_same (w : World) (c : Option Addr) : (binOp .neq 29 (.pointer c) (.pointer c)).run Try.prog w = .ok (.bool false) w := by
  obtain ⟨j, hj⟩ := info9
  cases c with
  | none => rw [run_neq_pointer_nil w 29 none (by kernel_rfl)]; rfl
  | some a => exact Lib.run_neq_ptr_same w a Try.underlying29 hj
theorem eql_same (w : World) (c : Option Addr) : (binOp .eql 29 (.pointer c) (.pointer c)).run Try.prog w = .ok (.bool true) w := by
  obtain ⟨j, hj⟩ := info9
  cases c with
  | none => rw [run_eql_pointer_nil w 29 none (by kernel_rfl)]; rfl
  | some a => exact run_eql_ptr_same w a Try.underlying29 hj

/-- what forgetReview leaves in the field LastReviewedWorker -/
def Fin (w : World) (c0 q : Option Addr) (s0 n2 : ByteArray) : Prop :=
  (c0 = none ∧ q = none) ∨ ∃ b off, c0 = some ⟨b, off, none⟩ ∧ w.cell? ⟨b, off, none⟩ = some (.string s0) ∧ (((s0.toList == n2.toList) = true ∧ q = none) ∨ ((s0.toList == n2.toList) = false ∧ q = some ⟨b, off, none⟩))
/-- the two structs behind the call -/
structure Left (w0 w : World) (B : Nat) (c0 c6 c7 c8 c9 q : Option Addr) (s0 s6 s7 s8 s9 n2 n3 n4 n5 : ByteArray) (x1 x10 x11 : Int) : Prop where
  bel : Below w0.heap.size w0 w
  fin : Fin w c0 q s0 n2
  k6 : PS w c6 s6
  k7 : PS w c7 s7
  k8 : PS w c8 s8
  k9 : PS w c9 s9
  t0 : w.cell? ⟨B, 0, none⟩ = some (.map none)
  t1 : w.cell? ⟨B, 1, none⟩ = some (.pointer q)
  t2 : w.cell? ⟨B, 2, none⟩ = some (.int .i64 x1)
  r0 : w.cell? ⟨B + 1, 0, none⟩ = some (.string n2)
  r1 : w.cell? ⟨B + 1, 1, none⟩ = some (.string n3)
  r2 : w.cell? ⟨B + 1, 2, none⟩ = some (.string n4)
  r3 : w.cell? ⟨B + 1, 3, none⟩ = some (.string n5)
  r4 : w.cell? ⟨B + 1, 4, none⟩ = some (.pointer none)
  r5 : w.cell? ⟨B + 1, 5, none⟩ = some (.int .i64 x11)
  r6 : w.cell? ⟨B + 1, 6, none⟩ = some (.int .i64 0)
  r7 : w.cell? ⟨B + 1, 7, none⟩ = some (.pointer c6)
  r8 : w.cell? ⟨B + 1, 8, none⟩ = some (.pointer none)
  r9 : w.cell? ⟨B + 1, 9, none⟩ = some (.pointer c9)
  r10 : w.cell? ⟨B + 1, 10, none⟩ = some (.pointer none)
  r11 : w.cell? ⟨B + 1, 11, none⟩ = some (.pointer none)
  r12 : w.cell? ⟨B + 1, 12, none⟩ = some (.pointer none)
  r13 : w.cell? ⟨B + 1, 13, none⟩ = some (.int .i64 x10)
  r14 : w.cell? ⟨B + 1, 14, none⟩ = some (.int .i64 0)

theorem left_mk (w0 w6 : World) (nq : Nat) (c0 c6 c7 c8 c9 q : Option Addr) (s0 s6 s7 s8 s9 n2 n3 n4 n5 : ByteArray) (x1 x10 x11 : Int)
    (hb : Below w0.heap.size w0 w6) (hf : Fin w6 c0 q s0 n2) (h0 : PS w6 c0 s0) (h6 : PS w6 c6 s6) (h7 : PS w6 c7 s7) (h8 : PS w6 c8 s8) (h9 : PS w6 c9 s9) :
    Left w0 (((w6.alloc (.cells #[.map none, .pointer q, .int .i64 x1] 37)).alloc (.cells #[.string n2, .string n3, .string n4, .string n5, .pointer none, .int .i64 x11, .int .i64 0, .pointer c6, .pointer none, .pointer c9, .pointer none, .pointer none, .pointer none, .int .i64 x10, .int .i64 0] 41)).drewN nq)
      w6.heap.size c0 c6 c7 c8 c9 q s0 s6 s7 s8 s9 n2 n3 n4 n5 x1 x10 x11 := by
  have hz : Below w6.heap.size w6 (((w6.alloc (.cells #[.map none, .pointer q, .int .i64 x1] 37)).alloc (.cells #[.string n2, .string n3, .string n4, .string n5, .pointer none, .int .i64 x11, .int .i64 0, .pointer c6, .pointer none, .pointer c9, .pointer none, .pointer none, .pointer none, .int .i64 x10, .int .i64 0] 41)).drewN nq) :=
    (((Below.refl _ _).alloc (Nat.le_refl _) _).alloc (by simp) _).trans ⟨rfl, rfl, rfl, Nat.le_refl _, fun _ _ => rfl⟩
  refine ⟨hb.trans (hz.mono hb.size), ?_, h6.mono hz, h7.mono hz, h8.mono hz, h9.mono hz, ?_, ?_, ?_, ?_, ?_, ?_, ?_, ?_, ?_, ?_, ?_, ?_, ?_, ?_, ?_, ?_, ?_, ?_⟩
  · rcases hf with h | ⟨b, off, h1, h2, h3⟩
    · exact .inl h
    · refine .inr ⟨b, off, h1, ?_, h3⟩
      rcases h0 with ⟨e, _⟩ | ⟨b', off', e, hl, _⟩
      · rw [e] at h1; cases h1
      · rw [e] at h1; cases h1
        rw [hz.cell (p := ⟨b, off, none⟩) hl]; exact h2
  all_goals simp [go_sem]

set_option maxRecDepth 100000 in
set_option maxHeartbeats 2000000 in
theorem law_any (a0 a6 a7 a8 a9 : Option Addr) (s0 s6 s7 s8 s9 n2 n3 n4 n5 : ByteArray) (x1 x10 x11 : Int) (w : World)
    (h0 : PS w a0 s0) (h6 : PS w a6 s6) (h7 : PS w a7 s7) (h8 : PS w a8 s8) (h9 : PS w a9 s9) :
    Calls Try.prog 5 #[.pointer a0, .int .i64 x1, .string n2, .string n3, .string n4, .string n5, .pointer a6, .pointer a7, .pointer a8, .pointer a9, .int .i64 x10, .int .i64 x11] w fun e w' => e = .returned (.bool true) ∧ Below w.heap.size w w' := by
  have qm : ∀ (w : World) (r : Option Nat), (binOp .neq 35 (.map r) (.map none)).run Try.prog w = .ok (.bool (!r.isNone)) w := fun w r => run_neq_map_nil w _ _ _ r Try.underlying35
  have qn := neq_same
  have qe := eql_same
  go_enter Try.func5, Try.ntmps5
  go_wp2_with fail
  refine (bytes_any a0 a6 a7 a8 a9 s0 s6 s7 s8 s9 n2 n3 n4 n5 x1 x10 x11 _ h0 h6 h7 h8 h9).mono ?_
  rintro e w' ⟨⟨b, rfl⟩, rfl⟩
  cases b
  · go_wp2
    go_ret
    exact ⟨rfl, Below.refl _ _⟩
  · go_wp2_with fail
    refine (fit_any a0 a6 a7 a8 a9 s0 s6 s7 s8 s9 n2 n3 n4 n5 _ h0 h6 h7 h8 h9).mono ?_
    rintro e w1 ⟨⟨b, rfl⟩, o, rfl⟩
    have hb : Below w.heap.size w (w.alloc o) := (Below.refl _ _).alloc (Nat.le_refl _) _
    cases b
    · go_wp2
      go_ret
      exact ⟨rfl, hb⟩
    · replace h0 := h0.mono hb
      replace h6 := h6.mono hb
      replace h7 := h7.mono hb
      replace h8 := h8.mono hb
      replace h9 := h9.mono hb
      generalize w.alloc o = w1 at h0 h6 h7 h8 h9 hb ⊢
      go_wp2_with fail
      refine (clone_any a0 s0 _ h0).mono ?_
      rintro e w2 ⟨c0, rfl, k0, hb0⟩
      replace h6 := h6.mono hb0
      replace h7 := h7.mono hb0
      replace h8 := h8.mono hb0
      replace h9 := h9.mono hb0
      replace hb := hb.trans (hb0.mono hb.size)
      clear hb0 h0
      go_wp2_with fail
      refine (clone_any a6 s6 _ h6).mono ?_
      rintro e w3 ⟨c6, rfl, k6, hb0⟩
      replace k0 := k0.mono hb0
      replace h7 := h7.mono hb0
      replace h8 := h8.mono hb0
      replace h9 := h9.mono hb0
      replace hb := hb.trans (hb0.mono hb.size)
      clear hb0 h6
      go_wp2_with fail
      refine (clone_any a7 s7 _ h7).mono ?_
      rintro e w4 ⟨c7, rfl, k7, hb0⟩
      replace k0 := k0.mono hb0
      replace k6 := k6.mono hb0
      replace h8 := h8.mono hb0
      replace h9 := h9.mono hb0
      replace hb := hb.trans (hb0.mono hb.size)
      clear hb0 h7
      go_wp2_with fail
      refine (clone_any a8 s8 _ h8).mono ?_
      rintro e w5 ⟨c8, rfl, k8, hb0⟩
      replace k0 := k0.mono hb0
      replace k6 := k6.mono hb0
      replace k7 := k7.mono hb0
      replace h9 := h9.mono hb0
      replace hb := hb.trans (hb0.mono hb.size)
      clear hb0 h8
      go_wp2_with fail
      refine (clone_any a9 s9 _ h9).mono ?_
      rintro e w6 ⟨c9, rfl, k9, hb0⟩
      replace k0 := k0.mono hb0
      replace k6 := k6.mono hb0
      replace k7 := k7.mono hb0
      replace k8 := k8.mono hb0
      replace hb := hb.trans (hb0.mono hb.size)
      clear hb0 h9
      go_wp2_with fail
      refine (deref_any c0 s0 _ k0).mono ?_
      rintro e w' ⟨rfl, rfl⟩
      go_wp2_with fail
      refine (deref_any c6 s6 _ k6).mono ?_
      rintro e w' ⟨rfl, rfl⟩
      go_wp2_with fail
      refine (deref_any c7 s7 _ k7).mono ?_
      rintro e w' ⟨rfl, rfl⟩
      go_wp2_with fail
      refine (deref_any c8 s8 _ k8).mono ?_
      rintro e w' ⟨rfl, rfl⟩
      go_wp2_with fail
      refine (deref_any c9 s9 _ k9).mono ?_
      rintro e w' ⟨rfl, rfl⟩
      go_upto_region 18 with fail
      go_cut [31] from 96 to 98 (fun v w' => v = .pointer (some ⟨w6.heap.size, 0, none⟩) ∧ ∃ q, Left w w' w6.heap.size c0 c6 c7 c8 c9 q s0 s6 s7 s8 s9 n2 n3 n4 n5 x1 x10 x11)
      case first =>
        go_wp2_with fail
        rcases id k0 with ⟨rfl, rfl⟩ | ⟨b, off, rfl, hlt, hc⟩
        · refine (zz_nil c6 c7 c8 c9 n2 n3 n4 n5 x1 x10 x11 w6).mono ?_
          rintro e w' ⟨rfl, nq, rfl⟩
          go_wp2
          go_meet
          case rel => exact ⟨rfl, _, left_mk w w6 nq none c6 c7 c8 c9 none _ s6 s7 s8 s9 n2 n3 n4 n5 x1 x10 x11 hb (.inl ⟨rfl, rfl⟩) k0 k6 k7 k8 k9⟩
        · cases he : (s0.toList == n2.toList)
          · refine (zz_no b off s0 c6 c7 c8 c9 n2 n3 n4 n5 x1 x10 x11 w6 hlt hc he).mono ?_
            rintro e w' ⟨rfl, nq, rfl⟩
            go_wp2
            go_meet
            case rel => exact ⟨rfl, _, left_mk w w6 nq (some ⟨b, off, none⟩) c6 c7 c8 c9 _ s0 s6 s7 s8 s9 n2 n3 n4 n5 x1 x10 x11 hb (.inr ⟨b, off, rfl, hc, .inr ⟨he, rfl⟩⟩) k0 k6 k7 k8 k9⟩
          · refine (zz_yes b off s0 c6 c7 c8 c9 n2 n3 n4 n5 x1 x10 x11 w6 hlt hc he).mono ?_
            rintro e w' ⟨rfl, nq, rfl⟩
            go_wp2
            go_meet
            case rel => exact ⟨rfl, _, left_mk w w6 nq (some ⟨b, off, none⟩) c6 c7 c8 c9 _ s0 s6 s7 s8 s9 n2 n3 n4 n5 x1 x10 x11 hb (.inr ⟨b, off, rfl, hc, .inl ⟨he, rfl⟩⟩) k0 k6 k7 k8 k9⟩
      case rest =>
        clear hb k0 k6 k7 k8 k9
        obtain ⟨rfl, q, hL⟩ := hcut
        obtain ⟨hb, hf, k6, k7, k8, k9, t0, t1, t2, r0, r1, r2, r3, r4, r5, r6, r7, r8, r9, r10, r11, r12, r13, r14⟩ := hL
        generalize w6.heap.size = B at t0 t1 t2 r0 r1 r2 r3 r4 r5 r6 r7 r8 r9 r10 r11 r12 r13 r14 ⊢
        go_upto_region 21 with fail
        go_cut [119] from 111 to 119 (fun v w' => v = .bool false ∧ wc = w')
        case first =>
          rcases k7 with ⟨rfl, rfl⟩ | ⟨b', off', rfl, hlt', hc'⟩
          · go_wp2
            go_meet
            case rel => exact ⟨rfl, rfl⟩
          · go_wp2
            go_meet
            case rel => exact ⟨rfl, rfl⟩
        case rest =>
          obtain ⟨rfl, rfl⟩ := hcut
          clear k7 r8 r10
          go_upto_region 23 with fail
          go_cut [128] from 120 to 128 (fun v w' => v = .bool false ∧ wc = w')
          case first =>
            rcases k8 with ⟨rfl, rfl⟩ | ⟨b', off', rfl, hlt', hc'⟩
            · go_wp2
              go_meet
              case rel => exact ⟨rfl, rfl⟩
            · go_wp2
              go_meet
              case rel => exact ⟨rfl, rfl⟩
          case rest =>
            obtain ⟨rfl, rfl⟩ := hcut
            clear k8 
            go_upto_region 29 with fail
            go_cut [181] from 173 to 181 (fun v w' => v = .bool false ∧ wc = w')
            case first =>
              rcases k6 with ⟨rfl, rfl⟩ | ⟨b', off', rfl, hlt', hc'⟩
              · go_wp2
                go_meet
                case rel => exact ⟨rfl, rfl⟩
              · go_wp2
                go_meet
                case rel => exact ⟨rfl, rfl⟩
            case rest =>
              obtain ⟨rfl, rfl⟩ := hcut
              clear k6 r0 r1 r2 r3 r7 r9
              go_upto_region 31 with fail
              go_cut [190] from 182 to 190 (fun v w' => v = .bool false ∧ wc = w')
              case first =>
                rcases k9 with ⟨rfl, rfl⟩ | ⟨b', off', rfl, hlt', hc'⟩
                · go_wp2
                  go_meet
                  case rel => exact ⟨rfl, rfl⟩
                · go_wp2
                  go_meet
                  case rel => exact ⟨rfl, rfl⟩
              case rest =>
                obtain ⟨rfl, rfl⟩ := hcut
                clear k9 
                rcases hf with ⟨rfl, rfl⟩ | ⟨b, off, rfl, hc, ⟨he, rfl⟩ | ⟨he, rfl⟩⟩
                all_goals
                  go_wp2
                  go_ret
                  exact ⟨rfl, hb⟩
end Go.Proofs.Qxb6602367a.Forget
