/- forgetReview and ZZForgetReview: what the call does to the two structs that the law made. -/
import Derived.Test.Qxb6602367aForgetA
namespace Go.Proofs.Qxb6602367a.Forget
open Go.RowKit

theorem setCell_drewN (w : World) (n : Nat) (a : Addr) (v : Value) : (w.drewN n).setCell a v = (w.setCell a v).drewN n := by
  induction n generalizing w with
  | zero => rfl
  | succ n ih =>
    have e1 : ∀ x : World, x.drewN (n + 1) = (x.drewN n).drew := fun _ => rfl
    rw [e1, e1, World.setCell_drew, ih]

set_option maxRecDepth 100000 in
set_option maxHeartbeats 2000000 in
theorem forget_nil (c6 c7 c8 c9 : Option Addr) (n2 n3 n4 n5 : ByteArray) (x1 x10 x11 : Int) (w : World) :
    Calls Try.prog 20 #[.pointer (some ⟨w.heap.size, 0, none⟩), .pointer (some ⟨w.heap.size + 1, 0, none⟩)] ((w.alloc (.cells #[.map none, .pointer none, .int .i64 x1] 37)).alloc
      (.cells #[.string n2, .string n3, .string n4, .string n5, .pointer none, .int .i64 x11, .int .i64 0, .pointer c6, .pointer c7, .pointer c9, .pointer c8, .pointer none, .pointer none, .int .i64 x10, .int .i64 0] 41)) fun e w' =>
      e = .returned (.tuple #[]) ∧ ∃ nq, w' = ((w.alloc (.cells #[.map none, .pointer none, .int .i64 x1] 37)).alloc
      (.cells #[.string n2, .string n3, .string n4, .string n5, .pointer none, .int .i64 x11, .int .i64 0, .pointer c6, .pointer none, .pointer c9, .pointer none, .pointer none, .pointer none, .int .i64 x10, .int .i64 0] 41)).drewN nq := by
  go_enter Try.func20, Try.ntmps20
  go_wp2
  go_quiet (fail)
  go_wp2
  go_end0
  exact ⟨rfl, nq, rfl⟩

set_option maxRecDepth 100000 in
set_option maxHeartbeats 2000000 in
theorem forget_yes (b off : Nat) (s0 : ByteArray) (c6 c7 c8 c9 : Option Addr) (n2 n3 n4 n5 : ByteArray) (x1 x10 x11 : Int) (w : World) (hb : b < w.heap.size) (hc : w.cell? ⟨b, off, none⟩ = some (.string s0)) (he : (s0.toList == n2.toList) = true) :
    Calls Try.prog 20 #[.pointer (some ⟨w.heap.size, 0, none⟩), .pointer (some ⟨w.heap.size + 1, 0, none⟩)] ((w.alloc (.cells #[.map none, .pointer (some ⟨b, off, none⟩), .int .i64 x1] 37)).alloc
      (.cells #[.string n2, .string n3, .string n4, .string n5, .pointer none, .int .i64 x11, .int .i64 0, .pointer c6, .pointer c7, .pointer c9, .pointer c8, .pointer none, .pointer none, .int .i64 x10, .int .i64 0] 41)) fun e w' =>
      e = .returned (.tuple #[]) ∧ ∃ nq, w' = ((w.alloc (.cells #[.map none, .pointer none, .int .i64 x1] 37)).alloc
      (.cells #[.string n2, .string n3, .string n4, .string n5, .pointer none, .int .i64 x11, .int .i64 0, .pointer c6, .pointer none, .pointer c9, .pointer none, .pointer none, .pointer none, .int .i64 x10, .int .i64 0] 41)).drewN nq := by
  go_enter Try.func20, Try.ntmps20
  go_wp2
  go_quiet (fail)
  go_wp2
  go_end0
  exact ⟨rfl, nq, by rw [setCell_drewN]; simp [go_sem]⟩

set_option maxRecDepth 100000 in
set_option maxHeartbeats 2000000 in
theorem forget_no (b off : Nat) (s0 : ByteArray) (c6 c7 c8 c9 : Option Addr) (n2 n3 n4 n5 : ByteArray) (x1 x10 x11 : Int) (w : World) (hb : b < w.heap.size) (hc : w.cell? ⟨b, off, none⟩ = some (.string s0)) (he : (s0.toList == n2.toList) = false) :
    Calls Try.prog 20 #[.pointer (some ⟨w.heap.size, 0, none⟩), .pointer (some ⟨w.heap.size + 1, 0, none⟩)] ((w.alloc (.cells #[.map none, .pointer (some ⟨b, off, none⟩), .int .i64 x1] 37)).alloc
      (.cells #[.string n2, .string n3, .string n4, .string n5, .pointer none, .int .i64 x11, .int .i64 0, .pointer c6, .pointer c7, .pointer c9, .pointer c8, .pointer none, .pointer none, .int .i64 x10, .int .i64 0] 41)) fun e w' =>
      e = .returned (.tuple #[]) ∧ ∃ nq, w' = ((w.alloc (.cells #[.map none, .pointer (some ⟨b, off, none⟩), .int .i64 x1] 37)).alloc
      (.cells #[.string n2, .string n3, .string n4, .string n5, .pointer none, .int .i64 x11, .int .i64 0, .pointer c6, .pointer none, .pointer c9, .pointer none, .pointer none, .pointer none, .int .i64 x10, .int .i64 0] 41)).drewN nq := by
  go_enter Try.func20, Try.ntmps20
  go_wp2
  go_quiet (fail)
  go_wp2
  go_end0
  exact ⟨rfl, nq, rfl⟩

set_option maxRecDepth 100000 in
set_option maxHeartbeats 2000000 in
theorem zz_nil (c6 c7 c8 c9 : Option Addr) (n2 n3 n4 n5 : ByteArray) (x1 x10 x11 : Int) (w : World) :
    Calls Try.prog 17 #[.pointer (some ⟨w.heap.size, 0, none⟩), .pointer (some ⟨w.heap.size + 1, 0, none⟩)] ((w.alloc (.cells #[.map none, .pointer none, .int .i64 x1] 37)).alloc
      (.cells #[.string n2, .string n3, .string n4, .string n5, .pointer none, .int .i64 x11, .int .i64 0, .pointer c6, .pointer c7, .pointer c9, .pointer c8, .pointer none, .pointer none, .int .i64 x10, .int .i64 0] 41)) fun e w' =>
      e = .returned (.tuple #[]) ∧ ∃ nq, w' = ((w.alloc (.cells #[.map none, .pointer none, .int .i64 x1] 37)).alloc
      (.cells #[.string n2, .string n3, .string n4, .string n5, .pointer none, .int .i64 x11, .int .i64 0, .pointer c6, .pointer none, .pointer c9, .pointer none, .pointer none, .pointer none, .int .i64 x10, .int .i64 0] 41)).drewN nq := by
  go_enter Try.func17, Try.ntmps17
  go_wp2_with fail
  refine (forget_nil c6 c7 c8 c9 n2 n3 n4 n5 x1 x10 x11 w).mono ?_
  rintro e w' ⟨rfl, nq, rfl⟩
  go_wp2
  go_end0
  exact ⟨rfl, nq, rfl⟩

set_option maxRecDepth 100000 in
set_option maxHeartbeats 2000000 in
theorem zz_yes (b off : Nat) (s0 : ByteArray) (c6 c7 c8 c9 : Option Addr) (n2 n3 n4 n5 : ByteArray) (x1 x10 x11 : Int) (w : World) (hb : b < w.heap.size) (hc : w.cell? ⟨b, off, none⟩ = some (.string s0)) (he : (s0.toList == n2.toList) = true) :
    Calls Try.prog 17 #[.pointer (some ⟨w.heap.size, 0, none⟩), .pointer (some ⟨w.heap.size + 1, 0, none⟩)] ((w.alloc (.cells #[.map none, .pointer (some ⟨b, off, none⟩), .int .i64 x1] 37)).alloc
      (.cells #[.string n2, .string n3, .string n4, .string n5, .pointer none, .int .i64 x11, .int .i64 0, .pointer c6, .pointer c7, .pointer c9, .pointer c8, .pointer none, .pointer none, .int .i64 x10, .int .i64 0] 41)) fun e w' =>
      e = .returned (.tuple #[]) ∧ ∃ nq, w' = ((w.alloc (.cells #[.map none, .pointer none, .int .i64 x1] 37)).alloc
      (.cells #[.string n2, .string n3, .string n4, .string n5, .pointer none, .int .i64 x11, .int .i64 0, .pointer c6, .pointer none, .pointer c9, .pointer none, .pointer none, .pointer none, .int .i64 x10, .int .i64 0] 41)).drewN nq := by
  go_enter Try.func17, Try.ntmps17
  go_wp2_with fail
  refine (forget_yes b off s0 c6 c7 c8 c9 n2 n3 n4 n5 x1 x10 x11 w hb hc he).mono ?_
  rintro e w' ⟨rfl, nq, rfl⟩
  go_wp2
  go_end0
  exact ⟨rfl, nq, rfl⟩

set_option maxRecDepth 100000 in
set_option maxHeartbeats 2000000 in
theorem zz_no (b off : Nat) (s0 : ByteArray) (c6 c7 c8 c9 : Option Addr) (n2 n3 n4 n5 : ByteArray) (x1 x10 x11 : Int) (w : World) (hb : b < w.heap.size) (hc : w.cell? ⟨b, off, none⟩ = some (.string s0)) (he : (s0.toList == n2.toList) = false) :
    Calls Try.prog 17 #[.pointer (some ⟨w.heap.size, 0, none⟩), .pointer (some ⟨w.heap.size + 1, 0, none⟩)] ((w.alloc (.cells #[.map none, .pointer (some ⟨b, off, none⟩), .int .i64 x1] 37)).alloc
      (.cells #[.string n2, .string n3, .string n4, .string n5, .pointer none, .int .i64 x11, .int .i64 0, .pointer c6, .pointer c7, .pointer c9, .pointer c8, .pointer none, .pointer none, .int .i64 x10, .int .i64 0] 41)) fun e w' =>
      e = .returned (.tuple #[]) ∧ ∃ nq, w' = ((w.alloc (.cells #[.map none, .pointer (some ⟨b, off, none⟩), .int .i64 x1] 37)).alloc
      (.cells #[.string n2, .string n3, .string n4, .string n5, .pointer none, .int .i64 x11, .int .i64 0, .pointer c6, .pointer none, .pointer c9, .pointer none, .pointer none, .pointer none, .int .i64 x10, .int .i64 0] 41)).drewN nq := by
  go_enter Try.func17, Try.ntmps17
  go_wp2_with fail
  refine (forget_no b off s0 c6 c7 c8 c9 n2 n3 n4 n5 x1 x10 x11 w hb hc he).mono ?_
  rintro e w' ⟨rfl, nq, rfl⟩
  go_wp2
  go_end0
  exact ⟨rfl, nq, rfl⟩
end Go.Proofs.Qxb6602367a.Forget
