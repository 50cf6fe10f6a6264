/- The callees of FnForgetReviewExact but forgetReview: what each call does. -/
import Derived.Test.Qxb6602367aRows
import Derived.WalkKit
import Derived.WalkSpells
import Derived.WalkLawsBesides
import Derived.RegionTactic
import Derived.ChangeAlike
import Derived.Deep.QuietTactic
import Derived.BigQuiet
import Derived.Deep.DeepCutAuto
namespace Go.Proofs.Qxb6602367a.Forget
open Go.RowKit

/-- a pointer to a string: nil (then s is empty), or it leads to a cell that holds s -/
def PS (w : World) (a : Option Addr) (s : ByteArray) : Prop :=
  (a = none ∧ s = ByteArray.empty) ∨ ∃ b off, a = some ⟨b, off, none⟩ ∧ b < w.heap.size ∧ w.cell? ⟨b, off, none⟩ = some (.string s)

/-- it returned some bool -/
def IsBool (e : Ending) : Prop := ∃ b : Bool, e = .returned (.bool b)
/-- one new block, nothing else -/
def OneNew (w w' : World) : Prop := ∃ o : Obj, w' = w.alloc o

set_option maxHeartbeats 400000 in
theorem len_any (a : Option Addr) (s : ByteArray) (w : World) (h : PS w a s) :
    Calls Try.prog 19 #[.pointer a] w fun e w' => e = .returned (.int .i64 s.size) ∧ w = w' := by
  rcases h with ⟨rfl, rfl⟩ | ⟨b, off, rfl, hb, hc⟩
  · go_enter Try.func19, Try.ntmps19
    go_wp2
    go_ret
    exact ⟨rfl, rfl⟩
  · go_enter Try.func19, Try.ntmps19
    go_wp2
    go_ret
    exact ⟨rfl, rfl⟩

set_option maxHeartbeats 400000 in
theorem deref_any (a : Option Addr) (s : ByteArray) (w : World) (h : PS w a s) :
    Calls Try.prog 16 #[.pointer a] w fun e w' => e = .returned (.string s) ∧ w = w' := by
  rcases h with ⟨rfl, rfl⟩ | ⟨b, off, rfl, hb, hc⟩
  · go_enter Try.func16, Try.ntmps16
    go_wp2
    go_ret
    exact ⟨rfl, rfl⟩
  · go_enter Try.func16, Try.ntmps16
    go_wp2
    go_ret
    exact ⟨rfl, rfl⟩

set_option maxHeartbeats 400000 in
theorem clone_some (b off : Nat) (s : ByteArray) (w : World) (h : w.cell? ⟨b, off, none⟩ = some (.string s)) :
    Calls Try.prog 15 #[.pointer (some ⟨b, off, none⟩)] w fun e w' => e = .returned (.pointer (some ⟨w.heap.size, 0, none⟩)) ∧ w' = w.alloc (.cells #[.string s] 9) := by
  go_enter Try.func15, Try.ntmps15
  go_wp2
  go_ret
  exact ⟨rfl, rfl⟩

set_option maxHeartbeats 400000 in
theorem clone_none (w : World) :
    Calls Try.prog 15 #[.pointer none] w fun e w' => e = .returned (.pointer none) ∧ w = w' := by
  go_enter Try.func15, Try.ntmps15
  go_wp2
  go_ret
  exact ⟨rfl, rfl⟩

set_option maxRecDepth 100000 in
set_option maxHeartbeats 4000000 in
/-- zzBytes_FnForgetReviewExact: it answers some bool and turns nothing. -/
theorem bytes_any (a0 a6 a7 a8 a9 : Option Addr) (s0 s6 s7 s8 s9 n2 n3 n4 n5 : ByteArray) (x1 x10 x11 : Int) (w : World)
    (h0 : PS w a0 s0) (h6 : PS w a6 s6) (h7 : PS w a7 s7) (h8 : PS w a8 s8) (h9 : PS w a9 s9) :
    Calls Try.prog 13 #[.pointer a0, .int .i64 x1, .string n2, .string n3, .string n4, .string n5, .pointer a6, .pointer a7, .pointer a8, .pointer a9, .int .i64 x10, .int .i64 x11] w fun e w' => IsBool e ∧ w = w' := by
  go_enter Try.func13, Try.ntmps13
  go_upto_if 27 with fail
  go_cut [25] (fun z w' => ∃ n : Int, z = .int .i64 n ∧ 0 ≤ n ∧ n ≤ 1048576 ∧ w = w')
  case first =>
    rcases h0 with ⟨rfl, rfl⟩ | ⟨b, off, rfl, hb, hc⟩
    · go_wp2
      go_meet
      case rel => exact ⟨_, rfl, by omega, by omega, rfl⟩
    · go_wp2
      · go_ret
        exact ⟨⟨_, rfl⟩, rfl⟩
      · go_meet
        case rel => exact ⟨_, rfl, by omega, by omega, rfl⟩
  case rest =>
    clear h0
    obtain ⟨m0, rfl, hm0, hm1, rfl⟩ := hcut
    go_upto_if 78 with fail
    all_goals try (go_ret; exact ⟨⟨_, rfl⟩, rfl⟩)
    go_cut [25] (fun z w' => ∃ n : Int, z = .int .i64 n ∧ 0 ≤ n ∧ n ≤ 1048576 ∧ w = w')
    case first =>
      rcases h6 with ⟨rfl, rfl⟩ | ⟨b, off, rfl, hb, hc⟩
      · go_wp2
        go_meet
        case rel => exact ⟨_, rfl, by omega, by omega, rfl⟩
      · go_wp2
        · go_ret
          exact ⟨⟨_, rfl⟩, rfl⟩
        · go_ret
          exact ⟨⟨_, rfl⟩, rfl⟩
        · go_meet
          case rel => exact ⟨_, rfl, by omega, by omega, rfl⟩
    case rest =>
      clear h6
      obtain ⟨m6, rfl, hm0, hm1, rfl⟩ := hcut
      go_upto_if 93 with fail
      all_goals try (go_ret; exact ⟨⟨_, rfl⟩, rfl⟩)
      go_cut [25] (fun z w' => ∃ n : Int, z = .int .i64 n ∧ 0 ≤ n ∧ n ≤ 1048576 ∧ w = w')
      case first =>
        rcases h7 with ⟨rfl, rfl⟩ | ⟨b, off, rfl, hb, hc⟩
        · go_wp2
          go_meet
          case rel => exact ⟨_, rfl, by omega, by omega, rfl⟩
        · go_wp2
          · go_ret
            exact ⟨⟨_, rfl⟩, rfl⟩
          · go_ret
            exact ⟨⟨_, rfl⟩, rfl⟩
          · go_meet
            case rel => exact ⟨_, rfl, by omega, by omega, rfl⟩
      case rest =>
        clear h7
        obtain ⟨m7, rfl, hm0, hm1, rfl⟩ := hcut
        go_upto_if 108 with fail
        all_goals try (go_ret; exact ⟨⟨_, rfl⟩, rfl⟩)
        go_cut [25] (fun z w' => ∃ n : Int, z = .int .i64 n ∧ 0 ≤ n ∧ n ≤ 1048576 ∧ w = w')
        case first =>
          rcases h8 with ⟨rfl, rfl⟩ | ⟨b, off, rfl, hb, hc⟩
          · go_wp2
            go_meet
            case rel => exact ⟨_, rfl, by omega, by omega, rfl⟩
          · go_wp2
            · go_ret
              exact ⟨⟨_, rfl⟩, rfl⟩
            · go_ret
              exact ⟨⟨_, rfl⟩, rfl⟩
            · go_meet
              case rel => exact ⟨_, rfl, by omega, by omega, rfl⟩
        case rest =>
          clear h8
          obtain ⟨m8, rfl, hm0, hm1, rfl⟩ := hcut
          go_upto_if 123 with fail
          all_goals try (go_ret; exact ⟨⟨_, rfl⟩, rfl⟩)
          go_cut [25] (fun z w' => ∃ n : Int, z = .int .i64 n ∧ 0 ≤ n ∧ n ≤ 1048576 ∧ w = w')
          case first =>
            rcases h9 with ⟨rfl, rfl⟩ | ⟨b, off, rfl, hb, hc⟩
            · go_wp2
              go_meet
              case rel => exact ⟨_, rfl, by omega, by omega, rfl⟩
            · go_wp2
              · go_ret
                exact ⟨⟨_, rfl⟩, rfl⟩
              · go_ret
                exact ⟨⟨_, rfl⟩, rfl⟩
              · go_meet
                case rel => exact ⟨_, rfl, by omega, by omega, rfl⟩
          case rest =>
            clear h9
            obtain ⟨m9, rfl, hm0, hm1, rfl⟩ := hcut
            go_wp2
            go_ret
            exact ⟨⟨_, rfl⟩, rfl⟩

set_option maxRecDepth 100000 in
set_option maxHeartbeats 1000000 in
/-- zzForgetBytesFit: it answers some bool and lays one new block. -/
theorem fit_any (a0 a1 a2 a3 a4 : Option Addr) (s0 s1 s2 s3 s4 n5 n6 n7 n8 : ByteArray) (w : World)
    (h0 : PS w a0 s0) (h1 : PS w a1 s1) (h2 : PS w a2 s2) (h3 : PS w a3 s3) (h4 : PS w a4 s4) :
    Calls Try.prog 14 #[.pointer a0, .pointer a1, .pointer a2, .pointer a3, .pointer a4, .string n5, .string n6, .string n7, .string n8] w fun e w' => IsBool e ∧ OneNew w w' := by
  go_enter Try.func14, Try.ntmps14
  go_wp2_with fail
  refine (len_any a0 s0 _ h0).mono ?_
  rintro e w' ⟨rfl, rfl⟩
  go_wp2_with fail
  refine (len_any a1 s1 _ h1).mono ?_
  rintro e w' ⟨rfl, rfl⟩
  go_wp2_with fail
  refine (len_any a2 s2 _ h2).mono ?_
  rintro e w' ⟨rfl, rfl⟩
  go_wp2_with fail
  refine (len_any a3 s3 _ h3).mono ?_
  rintro e w' ⟨rfl, rfl⟩
  go_wp2_with fail
  refine (len_any a4 s4 _ h4).mono ?_
  rintro e w' ⟨rfl, rfl⟩
  clear h0 h1 h2 h3 h4
  go_wp2_with fail
  go_loop [20, 21] (fun t i => ∃ (k : Nat) (n : Int), k ≤ 9 ∧ i = .int .i64 k ∧ t = .int .i64 n) (fun _ i => 9 - (intOf i).toNat)
  case atStart => exact ⟨0, 0, by omega, rfl, rfl⟩
  case round =>
    obtain ⟨k, n, hk, rfl, rfl⟩ := hrel
    by_cases hlt : k < 9
    · have hks : k = 0 ∨ k = 1 ∨ k = 2 ∨ k = 3 ∨ k = 4 ∨ k = 5 ∨ k = 6 ∨ k = 7 ∨ k = 8 := by omega
      rcases hks with rfl | rfl | rfl | rfl | rfl | rfl | rfl | rfl | rfl
      all_goals
        go_wp2
        · go_ret
          exact ⟨⟨_, rfl⟩, _, rfl⟩
        · go_round
          case rel => first | exact ⟨1, _, by omega, by go_num, rfl⟩ | exact ⟨2, _, by omega, by go_num, rfl⟩ | exact ⟨3, _, by omega, by go_num, rfl⟩ | exact ⟨4, _, by omega, by go_num, rfl⟩ | exact ⟨5, _, by omega, by go_num, rfl⟩ | exact ⟨6, _, by omega, by go_num, rfl⟩ | exact ⟨7, _, by omega, by go_num, rfl⟩ | exact ⟨8, _, by omega, by go_num, rfl⟩ | exact ⟨9, _, by omega, by go_num, rfl⟩
          case measure => simp [intOf]
    · go_wp2
      go_ret
      exact ⟨⟨_, rfl⟩, _, rfl⟩

theorem PS.mono {w w' : World} {a : Option Addr} {s : ByteArray} (h : PS w a s) (hb : Below w.heap.size w w') : PS w' a s := by
  rcases h with ⟨h1, h2⟩ | ⟨b, off, h1, h2, h3⟩
  · exact .inl ⟨h1, h2⟩
  · exact .inr ⟨b, off, h1, Nat.lt_of_lt_of_le h2 hb.size, by rw [hb.cell (p := ⟨b, off, none⟩) h2]; exact h3⟩

set_option maxHeartbeats 400000 in
/-- zzClone: a pointer to a copy in new memory; nil stays nil. -/
theorem clone_any (a : Option Addr) (s : ByteArray) (w : World) (h : PS w a s) :
    Calls Try.prog 15 #[.pointer a] w fun e w' => ∃ a' : Option Addr, e = .returned (.pointer a') ∧ PS w' a' s ∧ Below w.heap.size w w' := by
  rcases h with ⟨rfl, rfl⟩ | ⟨b, off, rfl, hb, hc⟩
  · refine (clone_none w).mono ?_
    rintro e w' ⟨rfl, rfl⟩
    exact ⟨none, rfl, .inl ⟨rfl, rfl⟩, Below.refl _ _⟩
  · refine (clone_some b off s w hc).mono ?_
    rintro e w' ⟨rfl, rfl⟩
    exact ⟨_, rfl, .inr ⟨w.heap.size, 0, rfl, by simp, by simp [go_sem]⟩, (Below.refl _ _).alloc (Nat.le_refl _) _⟩
end Go.Proofs.Qxb6602367a.Forget
