/- FnVP9KeyframeSizeRoundTrip: the law's walk. -/
import Derived.Test.Qxb6001091aVpC
import Derived.Test.Qxb6001091aVpP
namespace Go.Proofs.Qxb6001091a.Bits
open Go.RowKit

set_option maxHeartbeats 1000000 in
/-- zzBytes_FnVP9KeyframeSizeRoundTrip -/
theorem bytes11 (a : Option Addr) (n c : Nat) (x0 x1 x2 x3 x4 : Int) (w : World) (hn : n ≤ maxLen) :
    Calls Try.prog 11 #[.int .i64 x0, .int .i64 x1, .int .i64 x2, .int .i64 x3, .int .u32 x4, .slice a n c] w fun e w' => IsBool e ∧ w = w' := by
  unfold maxLen at hn
  go_enter Try.func11, Try.ntmps11
  go_wp2
  all_goals
    go_ret
    exact ⟨⟨_, rfl⟩, rfl⟩

theorem fillI (f : Nat) (i : Int) (w : World) (hf : f < 4294967296) (h0 : 0 ≤ i) (h1 : i ≤ 20) :
    Calls Try.prog 14 #[.int .u32 f, .int .i64 i] w fun e w' => IsBit e ∧ w = w' := by
  obtain ⟨k, rfl⟩ := Int.eq_ofNat_of_zero_le h0
  exact fill14 f k w hf (by omega)

/-- the bits written so far lie in the buffer; nothing older has turned -/
structure En (w1 w : World) (bl : List Nat) : Prop where
  buf : BufIs w w1.heap.size bl
  two : ∀ b ∈ bl, b < 2
  bel : Below w1.heap.size w1 w
  size : w.heap.size = w1.heap.size + 1

theorem bitsOf_two (k : Nat) : ∀ v, ∀ b ∈ bitsOf v k, b < 2 := by
  induction k with
  | zero => intro v b hb; simp [bitsOf] at hb
  | succ k ih =>
    intro v b hb
    simp only [bitsOf, List.mem_append, List.mem_singleton] at hb
    rcases hb with hb | rfl
    · exact ih _ _ hb
    · exact Nat.mod_lt _ (by omega)

theorem putE {w1 w : World} {bl : List Nat} (v c K : Nat) (hE : En w1 w bl) (hv : v < 4294967296) (hc : c ≤ 32) (hK : bl.length ≤ K) (hKc : K + c ≤ 96) :
    Calls Try.prog 13 #[.slice (some ⟨w1.heap.size, 0, none⟩) 96 96, .int .i64 bl.length, .int .i64 v, .int .i64 c] w fun e w' =>
      ∃ bl', Hid (bl' = bl ++ bitsOf v c) ∧ e = .returned (.int .i64 (bl'.length : Nat)) ∧ En w1 w' bl' ∧ bl'.length ≤ K + c := by
  refine (put13 w1.heap.size bl v c w hv hc (by omega) hE.buf).mono ?_
  rintro e w' ⟨rfl, hb, hT⟩
  refine ⟨_, rfl, rfl, ⟨hb, ?_, hE.bel.trans (hT.below (Nat.le_refl _)), by rw [hT.size]; exact hE.size⟩, by rw [List.length_append, bitsOf_len]; omega⟩
  intro b hb'
  rw [List.mem_append] at hb'
  rcases hb' with hb' | hb'
  · exact hE.two b hb'
  · exact bitsOf_two _ _ b hb'

/-- the ways through an 'if' meet: L free bits may have been laid -/
def Join (w1 w' : World) (blp : List Nat) (L K M : Nat) (v14 v15 : Value) : Prop :=
  ∃ (bl x : List Nat) (k : Nat), v14 = .int .i64 (bl.length : Nat) ∧ v15 = .int .i64 (k : Nat) ∧ k ≤ K ∧ En w1 w' bl ∧ bl.length ≤ M ∧ x.length = L ∧ Hid (bl = blp ++ x)

theorem en_start (w1 : World) : En w1 (w1.alloc (.cells (madeCells #[.int .u8 0] 96) 5)) [] :=
  ⟨(World.rowIs_made w1 _ 96 5).congr (fun i _ => by simp), fun b hb => by simp at hb, (Below.refl _ _).alloc (Nat.le_refl _) _, by simp⟩

set_option maxHeartbeats 4000000 in
set_option maxRecDepth 100000 in
theorem law3 (P cs W H f : Nat) (X Y : Int) (a : Option Addr) (n c : Nat) (D : Nat → Nat) (w : World) (hn : n ≤ 65536) (hD : ∀ i, D i < 256) (h : Bytes w a n D) (hP : P ≤ 3) (hcs : cs ≤ 7) (hW : W < 65536) (hH : H < 65536) (hf : f < 4294967296) (hX : X = (W : Int) + 1) (hY : Y = (H : Int) + 1) :
    Calls Try.prog 3 #[.int .i64 P, .int .i64 cs, .int .i64 X, .int .i64 Y, .int .u32 f, .slice a n c] w fun e w' => e = .returned (.bool true) ∧ Below w.heap.size w w' := by
  have HX : Hid (X = (W : Int) + 1) := hX
  have HY : Hid (Y = (H : Int) + 1) := hY
  have x1 : 1 ≤ X := by omega
  have x2 : X ≤ 65536 := by omega
  have y1 : 1 ≤ Y := by omega
  have y2 : Y ≤ 65536 := by omega
  clear hX hY
  have hmk : ∀ w, (Instr.makeSlice 23 (.int .i64 96) (.int .i64 96)).run Try.prog w = .ok (.slice (some ⟨w.heap.size, 0, none⟩) 96 96) (w.alloc (.cells (madeCells #[.int .u8 0] 96) 5)) :=
    run_make_row' (P := Try.prog) 23 5 (.int .u8 0) 1 Try.underlying23 info5 rfl .i64 .i64 96 (by omega) (by omega)
  obtain ⟨b0, HB0⟩ : ∃ b0, Hid (P % 2 = b0) := ⟨_, rfl⟩
  obtain ⟨b1, HB1⟩ : ∃ b1, Hid (P / 2 = b1) := ⟨_, rfl⟩
  have hb0 : b0 < 2 := by have := HB0.out; omega
  have hb1 : b1 < 2 := by have := HB1.out; omega
  have hand : bits .and .i64 (P : Int) 1 = (b0 : Int) := by rw [← HB0.out]; exact and1_i64 P (by omega)
  have hdiv : (P : Int) / 2 = (b1 : Int) := by rw [← HB1.out]; omega
  have hnm : n ≤ maxLen := by unfold maxLen; omega
  go_enter Try.func3, Try.ntmps3
  go_wp2_with fail
  refine (bytes11 a n c _ _ _ _ _ _ hnm).mono ?_
  rintro e w' ⟨⟨b, rfl⟩, rfl⟩
  cases b
  · go_wp2
    go_ret
    exact ⟨rfl, Below.refl _ _⟩
  go_wp2_with fail
  refine (clone12 a n c D _ (by omega) h).mono ?_
  rintro e w1 ⟨a', c', rfl, h', hab, hb1⟩
  clear h
  have HAB : Hid (∀ x, a' = some x → x.block < w1.heap.size) := hab
  clear hab
  have hE0 := en_start w1
  go_wp2_with fail
  refine (putE 2 2 0 hE0 (by omega) (by omega) (by first | omega | simp) (by omega)).mono ?_
  rintro e w2 ⟨bl1, HL1, rfl, hE1, hl1⟩
  clear hE0
  go_wp2_with fail
  refine (putE b0 1 2 hE1 (by omega) (by omega) (by first | omega | simp) (by omega)).mono ?_
  rintro e w3 ⟨bl2, HL2, rfl, hE2, hl2⟩
  clear hE1
  go_wp2_with fail
  refine (putE b1 1 3 hE2 (by omega) (by omega) (by first | omega | simp) (by omega)).mono ?_
  rintro e w4 ⟨bl3, HL3, rfl, hE3, hl3⟩
  clear hE2
  go_upto_if 80 with fail
  go_cut [14, 15] from 79 to 88 (fun v14 v15 w' => Join w1 w' bl3 (if P = 3 then 1 else 0) 1 5 v14 v15)
  case first =>
    by_cases hp3 : P = 3
    · have hpe : ((P : Int) == 3) = true := by simp; omega
      have HP3 : Hid (P = 3) := hp3
      clear hp3
      go_wp2_with fail
      refine (fillI f _ _ hf (by omega) (by omega)).mono ?_
      rintro e w' ⟨⟨z1, hz1, rfl⟩, rfl⟩
      go_wp2_with fail
      refine (putE z1 1 4 hE3 (by omega) (by omega) (by first | omega | simp) (by omega)).mono ?_
      rintro e w5 ⟨bl4a, HL4a, rfl, hE4a, hl4a⟩
      clear hE3
      go_wp2_with fail
      go_meet
      case rel => exact ⟨bl4a, bitsOf z1 1, 1, rfl, rfl, by omega, hE4a, by omega, by rw [bitsOf_len, if_pos HP3.out], HL4a⟩
    · have hpe : ((P : Int) == 3) = false := by simp; omega
      go_wp2_with fail
      go_meet
      case rel => exact ⟨bl3, [], 0, rfl, rfl, by omega, hE3, by omega, by rw [if_neg hp3]; rfl, (List.append_nil _).symm⟩
  case rest =>
    clear hE3
    obtain ⟨bl4, x1', k1, rfl, rfl, hk1, hE4, hl4, lx1, HL4⟩ := hcut
    go_wp2_with fail
    refine (putE 0 1 5 hE4 (by omega) (by omega) (by first | omega | simp) (by omega)).mono ?_
    rintro e w6 ⟨bl5, HL5, rfl, hE5, hl5⟩
    clear hE4
    go_wp2_with fail
    refine (putE 0 1 6 hE5 (by omega) (by omega) (by first | omega | simp) (by omega)).mono ?_
    rintro e w7 ⟨bl6, HL6, rfl, hE6, hl6⟩
    clear hE5
    go_wp2_with fail
    refine (fillI f _ _ hf (by omega) (by omega)).mono ?_
    rintro e w' ⟨⟨za, hza, rfl⟩, rfl⟩
    go_wp2_with fail
    refine (putE za 1 7 hE6 (by omega) (by omega) (by first | omega | simp) (by omega)).mono ?_
    rintro e w8 ⟨bl7, HL7, rfl, hE7, hl7⟩
    clear hE6
    go_wp2_with fail
    refine (fillI f _ _ hf (by omega) (by omega)).mono ?_
    rintro e w' ⟨⟨zb, hzb, rfl⟩, rfl⟩
    go_wp2_with fail
    refine (putE zb 1 8 hE7 (by omega) (by omega) (by first | omega | simp) (by omega)).mono ?_
    rintro e w9 ⟨bl8, HL8, rfl, hE8, hl8⟩
    clear hE7
    go_wp2_with fail
    refine (putE 4817730 24 9 hE8 (by omega) (by omega) (by first | omega | simp) (by omega)).mono ?_
    rintro e w10 ⟨bl9, HL9, rfl, hE9, hl9⟩
    clear hE8
    go_upto_if 115 with fail
    go_cut [14, 15] from 114 to 123 (fun v14 v15 w' => Join w1 w' bl9 (if 2 ≤ P then 1 else 0) 4 34 v14 v15)
    case first =>
      by_cases hp2 : 2 ≤ P
      · skip
        go_wp2_with fail
        refine (fillI f _ _ hf (by omega) (by omega)).mono ?_
        rintro e w' ⟨⟨z3, hz3, rfl⟩, rfl⟩
        go_wp2_with fail
        refine (putE z3 1 33 hE9 (by omega) (by omega) (by first | omega | simp) (by omega)).mono ?_
        rintro e w11 ⟨bl10a, HL10a, rfl, hE10a, hl10a⟩
        clear hE9
        go_wp2_with fail
        go_meet
        case rel => exact ⟨bl10a, bitsOf z3 1, k1 + 3, rfl, num_eq (by omega), by omega, hE10a, by omega, by rw [bitsOf_len, if_pos hp2], HL10a⟩
      · skip
        go_wp2_with fail
        go_meet
        case rel => exact ⟨bl9, [], k1 + 2, rfl, num_eq (by omega), by omega, hE9, by omega, by rw [if_neg hp2]; rfl, (List.append_nil _).symm⟩
    case rest =>
      clear hE9
      obtain ⟨bl10, x3', k3, rfl, rfl, hk3, hE10, hl10, lx3, HL10⟩ := hcut
      go_wp2_with fail
      refine (putE cs 3 34 hE10 (by omega) (by omega) (by first | omega | simp) (by omega)).mono ?_
      rintro e w12 ⟨bl11, HL11, rfl, hE11, hl11⟩
      clear hE10
      obtain ⟨sb, HSB⟩ : ∃ sb : Bool, Hid (decide (P % 2 = 1) = sb) := ⟨_, rfl⟩
      go_upto_region 30 with fail
      go_cut [16] from 128 to 133 (fun v w' => v = .bool sb ∧ w12 = w')
      case first =>
        have hPs : P = 0 ∨ P = 1 ∨ P = 2 ∨ P = 3 := by omega
        clear hand hdiv
        rcases hPs with rfl | rfl | rfl | rfl
        all_goals
          obtain rfl := HSB.out
          go_wp2_with fail
          go_meet
          case rel => exact ⟨rfl, rfl⟩
      case rest =>
        obtain ⟨rfl, rfl⟩ := hcut
        go_upto_if 135 with fail
        go_cut [14, 15] from 134 to 176 (fun v14 v15 w' => Join w1 w' bl11 (free4 P cs) 8 41 v14 v15)
        case first =>
          by_cases h7s : cs = 7
          · have hne : ((cs : Int) != 7) = false := by simp; omega
            cases sb
            · have lx : free4 P cs = 0 := by unfold free4; rw [if_pos h7s]; have := of_decide_eq_false HSB.out; omega
              clear h7s
              go_wp2_with fail
              go_meet
              case rel => exact ⟨bl11, [], k3, rfl, rfl, by omega, hE11, by omega, by rw [lx]; rfl, (List.append_nil _).symm⟩
            · have lx : free4 P cs = 1 := by unfold free4; rw [if_pos h7s]; exact of_decide_eq_true HSB.out
              clear h7s
              go_wp2_with fail
              refine (fillI f _ _ hf (by omega) (by omega)).mono ?_
              rintro e w' ⟨⟨z4, hz4, rfl⟩, rfl⟩
              go_wp2_with fail
              refine (putE z4 1 37 hE11 (by omega) (by omega) (by first | omega | simp) (by omega)).mono ?_
              rintro e w13 ⟨bl12a, HL12a, rfl, hE12a, hl12a⟩
              clear hE11
              go_wp2_with fail
              go_meet
              case rel => exact ⟨bl12a, bitsOf z4 1, k3 + 1, rfl, num_eq (by omega), by omega, hE12a, by omega, by rw [lx, bitsOf_len], HL12a⟩
          · have hne : ((cs : Int) != 7) = true := by simp; omega
            cases sb
            · have lx : free4 P cs = 1 := by unfold free4; rw [if_neg h7s]; have := of_decide_eq_false HSB.out; omega
              clear h7s
              go_wp2_with fail
              refine (fillI f _ _ hf (by omega) (by omega)).mono ?_
              rintro e w' ⟨⟨z5, hz5, rfl⟩, rfl⟩
              go_wp2_with fail
              refine (putE z5 1 37 hE11 (by omega) (by omega) (by first | omega | simp) (by omega)).mono ?_
              rintro e w14 ⟨bl12b, HL12b, rfl, hE12b, hl12b⟩
              clear hE11
              go_wp2_with fail
              go_meet
              case rel => exact ⟨bl12b, bitsOf z5 1, k3 + 1, rfl, num_eq (by omega), by omega, hE12b, by omega, by rw [lx, bitsOf_len], HL12b⟩
            · have lx : free4 P cs = 4 := by unfold free4; rw [if_neg h7s]; have := of_decide_eq_true HSB.out; omega
              clear h7s
              go_wp2_with fail
              refine (fillI f _ _ hf (by omega) (by omega)).mono ?_
              rintro e w' ⟨⟨z6, hz6, rfl⟩, rfl⟩
              go_wp2_with fail
              refine (putE z6 1 37 hE11 (by omega) (by omega) (by first | omega | simp) (by omega)).mono ?_
              rintro e w15 ⟨bl12c, HL12c, rfl, hE12c, hl12c⟩
              clear hE11
              go_wp2_with fail
              refine (fillI f _ _ hf (by omega) (by omega)).mono ?_
              rintro e w' ⟨⟨z7, hz7, rfl⟩, rfl⟩
              go_wp2_with fail
              refine (putE z7 1 38 hE12c (by omega) (by omega) (by first | omega | simp) (by omega)).mono ?_
              rintro e w16 ⟨bl12d, HL12d, rfl, hE12d, hl12d⟩
              clear hE12c
              go_wp2_with fail
              refine (fillI f _ _ hf (by omega) (by omega)).mono ?_
              rintro e w' ⟨⟨z8, hz8, rfl⟩, rfl⟩
              go_wp2_with fail
              refine (putE z8 1 39 hE12d (by omega) (by omega) (by first | omega | simp) (by omega)).mono ?_
              rintro e w17 ⟨bl12e, HL12e, rfl, hE12e, hl12e⟩
              clear hE12d
              go_wp2_with fail
              refine (fillI f _ _ hf (by omega) (by omega)).mono ?_
              rintro e w' ⟨⟨z9, hz9, rfl⟩, rfl⟩
              go_wp2_with fail
              refine (putE z9 1 40 hE12e (by omega) (by omega) (by first | omega | simp) (by omega)).mono ?_
              rintro e w18 ⟨bl12f, HL12f, rfl, hE12f, hl12f⟩
              clear hE12e
              go_wp2_with fail
              go_meet
              case rel => exact ⟨bl12f, bitsOf z6 1 ++ (bitsOf z7 1 ++ (bitsOf z8 1 ++ bitsOf z9 1)), k3 + 4, rfl, num_eq (by omega), by omega, hE12f, by omega, by rw [lx]; simp [bitsOf_len], by show bl12f = _; rw [HL12f.out, HL12e.out, HL12d.out, HL12c.out]; simp only [List.append_assoc]⟩
        case rest =>
          clear hE11
          obtain ⟨bl12, x4', k4, rfl, rfl, hk4, hE12, hl12, lx4, HL12⟩ := hcut
          have hXW : X - 1 = (W : Int) := by have := HX.out; omega
          have hYH : Y - 1 = (H : Int) := by have := HY.out; omega
          go_wp2_with fail
          refine (putE W 16 41 hE12 (by omega) (by omega) (by first | omega | simp) (by omega)).mono ?_
          rintro e w19 ⟨bl13, HL13, rfl, hE13, hl13⟩
          clear hE12
          go_wp2_with fail
          refine (putE H 16 57 hE13 (by omega) (by omega) (by first | omega | simp) (by omega)).mono ?_
          rintro e w20 ⟨bl14, HL14, rfl, hE14, hl14⟩
          clear hE13
          clear hXW hYH
          have HHead : Hid (Head P cs W H bl14) := by
            refine ⟨x1', bitsOf za 1, bitsOf zb 1, x3', x4', lx1, bitsOf_len _ _, bitsOf_len _ _, lx3, lx4, ?_⟩
            rw [HL14.out, HL13.out, HL12.out, HL11.out, HL10.out, HL9.out, HL8.out, HL7.out, HL6.out, HL5.out, HL4.out, HL3.out, HL2.out, HL1.out, HB0.out, HB1.out]
            simp only [List.nil_append, List.append_assoc, List.append_nil]
          clear HL14 HL13 HL12 HL11 HL10 HL9 HL8 HL7 HL6 HL5 HL4 HL3 HL2 HL1 HB0 HB1 lx1 lx3 lx4 hl13 hl12 hl11 hl10 hl9 hl8 hl7 hl6 hl5 hl4 hl3 hl2 hl1
          obtain ⟨nb, HNB⟩ : ∃ nb, Hid ((bl14.length + 7) / 8 = nb) := ⟨_, rfl⟩
          have hnbl : nb ≤ 12 := by have := HNB.out; omega
          have hnb : ((bl14.length : Int) + 7) / 8 = (nb : Int) := by have := HNB.out; omega
          have hmk2 : ∀ w, (Instr.makeSlice 23 (.int .i64 ((nb : Int) + (n : Int))) (.int .i64 ((nb : Int) + (n : Int)))).run Try.prog w = .ok (.slice (some ⟨w.heap.size, 0, none⟩) (nb + n) (nb + n)) (w.alloc (.cells (madeCells #[.int .u8 0] (nb + n)) 5)) := fun w => by
            have := run_make_row' (P := Try.prog) 23 5 (.int .u8 0) 1 Try.underlying23 info5 rfl .i64 .i64 (nb + n) (by omega) (by omega) w
            rwa [Int.natCast_add] at this
          have h16 := h'.mono hE14.bel
          have hbz : w1.heap.size < w20.heap.size := by have := hE14.size; omega
          have HE : Hid (En w1 w20 bl14) := hE14
          clear hE14 h'
          go_wp2_with fail
          go_loopw [19] (fun iv wr => ∃ (k : Nat) (fr : Nat → Nat), k ≤ bl14.length ∧ iv = .int .i64 (k : Nat) ∧ wr.rowIs w20.heap.size 5 (nb + n) (fun q => .int .u8 (fr q)) ∧ Packed (fun i => bl14.getD i 0) k fr ∧ Below w20.heap.size w20 wr) (fun iv _ => bl14.length - (intOf iv).toNat)
          case atStart => exact ⟨0, fun _ => 0, by omega, rfl, (World.rowIs_made w20 _ (nb + n) 5), packed_zero _, (Below.refl _ _).alloc (Nat.le_refl _) _⟩
          case round =>
            obtain ⟨k, fr, hk, rfl, hrow, hpk, hbel⟩ := hrel
            by_cases hlt : k < bl14.length
            · have hk8 : k / 8 < nb + n := by have := HNB.out; omega
              have hbuf : wr.cell? ⟨w1.heap.size, k, none⟩ = some (.int .u8 ((bl14.getD k 0 : Nat) : Int)) := by
                rw [hbel.cell (p := ⟨w1.heap.size, k, none⟩) hbz]; exact World.rowIs.cell HE.out.buf (show k < 96 by omega)
              have hz2 : bl14.getD k 0 < 2 := by
                rw [List.getD_eq_getElem?_getD, List.getElem?_eq_getElem hlt]; exact HE.out.two _ (List.getElem_mem hlt)
              have hfc := hrow.cell hk8
              have hff := hrow.frozen (k / 8)
              have HPK : Hid (Packed (fun i => bl14.getD i 0) k fr) := hpk
              clear hpk
              obtain ⟨z, HZ⟩ : ∃ z, Hid (bl14.getD k 0 = z) := ⟨_, rfl⟩
              rw [HZ.out] at hbuf hz2
              have hzz : z = 0 ∨ z = 1 := by omega
              rcases hzz with rfl | rfl
              · clear hfc hff
                go_wp2_with fail
                go_roundw
                case rel => exact ⟨k + 1, fr, by omega, by go_num, hrow, packed_skip HPK.out (by show bl14.getD k 0 ≠ 1; rw [HZ.out]; decide), hbel⟩
                case measure => simp [intOf]; omega
              · have HV : Hid (bits .or .u8 ((fr (k / 8) : Nat) : Int) (128 / 2 ^ (k % 8)) = ((fr (k / 8) ||| 2 ^ (7 - k % 8) : Nat) : Int)) := or_val _ _ (HPK.out.1 _) (by omega)
                go_wp2_with fail
                go_roundw
                case rel => exact ⟨k + 1, laid k fr, by omega, by go_num, row_laid hrow HV.out, packed_set HPK.out HZ.out, hbel.setCell (Nat.le_refl _) _⟩
                case measure => simp [intOf]; omega
            · have hkN : k = bl14.length := by omega
              subst hkN
              have HPK : Hid (Packed (fun i => bl14.getD i 0) bl14.length fr) := hpk
              clear hpk hk hlt
              go_wp2_with fail
              go_loopw [20] (fun iv wr => ∃ (k : Nat) (g : Nat → Nat), k ≤ n ∧ iv = .int .i64 (k : Nat) ∧ wr.rowIs w20.heap.size 5 (nb + n) (fun q => .int .u8 (g q)) ∧ (∀ q, g q < 256) ∧ (∀ q, q < nb → g q = fr q) ∧ Below w20.heap.size w20 wr) (fun iv _ => n - (intOf iv).toNat)
              case atStart => exact ⟨0, fr, by omega, rfl, hrow, HPK.out.1, fun _ _ => rfl, hbel⟩
              case round =>
                clear hrow hbel
                obtain ⟨k, g, hk, rfl, hrow, hg1, hg2, hbel⟩ := hrel
                have HG : Hid ((∀ q, g q < 256) ∧ (∀ q, q < nb → g q = fr q)) := ⟨hg1, hg2⟩
                clear hg1 hg2
                by_cases hlt : k < n
                · rcases h16 with h0 | ⟨b, off, rfl, hb, hc⟩
                  · omega
                  have htc : wr.cell? ⟨b, off + k, none⟩ = some (.int .u8 (D k)) := by rw [hbel.cell (p := ⟨b, off + k, none⟩) hb]; exact hc k hlt
                  have hfc := hrow.cell (show nb + k < nb + n by omega)
                  have hff := hrow.frozen (nb + k)
                  have hDk := hD k
                  clear hc
                  go_wp2_with fail
                  go_roundw
                  case rel =>
                    refine ⟨k + 1, tailed (nb + k) (D k) g, by omega, by go_num, row_tailed hrow, fun q => ?_, fun q hq => ?_, hbel.setCell (Nat.le_refl _) _⟩
                    · unfold tailed; split; exact hDk; exact HG.out.1 q
                    · unfold tailed; rw [if_neg (by omega)]; exact HG.out.2 q hq
                  case measure => simp [intOf]; omega
                · have hs : Suf g (8 * (nb + n)) 0 bl14 := suf_of_packed HE.out.two HPK.out HG.out.2 (by have := HNB.out; omega)
                  have hBy : Bytes wr (some ⟨w20.heap.size, 0, none⟩) (nb + n) g := .inr ⟨w20.heap.size, 0, rfl, hrow.lt, fun i hi => by rw [Nat.zero_add]; exact hrow.cell hi⟩
                  have HS : Hid (Suf g (8 * (nb + n)) 0 bl14) := hs
                  have hrl := hrow.lt
                  clear hs hmk hmk2 hand hdiv hD
                  go_wp2_with fail
                  refine (zz15 _ (nb + n) _ g P cs W H bl14 _ (by omega) HG.out.1 hP hcs hW hH hBy (fun x hx => by cases hx; exact hrl) HS.out HHead.out).mono ?_
                  rintro e wz ⟨rfl, hbz2⟩
                  have hfin : Below w.heap.size w wz := by
                    have q1 : Below w1.heap.size w1 wr := HE.out.bel.trans (hbel.mono (by omega))
                    have q2 : Below w.heap.size w wr := hb1.trans (q1.mono hb1.size)
                    exact q2.trans (hbz2.mono q2.size)
                  have hXX : ((W : Int) + 1 == X) = true := by have := HX.out; simp; omega
                  have hYY : ((H : Int) + 1 == Y) = true := by have := HY.out; simp; omega
                  go_wp2_with fail
                  go_ret
                  exact ⟨rfl, hfin⟩

set_option maxHeartbeats 4000000 in
set_option maxRecDepth 100000 in
/-- a guard says no: true at once -/
theorem out3 (p cs X Y : Int) (f : Int) (a : Option Addr) (n c : Nat) (w : World) (hn : n ≤ maxLen) (h : 65536 < n ∨ p < 0 ∨ 3 < p ∨ cs < 0 ∨ 7 < cs ∨ X < 1 ∨ 65536 < X ∨ Y < 1 ∨ 65536 < Y) :
    Calls Try.prog 3 #[.int .i64 p, .int .i64 cs, .int .i64 X, .int .i64 Y, .int .u32 f, .slice a n c] w fun e w' => e = .returned (.bool true) ∧ Below w.heap.size w w' := by
  go_enter Try.func3, Try.ntmps3
  go_wp2_with fail
  refine (bytes11 a n c _ _ _ _ _ _ hn).mono ?_
  rintro e w' ⟨⟨b, rfl⟩, rfl⟩
  cases b
  · go_wp2
    go_ret
    exact ⟨rfl, Below.refl _ _⟩
  unfold maxLen at hn
  by_cases c0 : 65536 < n
  · clear h
    go_wp2
    go_ret
    exact ⟨rfl, Below.refl _ _⟩
  by_cases c1 : p < 0
  · clear h
    go_wp2
    go_ret
    exact ⟨rfl, Below.refl _ _⟩
  by_cases c2 : 3 < p
  · clear h
    go_wp2
    go_ret
    exact ⟨rfl, Below.refl _ _⟩
  by_cases c3 : cs < 0
  · clear h
    go_wp2
    go_ret
    exact ⟨rfl, Below.refl _ _⟩
  by_cases c4 : 7 < cs
  · clear h
    go_wp2
    go_ret
    exact ⟨rfl, Below.refl _ _⟩
  by_cases c5 : X < 1
  · clear h
    go_wp2
    go_ret
    exact ⟨rfl, Below.refl _ _⟩
  by_cases c6 : 65536 < X
  · clear h
    go_wp2
    go_ret
    exact ⟨rfl, Below.refl _ _⟩
  by_cases c7 : Y < 1
  · clear h
    go_wp2
    go_ret
    exact ⟨rfl, Below.refl _ _⟩
  by_cases c8 : 65536 < Y
  · clear h
    go_wp2
    go_ret
    exact ⟨rfl, Below.refl _ _⟩
  omega

/-- FnVP9KeyframeSizeRoundTrip at every input -/
theorem law3_all (p cs X Y f : Int) (a : Option Addr) (n c : Nat) (D : Nat → Nat) (w : World) (hn : n ≤ maxLen) (hD : ∀ i, D i < 256) (h : Bytes w a n D) (hf : 0 ≤ f ∧ f < 4294967296) :
    Calls Try.prog 3 #[.int .i64 p, .int .i64 cs, .int .i64 X, .int .i64 Y, .int .u32 f, .slice a n c] w fun e w' => e = .returned (.bool true) ∧ Below w.heap.size w w' := by
  by_cases ho : 65536 < n ∨ p < 0 ∨ 3 < p ∨ cs < 0 ∨ 7 < cs ∨ X < 1 ∨ 65536 < X ∨ Y < 1 ∨ 65536 < Y
  · exact out3 p cs X Y f a n c w hn ho
  · obtain ⟨P, rfl⟩ := Int.eq_ofNat_of_zero_le (show 0 ≤ p by omega)
    obtain ⟨C, rfl⟩ := Int.eq_ofNat_of_zero_le (show 0 ≤ cs by omega)
    obtain ⟨F, rfl⟩ := Int.eq_ofNat_of_zero_le hf.1
    exact law3 P C (X - 1).toNat (Y - 1).toNat F X Y a n c D w (by omega) hD h (by omega) (by omega) (by omega) (by omega) (by omega) (by omega) (by omega)
end Go.Proofs.Qxb6001091a.Bits
