/- vp9KeyframeSize: a keyframe's header, as bits, gives its size. -/
import Derived.Test.Qxb6001091aVpB
namespace Go.Proofs.Qxb6001091a.Bits
open Go.RowKit

theorem split_list (x : List Nat) (k m : Nat) (h : x.length = k + m) : ∃ y z, x = y ++ z ∧ y.length = k ∧ z.length = m :=
  ⟨x.take k, x.drop k, (List.take_append_drop k x).symm, by rw [List.length_take]; omega, by rw [List.length_drop]; omega⟩

theorem rd_new0 (w : World) (a : Option Addr) (n c : Nat) : Rd (w.alloc (.cells #[.slice a n c, .int .i64 0, .bool false] 58)) w.heap.size a n c 0 false := by
  refine World.rowIs_alloc w #[.slice a n c, .int .i64 0, .bool false] 58 (rdCells a n c 0 false) (fun i hi => ?_)
  have hi' : i < 3 := hi
  match i, hi' with
  | 0, _ => rfl
  | 1, _ => rfl
  | 2, _ => rfl

/-- how many free bits stand behind the color space -/
def free4 (P cs : Nat) : Nat := if cs = 7 then P % 2 else 1 + 3 * (P % 2)
/-- a keyframe's header as bits, numbers and free bits in turn -/
def Head (P cs W H : Nat) (bs : List Nat) : Prop :=
  ∃ x1 xa xb x3 x4 : List Nat, x1.length = (if P = 3 then 1 else 0) ∧ xa.length = 1 ∧ xb.length = 1 ∧ x3.length = (if 2 ≤ P then 1 else 0) ∧ x4.length = free4 P cs ∧
    bs = bitsOf 2 2 ++ (bitsOf (P % 2) 1 ++ (bitsOf (P / 2) 1 ++ (x1 ++ (bitsOf 0 1 ++ (bitsOf 0 1 ++ (xa ++ (xb ++ (bitsOf 4817730 24 ++ (x3 ++ (bitsOf cs 3 ++ (x4 ++ (bitsOf W 16 ++ (bitsOf H 16 ++ [])))))))))))))

set_option maxHeartbeats 1000000 in
/-- vp9KeyframeSize: a keyframe's header gives its size -/
theorem size35 (a : Option Addr) (n c : Nat) (D : Nat → Nat) (P cs W H : Nat) (bs : List Nat) (w : World) (hn : n ≤ 16777216) (hD : ∀ i, D i < 256) (hP : P ≤ 3) (hcs : cs ≤ 7) (hW : W < 65536) (hH : H < 65536)
    (hB : Bytes w a n D) (hab : ∀ x, a = some x → x.block < w.heap.size) (hs : Suf D (8 * n) 0 bs) (hbs : Head P cs W H bs) :
    Calls Try.prog 35 #[.slice a n c] w fun e w' => e = .returned (.tuple #[.int .i64 ((W : Int) + 1), .int .i64 ((H : Int) + 1), .bool true]) ∧ Below w.heap.size w w' := by
  obtain ⟨x1, xa, xb, x3, x4, l1, la, lb, l3, l4, rfl⟩ := hbs
  have F : Fix w.heap.size w.heap.size n a D := ⟨hn, hD, Nat.le_refl _, hab⟩
  have h0 : Vr w.heap.size w (w.alloc (.cells #[.slice a n c, .int .i64 0, .bool false] 58)) w.heap.size a n c D _ :=
    ⟨0, rd_new0 w a n c, hB.mono ((Below.refl _ _).alloc (Nat.le_refl _) _), (Below.refl _ _).alloc (Nat.le_refl _) _, hs⟩
  clear hB hab hs hD
  go_enter Try.func35, Try.ntmps35
  go_wp2_with fail
  refine (prof38 F hP l1 h0).mono ?_
  rintro e w1 ⟨rfl, h1⟩
  clear h0 l1
  go_wp2_with fail
  refine (readV (v := 0) (k := 1) F (by omega) (by omega) h1).mono ?_
  rintro e w2 ⟨rfl, h2⟩
  clear h1
  go_wp2_with fail
  refine (readV (v := 0) (k := 1) F (by omega) (by omega) h2).mono ?_
  rintro e w3 ⟨rfl, h3⟩
  clear h2
  go_wp2_with fail
  refine (readS (k := 1) F (by omega) la h3).mono ?_
  rintro e w4 ⟨⟨z4, rfl⟩, h4⟩
  clear h3 la
  go_wp2_with fail
  refine (readS (k := 1) F (by omega) lb h4).mono ?_
  rintro e w5 ⟨⟨z5, rfl⟩, h5⟩
  clear h4 lb
  go_wp2_with fail
  refine (readV (v := 4817730) (k := 24) F (by omega) (by omega) h5).mono ?_
  rintro e w6 ⟨rfl, h6⟩
  clear h5
  go_upto_if 25 with fail
  go_cut [] from 25 to 26 (fun w' => Vr w.heap.size w w' w.heap.size a n c D (bitsOf cs 3 ++ (x4 ++ (bitsOf W 16 ++ (bitsOf H 16 ++ [])))))
  case first =>
    by_cases hp2 : 2 ≤ P
    · rw [if_pos hp2] at l3
      go_wp2_with fail
      refine (readS (k := 1) F (by omega) l3 h6).mono ?_
      rintro e w7 ⟨⟨z7, rfl⟩, h7⟩
      go_wp2_with fail
      go_meet
      case rel => exact h7
    · rw [if_neg hp2] at l3
      have hx0 : x3 = [] := List.length_eq_zero_iff.1 l3
      subst hx0
      go_wp2_with fail
      go_meet
      case rel => exact h6
  case rest =>
    clear h6 l3
    have h6 := hcut
    clear hcut
    obtain ⟨sb, HSB⟩ : ∃ sb : Bool, Hid (decide (P % 2 = 1) = sb) := ⟨_, rfl⟩
    go_upto_region 15 with fail
    go_cut [7] from 27 to 32 (fun v w' => v = .bool sb ∧ wc = w')
    case first =>
      have hPs : P = 0 ∨ P = 1 ∨ P = 2 ∨ P = 3 := by omega
      rcases hPs with rfl | rfl | rfl | rfl
      all_goals
        obtain rfl := HSB.out
        go_wp2_with fail
        go_meet
        case rel => exact ⟨rfl, rfl⟩
    case rest =>
      obtain ⟨rfl, rfl⟩ := hcut
      go_wp2_with fail
      refine (readV (v := cs) (k := 3) F (by omega) (by omega) h6).mono ?_
      rintro e w7 ⟨rfl, h7⟩
      clear h6
      go_upto_if 34 with fail
      go_cut [] from 33 to 40 (fun w' => Vr w.heap.size w w' w.heap.size a n c D (bitsOf W 16 ++ (bitsOf H 16 ++ [])))
      case first =>
        have HCS : Hid (((cs : Int) != 7) = !decide (cs = 7)) := by
          show ((cs : Int) != 7) = !decide (cs = 7)
          by_cases e : cs = 7
          · subst e; rfl
          · rw [decide_eq_false e]; simp; omega
        by_cases h7s : cs = 7
        · have hne : ((cs : Int) != 7) = false := by rw [HCS.out, decide_eq_true h7s]; rfl
          cases sb
          · have lx : x4.length = 0 := by rw [l4]; unfold free4; rw [if_pos h7s]; have := of_decide_eq_false HSB.out; omega
            have hx0 : x4 = [] := List.length_eq_zero_iff.1 lx
            subst hx0
            clear l4 h7s lx
            go_wp2_with fail
            go_meet
            case rel => exact h7
          · have lx : x4.length = 1 := by rw [l4]; unfold free4; rw [if_pos h7s]; exact of_decide_eq_true HSB.out
            clear l4 h7s
            go_wp2_with fail
            refine (readS (k := 1) F (by omega) lx h7).mono ?_
            rintro e w8 ⟨⟨z8, rfl⟩, h8⟩
            go_wp2_with fail
            go_meet
            case rel => exact h8
        · have hne : ((cs : Int) != 7) = true := by rw [HCS.out, decide_eq_false h7s]; rfl
          cases sb
          · have lx : x4.length = 1 := by rw [l4]; unfold free4; rw [if_neg h7s]; have := of_decide_eq_false HSB.out; omega
            clear l4 h7s
            go_wp2_with fail
            refine (readS (k := 1) F (by omega) lx h7).mono ?_
            rintro e w8 ⟨⟨z8, rfl⟩, h8⟩
            go_wp2_with fail
            go_meet
            case rel => exact h8
          · have lx : x4.length = 1 + 3 := by rw [l4]; unfold free4; rw [if_neg h7s]; have := of_decide_eq_true HSB.out; omega
            obtain ⟨y1, y2, rfl, m1, m2⟩ := split_list x4 1 3 lx
            obtain ⟨y3, y4, rfl, m3, m4⟩ := split_list y2 2 1 m2
            rw [List.append_assoc, List.append_assoc] at h7
            clear l4 h7s lx m2
            go_wp2_with fail
            refine (readS (k := 1) F (by omega) m1 h7).mono ?_
            rintro e w8 ⟨⟨z8, rfl⟩, h8⟩
            go_wp2_with fail
            refine (readS (k := 2) F (by omega) m3 h8).mono ?_
            rintro e w9 ⟨⟨z9, rfl⟩, h9⟩
            go_wp2_with fail
            refine (readS (k := 1) F (by omega) m4 h9).mono ?_
            rintro e w10 ⟨⟨z10, rfl⟩, h10⟩
            go_wp2_with fail
            go_meet
            case rel => exact h10
      case rest =>
        clear h7
        have h8 := hcut
        clear hcut
        go_wp2_with fail
        refine (readV (v := W) (k := 16) F (by omega) (by omega) h8).mono ?_
        rintro e w9 ⟨rfl, h9⟩
        go_wp2_with fail
        refine (readV (v := H) (k := 16) F (by omega) (by omega) h9).mono ?_
        rintro e w10 ⟨rfl, p, hR, _, hbel, _⟩
        have c2 : w10.cell? ⟨w.heap.size, 2, none⟩ = some (.bool false) := hR.cell (i := 2) (by omega)
        clear h8 h9
        go_wp2_with fail
        go_ret3
        exact ⟨rfl, hbel⟩

set_option maxHeartbeats 1000000 in
/-- ZZVP9KeyframeSize -/
theorem zz15 (a : Option Addr) (n c : Nat) (D : Nat → Nat) (P cs W H : Nat) (bs : List Nat) (w : World) (hn : n ≤ 16777216) (hD : ∀ i, D i < 256) (hP : P ≤ 3) (hcs : cs ≤ 7) (hW : W < 65536) (hH : H < 65536)
    (hB : Bytes w a n D) (hab : ∀ x, a = some x → x.block < w.heap.size) (hs : Suf D (8 * n) 0 bs) (hbs : Head P cs W H bs) :
    Calls Try.prog 15 #[.slice a n c] w fun e w' => e = .returned (.tuple #[.int .i64 ((W : Int) + 1), .int .i64 ((H : Int) + 1), .bool true]) ∧ Below w.heap.size w w' := by
  have hc := size35 a n c D P cs W H bs w hn hD hP hcs hW hH hB hab hs hbs
  have HC : Hid (Calls Try.prog 35 #[.slice a n c] w fun e w' => e = .returned (.tuple #[.int .i64 ((W : Int) + 1), .int .i64 ((H : Int) + 1), .bool true]) ∧ Below w.heap.size w w') := hc
  clear hc hB hab hs hbs hD
  go_enter Try.func15, Try.ntmps15
  go_wp2_with fail
  refine HC.out.mono ?_
  rintro e w1 ⟨rfl, h1⟩
  go_wp2_with fail
  go_ret3
  exact ⟨rfl, h1⟩
end Go.Proofs.Qxb6001091a.Bits
