/- 'excerpts': what it leaves: the runs of the plain law, in a row of its own. -/
import Derived.Test.Qxb6602367aExcA
import Derived.Test.Qxb6602367aExcPlain
namespace Go.Proofs.Qxb6602367a.Exc
open Go.RowKit

def startMark : ByteArray := { data := #[60, 60, 60, 60, 60, 60, 60] }
def endMark : ByteArray := { data := #[62, 62, 62, 62, 62, 62, 62] }
def SS (L : Nat → ByteArray) (k : Nat) : Bool := hp (L k) { data := #[60, 60, 60, 60, 60, 60, 60] }
def EE (L : Nat → ByteArray) (k : Nat) : Bool := hp (L k) { data := #[62, 62, 62, 62, 62, 62, 62] }

theorem info46 : (Try.prog.info? 46).map (fun i => (i.zero, i.size, i.bytes)) = some (some (.agg #[.int .i64 0, .int .i64 0]), 2, 16) := by kernel_rfl

/-- the cells of the runs, newest first -/
def cells (rr : List (Nat × Nat)) : List Value := rr.reverse.flatMap (fun r => [.int .i64 r.1, .int .i64 r.2])
theorem cells_cons (r : Nat × Nat) (rr : List (Nat × Nat)) : cells (r :: rr) = cells rr ++ [.int .i64 r.1, .int .i64 r.2] := by simp [cells]
theorem cells_len (rr : List (Nat × Nat)) : (cells rr).length = rr.length * 2 := by
  induction rr with
  | nil => rfl
  | cons r t ih => rw [cells_cons, List.length_append, ih]; simp; omega

/-- the new run has been laid in a block of its own -/
def Laid (w wr w' : World) (v : Value) (rr : List (Nat × Nat)) (x y : Nat) : Prop :=
  w'.heap.size = wr.heap.size + 1 ∧ w'.cell? ⟨wr.heap.size, 0, none⟩ = some (.int .i64 x) ∧ w'.cell? ⟨wr.heap.size, 1, none⟩ = some (.int .i64 y) ∧
    w'.ownsRow w.heap.size 46 2 v rr.length (cells rr) ∧ Below w.heap.size w w'
theorem laid_mk {w wr : World} {v : Value} {rr : List (Nat × Nat)} {x y : Nat} {X Y : Int} (hown : wr.ownsRow w.heap.size 46 2 v rr.length (cells rr)) (hbel : Below w.heap.size w wr) (hx : X = x) (hy : Y = y) :
    Laid w wr (wr.alloc (.cells #[.int .i64 X, .int .i64 Y] 46)) v rr x y := by
  subst hx hy
  exact ⟨by simp, by simp [go_sem], by simp [go_sem], hown.alloc _, hbel.alloc hbel.size _⟩
theorem shape0 {w : World} {B : Nat} {v : Value} {xs : List Value} (h : w.ownsRow B 46 2 v 0 xs) : ∃ vo cap, v = .slice vo 0 cap := by
  rcases h.2 with ⟨h, _⟩ | ⟨g, cap, cur, h, _⟩
  · exact ⟨none, 0, h⟩
  · exact ⟨_, cap, h⟩
theorem shape1 {w : World} {B m : Nat} {v : Value} {xs : List Value} (h : w.ownsRow B 46 2 v (m + 1) xs) : ∃ g cap, v = .slice (some ⟨g, 0, none⟩) (m + 1) cap := by
  rcases h.2 with ⟨_, h⟩ | ⟨g, cap, cur, h, _⟩
  · omega
  · exact ⟨g, cap, h⟩

theorem runsR_len (n : Nat) (R : List (Nat × Nat)) : ∀ rr : List (Nat × Nat), (R.foldl (addR n) rr).length ≤ R.length + rr.length := by
  induction R with
  | nil => intro rr; simp
  | cons r t ih =>
    intro rr
    have := ih (addR n rr r)
    have h2 : (addR n rr r).length ≤ rr.length + 1 := by
      match rr with
      | [] => simp [addR]
      | (f, l) :: t' => simp only [addR]; split <;> simp
    simp only [List.foldl_cons, List.length_cons]
    omega
theorem scan_len (n : Nat) (S E : Nat → Bool) : ∀ k, (scan n S E k).2.length ≤ k
  | 0 => by simp [scan]
  | k + 1 => by
    have := scan_len n S E k
    rw [scan_succ, step]
    split
    · split
      · simp; omega
      · simp only; omega
    · simp only; omega
theorem runsR_le (n : Nat) (S E : Nat → Bool) (k : Nat) (hk : k ≤ n) : (runsR n (scan n S E k).2).length ≤ n := by
  have h1 := runsR_len n (scan n S E k).2 []
  have h2 := scan_len n S E k
  unfold runsR
  simp only [List.length_nil] at h1
  omega
theorem two_new (w : World) (x y : Value) : ∀ j u, [x, y][j]? = some u → (w.alloc (.cells #[x, y] 46)).cell? ((⟨w.heap.size, 0, none⟩ : Addr).add j) = some u := by
  intro j u hj
  match j, hj with
  | 0, hj => simp at hj; subst hj; simp [Addr.add, go_sem]
  | 1, hj => simp at hj; subst hj; simp [Addr.add, go_sem]
theorem two_one (x y : Int) : ∀ u ∈ [Value.int .i64 x, Value.int .i64 y], u.oneCell' = true := by
  intro u hu
  simp at hu
  rcases hu with rfl | rfl <;> rfl
theorem rel_push {w wc w1 : World} {nq : Nat} {o : Obj} {v v' : Value} {rr : List (Nat × Nat)} (x y : Nat) (hb : Below w.heap.size w wc) (hown : wc.ownsRow w.heap.size 46 2 v rr.length (cells rr))
    (hg : ((wc.drewN nq).alloc o).grownBy w1 v.ownBlock) (hown' : w1.ownsRow w.heap.size 46 2 v' (rr.length + 1) (cells rr ++ [.int .i64 x, .int .i64 y])) :
    w1.ownsRow w.heap.size 46 2 v' ((x, y) :: rr).length (cells ((x, y) :: rr)) ∧ Below w.heap.size w w1 := by
  refine ⟨by rw [cells_cons]; exact hown', ?_⟩
  have h0 : Below w.heap.size w (wc.drewN nq) := ⟨hb.os, hb.tape, hb.output, hb.size, hb.block⟩
  have h1 : Below w.heap.size w ((wc.drewN nq).alloc o) := h0.alloc hb.size o
  exact h1.grown hg (by have := h1.size; omega) (fun k hk => (hown.lt k hk).1)

theorem last_cell {w : World} {B g cap f l : Nat} {t : List (Nat × Nat)} (h : w.ownsRow B 46 2 (.slice (some ⟨g, 0, none⟩) (t.length + 1) cap) ((f, l) :: t).length (cells ((f, l) :: t))) :
    w.cell? ⟨g, t.length * 2 + 1, none⟩ = some (.int .i64 l) := by
  rw [World.ownsRow.cellAt (n := t.length + 1) h (t.length * 2 + 1) (by omega), cells_cons, List.getElem?_append_right (by rw [cells_len]; omega), cells_len]
  simp

theorem rel_store {w wc : World} {nq g cap f l : Nat} {t : List (Nat × Nat)} (y : Nat) (hb : Below w.heap.size w wc)
    (h : wc.ownsRow w.heap.size 46 2 (.slice (some ⟨g, 0, none⟩) (t.length + 1) cap) ((f, l) :: t).length (cells ((f, l) :: t))) :
    ((wc.drewN nq).setCell ⟨g, t.length * 2 + 1, none⟩ (.int .i64 y)).ownsRow w.heap.size 46 2 (.slice (some ⟨g, 0, none⟩) (t.length + 1) cap) ((f, y) :: t).length (cells ((f, y) :: t)) ∧
      Below w.heap.size w ((wc.drewN nq).setCell ⟨g, t.length * 2 + 1, none⟩ (.int .i64 y)) := by
  have h' : (wc.drewN nq).ownsRow w.heap.size 46 2 (.slice (some ⟨g, 0, none⟩) (t.length + 1) cap) (t.length + 1) (cells ((f, l) :: t)) := h
  have hs := (h'.stored (t.length * 2 + 1) (.int .i64 y)).1
  have e : (cells ((f, l) :: t)).set (t.length * 2 + 1) (.int .i64 y) = cells ((f, y) :: t) := by
    rw [cells_cons, cells_cons, List.set_append_right _ _ (by rw [cells_len]; omega), cells_len]
    simp
  rw [e] at hs
  refine ⟨hs, ?_⟩
  have h0 : Below w.heap.size w (wc.drewN nq) := ⟨hb.os, hb.tape, hb.output, hb.size, hb.block⟩
  exact h0.setCell (h.lt g rfl).1 _

def more (n : Nat) (E : Nat → Bool) (j : Nat) : Bool := decide (j + 1 < n) && !E j
theorem more_yes {n : Nat} {E : Nat → Bool} {j : Nat} (h : more n E j = true) : j + 1 < n ∧ E j = false := by
  unfold more at h; simpa using h
theorem more_no {n : Nat} {E : Nat → Bool} {j : Nat} (hj : j < n) (h : more n E j = false) : E j = true ∨ j + 1 = n := by
  unfold more at h
  simp only [Bool.and_eq_false_iff, decide_eq_false_iff_not, Bool.not_eq_false'] at h
  rcases h with h | h
  · exact .inr (by omega)
  · exact .inl h

set_option maxHeartbeats 1000000 in
theorem exc18 (a : Option Addr) (n c : Nat) (L : Nat → ByteArray) (w : World) (hn : n ≤ 65536) (h : Strs w a n L) :
    Calls Try.prog 18 #[.slice a n c] w fun e w' => ∃ v, e = .returned v ∧ w'.ownsRow w.heap.size 46 2 v (runsR n (scan n (SS L) (EE L) n).2).length (cells (runsR n (scan n (SS L) (EE L) n).2)) ∧ Below w.heap.size w w' := by
  go_enter Try.func18, Try.ntmps18
  go_wp2
  go_loopw [3, 4] (fun v i wr => ∃ k : Nat, k ≤ n ∧ i = .int .i64 k ∧ (scan n (SS L) (EE L) k).1 = none ∧ wr.ownsRow w.heap.size 46 2 v (runsR n (scan n (SS L) (EE L) k).2).length (cells (runsR n (scan n (SS L) (EE L) k).2)) ∧ Below w.heap.size w wr) (fun _ i _ => n - (intOf i).toNat)
  case atStart => exact ⟨0, by omega, rfl, rfl, World.ownsRow_nil _ _ _ _, Below.refl _ _⟩
  case round =>
    obtain ⟨k, hk, rfl, ho, hown, hbel⟩ := hrel
    by_cases hlt : k < n
    · rcases id h with h0 | ⟨b, off, rfl, hb, hc⟩
      · omega
      have hI := inv_all n (SS L) (EE L) k hk
      have HI : Hid (Inv n (SS L) (EE L) k) := hI
      clear hI
      have hcell : wr.cell? ⟨b, off + k, none⟩ = some (.string (L k)) := by rw [hbel.cell (p := ⟨b, off + k, none⟩) hb]; exact hc k hlt
      clear h
      have HO : Hid ((scan n (SS L) (EE L) k).1 = none) := ho
      clear ho
      cases hS : SS L k
      · have hS' : hp (L k) { data := #[60, 60, 60, 60, 60, 60, 60] } = false := hS
        have HS : Hid (SS L k = false) := hS
        clear hS
        go_wp2_with fail
        refine (has21 (L k) _ _ (by decide)).mono ?_
        rintro e w' ⟨rfl, rfl⟩
        go_wp2
        go_roundw
        case rel =>
          have e1 := scan_none n (SS L) (EE L) k (by rw [HO.out]; simp [pre, HS.out])
          exact ⟨k + 1, by omega, by go_num, by rw [e1], by rw [e1]; exact hown, hbel⟩
        case measure => simp [intOf]; omega
      · have hS' : hp (L k) { data := #[60, 60, 60, 60, 60, 60, 60] } = true := hS
        have HS : Hid (SS L k = true) := hS
        clear hS
        go_wp2_with fail
        refine (has21 (L k) _ _ (by decide)).mono ?_
        rintro e w' ⟨rfl, rfl⟩
        go_wp2_with fail
        go_loop [4] (fun i => ∃ j : Nat, k ≤ j ∧ j < n ∧ i = .int .i64 j ∧ pre (SS L) (scan n (SS L) (EE L) j).1 j = some k ∧ (scan n (SS L) (EE L) j).2 = (scan n (SS L) (EE L) k).2) (fun i => n - (intOf i).toNat)
        case atStart => exact ⟨k, by omega, hlt, rfl, by rw [HO.out]; simp [pre, HS.out], rfl⟩
        case round =>
          obtain ⟨j, hkj, hjn, rfl, hp1, hp2⟩ := hrel
          have HP1 : Hid (pre (SS L) (scan n (SS L) (EE L) j).1 j = some k) := hp1
          have HP2 : Hid ((scan n (SS L) (EE L) j).2 = (scan n (SS L) (EE L) k).2) := hp2
          clear hp1 hp2
          have hcj : wr.cell? ⟨b, off + j, none⟩ = some (.string (L j)) := by rw [hbel.cell (p := ⟨b, off + j, none⟩) hb]; exact hc j hjn
          go_upto_region 7 with fail
          go_cut [33] from 21 to 33 (fun v w' => v = .bool (more n (EE L) j) ∧ wr = w')
          case first =>
            by_cases hj1 : j + 1 < n
            · go_wp2_with fail
              refine (has21 (L j) _ _ (by decide)).mono ?_
              rintro e w' ⟨rfl, rfl⟩
              go_wp2_with fail
              go_meet
              case rel => exact ⟨by unfold more; rw [decide_eq_true hj1]; rfl, rfl⟩
            · go_wp2_with fail
              go_meet
              case rel => exact ⟨by unfold more; rw [decide_eq_false hj1]; rfl, rfl⟩
          case rest =>
            obtain ⟨rfl, rfl⟩ := hcut
            cases hm : more n (EE L) j
            · have HC : Hid (EE L j = true ∨ j + 1 = n) := more_no hjn hm
              go_upto_region 9 with fail
              go_cut [6] from 36 to 45 (fun v w' => v = .pointer (some ⟨wr.heap.size, 0, none⟩) ∧ Laid w wr w' u3 (runsR n (scan n (SS L) (EE L) k).2) (k - 5) (hi n j))
              case first =>
                go_wp2_with fail
                all_goals
                  go_meet
                  case rel => exact ⟨rfl, laid_mk hown hbel (by omega) (by unfold hi; omega)⟩
              case rest =>
                obtain ⟨rfl, hL⟩ := hcut
                generalize hrr : runsR n (scan n (SS L) (EE L) k).2 = rr at hL hown
                have HR : Hid (runsR n (scan n (SS L) (EE L) k).2 = rr) := hrr
                clear hrr hown
                obtain ⟨hsz, hr0, hr1, hown, hbel2⟩ := hL
                clear hsz
                have hlen : rr.length ≤ n := by have := HR.out; rw [← this]; exact runsR_le n (SS L) (EE L) k hk
                have e1 := scan_close n (SS L) (EE L) j k HP1.out HC.out
                have e2 : runsR n (scan n (SS L) (EE L) (j + 1)).2 = addR n rr (k, j) := by rw [e1]; simp only; rw [runsR_snoc, HP2.out, HR.out]
                have e3 : (scan n (SS L) (EE L) (j + 1)).1 = none := by rw [e1]
                have HF : Hid ((scan n (SS L) (EE L) (j + 1)).1 = none ∧ runsR n (scan n (SS L) (EE L) (j + 1)).2 = addR n rr (k, j)) := ⟨e3, e2⟩
                clear e1 e2 e3
                match rr, hown with
                | [], hown =>
                  obtain ⟨vo, cap, rfl⟩ := shape0 hown
                  obtain ⟨i0, hi0, hz0, hz1, hz2⟩ := info_parts info46
                  go_wp2_with fail
                  go_quiet (fail)
                  go_wp2_with (at_builtin; refine wpList_append_own _ rfl _ _ 43 rfl w.heap.size 46 i0 (.agg #[.int .i64 0, .int .i64 0]) 2 16 Try.underlying43 hi0 hz0 hz1 hz2 rfl (by decide) _ _ _ rfl (hown.alloc _) ⟨wc.heap.size, 0, none⟩ 1 1 [.int .i64 ((k - 5 : Nat) : Int), .int .i64 ((hi n j : Nat) : Int)] rfl rfl ?c1 ?c2 ?c3 ?c4 ?c5 ?_)
                  case c1 => exact two_new _ _ _
                  case c2 => exact two_one _ _
                  case c3 => simp only [List.length_nil] at hlen ⊢; unfold maxLen; omega
                  case c4 => simp only [List.length_nil] at hlen ⊢; omega
                  case c5 => have := hbel2.size; simp; omega
                  · intro v' w1 hown' hgrow _
                    have R := rel_push (k - 5) (hi n j) hbel2 hown hgrow hown'
                    have HRR : Hid (w1.ownsRow w.heap.size 46 2 v' (addR n [] (k, j)).length (cells (addR n [] (k, j))) ∧ Below w.heap.size w w1) := by
                      rw [show addR n [] (k, j) = (k - 5, hi n j) :: [] from rfl]
                      exact R
                    clear R hown' hgrow hown hbel2
                    go_wp2_with fail
                    go_roundw
                    case rel => exact ⟨j + 1, by omega, by go_num, HF.out.1, by rw [HF.out.2]; exact HRR.out.1, HRR.out.2⟩
                    case measure => simp [intOf]; omega
                | (f, l) :: t, hown =>
                  obtain ⟨g, cap, rfl⟩ := shape1 hown
                  have hln : l < n := by have h1 := HR.out; exact sep_lt n (SS L) _ HI.out.sep (f, l) (by rw [h1]; simp)
                  have hlen' : t.length + 1 ≤ n := hlen
                  have hlast : wc.cell? ⟨g, t.length * 2 + 1, none⟩ = some (.int .i64 l) := last_cell hown
                  have hfro : wc.frozen? ⟨g, t.length * 2 + 1, none⟩ = false := hown.frozenAt _
                  by_cases hj : k - 5 ≤ l + 1
                  · go_wp2_with fail
                    go_quiet (fail)
                    go_wp2_with fail
                    have R := rel_store (nq := nq) (hi n j) hbel2 hown
                    go_roundw
                    case rel => exact ⟨j + 1, by omega, by go_num, HF.out.1, by rw [HF.out.2, show addR n ((f, l) :: t) (k, j) = (f, hi n j) :: t from by simp only [addR]; rw [if_pos hj]]; exact R.1, R.2⟩
                    case measure => simp [intOf]; omega
                  · skip
                    obtain ⟨i0, hi0, hz0, hz1, hz2⟩ := info_parts info46
                    go_wp2_with fail
                    go_quiet (fail)
                    go_wp2_with (at_builtin; refine wpList_append_own _ rfl _ _ 43 rfl w.heap.size 46 i0 (.agg #[.int .i64 0, .int .i64 0]) 2 16 Try.underlying43 hi0 hz0 hz1 hz2 rfl (by decide) _ _ _ rfl (hown.alloc _) ⟨wc.heap.size, 0, none⟩ 1 1 [.int .i64 ((k - 5 : Nat) : Int), .int .i64 ((hi n j : Nat) : Int)] rfl rfl ?c1 ?c2 ?c3 ?c4 ?c5 ?_)
                    case c1 => exact two_new _ _ _
                    case c2 => exact two_one _ _
                    case c3 => simp only [List.length_cons] at hlen ⊢; unfold maxLen; omega
                    case c4 => simp only [List.length_cons] at hlen ⊢; omega
                    case c5 => have := hbel2.size; simp; omega
                    · intro v' w1 hown' hgrow _
                      have R := rel_push (k - 5) (hi n j) hbel2 hown hgrow hown'
                      have HRR : Hid (w1.ownsRow w.heap.size 46 2 v' (addR n ((f, l) :: t) (k, j)).length (cells (addR n ((f, l) :: t) (k, j))) ∧ Below w.heap.size w w1) := by
                        rw [show addR n ((f, l) :: t) (k, j) = (k - 5, hi n j) :: (f, l) :: t from by simp only [addR]; rw [if_neg hj]]
                        exact R
                      clear R hown' hgrow hown hbel2
                      go_wp2_with fail
                      go_roundw
                      case rel => exact ⟨j + 1, by omega, by go_num, HF.out.1, by rw [HF.out.2]; exact HRR.out.1, HRR.out.2⟩
                      case measure => simp [intOf]; omega
            · have HM : Hid (j + 1 < n ∧ EE L j = false) := more_yes hm
              go_wp2_with fail
              go_round
              case rel =>
                have e1 := scan_stay n (SS L) (EE L) j k HP1.out HM.out.2 (by have := HM.out.1; omega)
                exact ⟨j + 1, by omega, HM.out.1, by go_num, by rw [e1]; rfl, by rw [e1]; exact HP2.out⟩
              case measure => simp [intOf]; omega
    · have hkn : k = n := by omega
      subst hkn
      go_wp2
      go_ret
      exact ⟨_, rfl, hown, hbel⟩
end Go.Proofs.Qxb6602367a.Exc
