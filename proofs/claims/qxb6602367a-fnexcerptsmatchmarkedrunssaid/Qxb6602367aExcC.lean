/- ZZExcerpts: the runs as two rows of numbers. -/
import Derived.Test.Qxb6602367aExcB
namespace Go.Proofs.Qxb6602367a.Exc
open Go.RowKit

/-- a slice of n numbers -/
def Ints (w : World) (a : Option Addr) (n : Nat) (f : Nat → Nat) : Prop :=
  n = 0 ∨ ∃ b off, a = some ⟨b, off, none⟩ ∧ b < w.heap.size ∧ ∀ i, i < n → w.cell? ⟨b, off + i, none⟩ = some (.int .i64 (f i))

theorem info3 : (Try.prog.info? 3).map (fun i => (i.zero, i.size, i.bytes)) = some (some (.int .i64 0), 1, 8) := by kernel_rfl

def filled (f : Nat → Nat) (k j : Nat) : Value := if j < k then .int .i64 (f j) else .int .i64 0
theorem filled_next (w : World) (N n k : Nat) (f : Nat → Nat) (h : w.rowIs N 3 n (filled f k)) :
    (w.setCell ⟨N, k, none⟩ (.int .i64 (f k))).rowIs N 3 n (filled f (k + 1)) := by
  refine (h.set k (.int .i64 (f k))).congr ?_
  intro j _
  unfold filled
  by_cases e : j = k
  · subst e; simp
  · rw [if_neg e]
    by_cases hlt : j < k
    · rw [if_pos hlt, if_pos (by omega)]
    · rw [if_neg hlt, if_neg (by omega)]

def fst (l : List (Nat × Nat)) (i : Nat) : Nat := (l.getD i (0, 0)).1
def snd (l : List (Nat × Nat)) (i : Nat) : Nat := (l.getD i (0, 0)).2

theorem cells_get (l : List (Nat × Nat)) (i : Nat) (h : i < l.length) :
    (l.flatMap (fun r => [Value.int .i64 r.1, Value.int .i64 r.2]))[i * 2]? = some (.int .i64 (fst l i)) ∧ (l.flatMap (fun r => [Value.int .i64 r.1, Value.int .i64 r.2]))[i * 2 + 1]? = some (.int .i64 (snd l i)) := by
  induction l generalizing i with
  | nil => simp at h
  | cons r t ih =>
    cases i with
    | zero => simp [fst, snd]
    | succ i =>
      have := ih i (by simpa using h)
      rw [show (i + 1) * 2 = i * 2 + 2 from by omega]
      simpa [fst, snd] using this

theorem own_get {w : World} {B g cap : Nat} {rr : List (Nat × Nat)} (h : w.ownsRow B 46 2 (.slice (some ⟨g, 0, none⟩) rr.length cap) rr.length (cells rr)) (i : Nat) (hi : i < rr.length) :
    w.cell? ⟨g, i * 2, none⟩ = some (.int .i64 (fst rr.reverse i)) ∧ w.cell? ⟨g, i * 2 + 1, none⟩ = some (.int .i64 (snd rr.reverse i)) := by
  have := cells_get rr.reverse i (by simpa using hi)
  rw [h.cellAt _ (by omega), h.cellAt _ (by omega)]
  exact this

/-- what ZZExcerpts hands out: the runs' first lines, and their last lines -/
def Zed (w : World) (l : List (Nat × Nat)) (e : Ending) (w' : World) : Prop :=
  ∃ a1 c1 a2 c2, e = .returned (.tuple #[.slice a1 l.length c1, .slice a2 l.length c2]) ∧ Ints w' a1 l.length (fst l) ∧ Ints w' a2 l.length (snd l) ∧ Below w.heap.size w w'

theorem zed_nil {w w1 : World} {l : List (Nat × Nat)} (hl : l.length = 0) (hb : Below w.heap.size w w1) : Zed w l (.returned (.tuple #[.slice none 0 0, .slice none 0 0])) w1 :=
  ⟨none, 0, none, 0, by rw [hl], .inl hl, .inl hl, hb⟩
theorem zed_start (w : World) (m : Nat) (f g : Nat → Nat) : ((w.alloc (.cells (madeCells #[.int .i64 0] m) 3)).alloc (.cells (madeCells #[.int .i64 0] m) 3)).rowIs w.heap.size 3 m (filled f 0) ∧
    ((w.alloc (.cells (madeCells #[.int .i64 0] m) 3)).alloc (.cells (madeCells #[.int .i64 0] m) 3)).rowIs (w.heap.size + 1) 3 m (filled g 0) ∧
    Below w.heap.size w ((w.alloc (.cells (madeCells #[.int .i64 0] m) 3)).alloc (.cells (madeCells #[.int .i64 0] m) 3)) := by
  refine ⟨((World.rowIs_made w _ m 3).congr (fun j _ => by simp [filled])).alloc _, ?_, ((Below.refl _ _).alloc (Nat.le_refl _) _).alloc (by simp) _⟩
  have := World.rowIs_made (w.alloc (.cells (madeCells #[.int .i64 0] m) 3)) (.int .i64 0) m 3
  have e : (w.alloc (.cells (madeCells #[.int .i64 0] m) 3)).heap.size = w.heap.size + 1 := by simp
  rw [e] at this
  exact this.congr (fun j _ => by simp [filled])
theorem zed_step {w wr : World} {m k N : Nat} {f g : Nat → Nat} (h1 : wr.rowIs N 3 m (filled f k)) (h2 : wr.rowIs (N + 1) 3 m (filled g k)) (hb : Below N w wr) :
    ((wr.setCell ⟨N, k, none⟩ (.int .i64 (f k))).setCell ⟨N + 1, k, none⟩ (.int .i64 (g k))).rowIs N 3 m (filled f (k + 1)) ∧
    ((wr.setCell ⟨N, k, none⟩ (.int .i64 (f k))).setCell ⟨N + 1, k, none⟩ (.int .i64 (g k))).rowIs (N + 1) 3 m (filled g (k + 1)) ∧
    Below N w ((wr.setCell ⟨N, k, none⟩ (.int .i64 (f k))).setCell ⟨N + 1, k, none⟩ (.int .i64 (g k))) :=
  ⟨(filled_next wr N m k f h1).setOther (by simp) _, filled_next _ (N + 1) m k g (h2.setOther (by simp) _), (hb.setCell (Nat.le_refl _) _).setCell (by simp) _⟩
theorem zed_rows {w w1 wr : World} {l : List (Nat × Nat)} {m k N : Nat} {c1 c2 : Nat} (hm : l.length = m) (hk : ¬ k < m) (h1 : wr.rowIs N 3 m (filled (fst l) k)) (h2 : wr.rowIs (N + 1) 3 m (filled (snd l) k))
    (hb : Below w.heap.size w w1) (hb' : Below w1.heap.size w1 wr) : Zed w l (.returned (.tuple #[.slice (some ⟨N, 0, none⟩) m c1, .slice (some ⟨N + 1, 0, none⟩) m c2])) wr := by
  refine ⟨_, c1, _, c2, by rw [hm], .inr ⟨N, 0, rfl, h1.lt, fun i hi => ?_⟩, .inr ⟨N + 1, 0, rfl, h2.lt, fun i hi => ?_⟩, hb.trans (hb'.mono hb.size)⟩
  · rw [Nat.zero_add, h1.cell (by omega)]; simp [filled, show i < k by omega]
  · rw [Nat.zero_add, h2.cell (by omega)]; simp [filled, show i < k by omega]

set_option maxHeartbeats 1000000 in
/-- ZZExcerpts -/
theorem zz9 (a : Option Addr) (n c : Nat) (L : Nat → ByteArray) (w : World) (hn : n ≤ 65536) (h : Strs w a n L) :
    Calls Try.prog 9 #[.slice a n c] w fun e w' => Zed w (runs n (SS L) (EE L)) e w' := by
  have q43 : ∀ (w : World) (a : Option Addr) (n c n' c' : Nat), (binOp .eql 43 (.slice a n c) (.slice none n' c')).run Try.prog w = .ok (.bool a.isNone) w := fun w a n c n' c' => Lib.run_eql_slice_nil w _ _ a n c n' c' Try.underlying43
  go_enter Try.func9, Try.ntmps9
  go_wp2_with fail
  refine (exc18 a n c L _ hn h).mono ?_
  rintro e w1 ⟨v, rfl, hown, hbel⟩
  have hle := runsR_le n (SS L) (EE L) n (Nat.le_refl n)
  have HR : Hid (runs n (SS L) (EE L) = (runsR n (scan n (SS L) (EE L) n).2).reverse) := rfl
  generalize runsR n (scan n (SS L) (EE L) n).2 = rr at hown hle HR
  rcases hown.2 with ⟨rfl, h0⟩ | ⟨g, cap, cur, rfl, hg0, hgc, _⟩
  · have hl : (runs n (SS L) (EE L)).length = 0 := by rw [HR.out]; simpa using h0
    have HL : Hid ((runs n (SS L) (EE L)).length = 0) := hl
    clear hl hown h0 hle
    go_wp2
    go_ret2
    exact zed_nil HL.out hbel
  · have hgl : g < w1.heap.size := (hown.lt g rfl).2
    obtain ⟨m, hm⟩ : ∃ m, rr.length = m := ⟨_, rfl⟩
    have hget := own_get hown
    have HL : Hid ((runs n (SS L) (EE L)).length = m) := by show (runs n (SS L) (EE L)).length = m; rw [HR.out]; simpa using hm
    rw [← HR.out] at hget
    rw [hm] at hget hle ⊢
    have hml : m ≤ 65536 := by omega
    have hmk := run_make_row' (P := Try.prog) 25 3 (.int .i64 0) 8 Try.underlying25 info3 rfl .i64 .i64 m (by omega) (by omega)
    clear hown hgc hm
    go_wp2
    go_loopw [5] (fun i wr => ∃ k : Nat, k ≤ m ∧ i = .int .i64 k ∧ wr.rowIs w1.heap.size 3 m (filled (fst (runs n (SS L) (EE L))) k) ∧ wr.rowIs (w1.heap.size + 1) 3 m (filled (snd (runs n (SS L) (EE L))) k) ∧ Below w1.heap.size w1 wr) (fun i _ => m - (intOf i).toNat)
    case atStart => exact ⟨0, by omega, rfl, zed_start _ _ _ _⟩
    case round =>
      obtain ⟨k, hk, rfl, hr1, hr2, hb1⟩ := hrel
      by_cases hlt : k < m
      · have hc1 : wr.cell? ⟨g, k * 2, none⟩ = some (.int .i64 (fst (runs n (SS L) (EE L)) k)) := by rw [hb1.cell (p := ⟨g, k * 2, none⟩) hgl]; exact (hget k hlt).1
        have hc2 : wr.cell? ⟨g, k * 2 + 1, none⟩ = some (.int .i64 (snd (runs n (SS L) (EE L)) k)) := by rw [hb1.cell (p := ⟨g, k * 2 + 1, none⟩) hgl]; exact (hget k hlt).2
        have hd1 := hr1.cell hlt
        have hf1 := hr1.frozen k
        have hd2 := hr2.cell hlt
        have hf2 := hr2.frozen k
        have HG : Hid (∀ i, i < m → w1.cell? ⟨g, i * 2, none⟩ = some (.int .i64 (fst (runs n (SS L) (EE L)) i)) ∧ w1.cell? ⟨g, i * 2 + 1, none⟩ = some (.int .i64 (snd (runs n (SS L) (EE L)) i))) := hget
        clear hget
        go_wp2
        go_roundw
        case rel =>
          exact ⟨k + 1, by omega, by go_num, zed_step hr1 hr2 hb1⟩
        case measure => simp [intOf]; omega
      · go_wp2
        go_ret2
        exact zed_rows HL.out hlt hr1 hr2 hbel hb1
end Go.Proofs.Qxb6602367a.Exc
