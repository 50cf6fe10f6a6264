/- zzModelRuns: it hands out the same runs. -/
import Derived.Test.Qxb6602367aExcE
import Derived.Maps.AppendAt
namespace Go.Proofs.Qxb6602367a.Exc
open Go.RowKit

theorem info4 : (Try.prog.info? 4).map (fun i => (i.zero, i.size, i.bytes)) = some (some (.bool false), 1, 1) := by kernel_rfl

/-- the marks laid so far, with those of a region that is being marked: lines x up to (not with) j -/
def half (M : Nat → Bool) (x j t : Nat) : Value := .bool (M t || (decide (x ≤ t) && decide (t < j)))

/-- what slots 6 and 7 hold behind the first test -/
def Pre (S : Nat → Bool) (o : Option Nat) (k : Nat) (v6 v7 : Value) : Prop :=
  (∃ s : Nat, pre S o k = some s ∧ v6 = .bool true ∧ v7 = .int .i64 s) ∨ (pre S o k = none ∧ v6 = .bool false ∧ ∃ z : Int, v7 = .int .i64 z)
def At (o : Option Nat) (v6 v7 : Value) : Prop :=
  (∃ s : Nat, o = some s ∧ v6 = .bool true ∧ v7 = .int .i64 s) ∨ (o = none ∧ v6 = .bool false ∧ ∃ z : Int, v7 = .int .i64 z)

theorem at_end (k n : Nat) : (k + 1 == n) = ((k : Int) == (n : Int) - 1) := by
  rw [Bool.eq_iff_iff]; simp; omega

theorem pre_same {S : Nat → Bool} {o : Option Nat} {k : Nat} {v6 v7 : Value} (h : At o v6 v7) (hb : (o.isNone && S k) = false) : Pre S o k v6 v7 := by
  rcases h with ⟨s, rfl, h6, h7⟩ | ⟨rfl, h6, h7⟩
  · exact .inl ⟨s, rfl, h6, h7⟩
  · refine .inr ⟨?_, h6, h7⟩
    have : S k = false := by simpa using hb
    simp [pre, this]
theorem pre_new {S : Nat → Bool} {o : Option Nat} {k : Nat} (hb : (o.isNone && S k) = true) : Pre S o k (.bool true) (.int .i64 k) := by
  simp only [Bool.and_eq_true, Option.isNone_iff_eq_none] at hb
  exact .inl ⟨k, by rw [hb.1]; simp [pre, hb.2], rfl, rfl⟩

theorem drewN_below {w w' : World} {B nq : Nat} (h : Below B w w') : Below B w (w'.drewN nq) := ⟨h.os, h.tape, h.output, h.size, h.block⟩
theorem num_eq {a b : Int} (h : a = b) : Value.int .i64 a = .int .i64 b := by rw [h]
theorem stay_at {n : Nat} {S E : Nat → Bool} {k : Nat} {v6 v7 : Value} (h : Pre S (scan n S E k).1 k v6 v7) (hb : ((pre S (scan n S E k).1 k).isSome && (E k || k + 1 == n)) = false) :
    At (scan n S E (k + 1)).1 v6 v7 ∧ (scan n S E (k + 1)).2 = (scan n S E k).2 := by
  rcases h with ⟨s, hp, h6, h7⟩ | ⟨hp, h6, h7⟩
  · have hc : (E k || k + 1 == n) = false := by rw [hp] at hb; simpa using hb
    have e : scan n S E (k + 1) = (some s, (scan n S E k).2) := by rw [scan_succ, step, hp]; simp [hc]
    rw [e]
    exact ⟨.inl ⟨s, rfl, h6, h7⟩, rfl⟩
  · rw [scan_none n S E k hp]
    exact ⟨.inr ⟨rfl, h6, h7⟩, rfl⟩
theorem close_at {n : Nat} {S E : Nat → Bool} {k : Nat} {v6 v7 : Value} (h : Pre S (scan n S E k).1 k v6 v7) (hb : ((pre S (scan n S E k).1 k).isSome && (E k || k + 1 == n)) = true) :
    ∃ s : Nat, v6 = .bool true ∧ v7 = .int .i64 s ∧ pre S (scan n S E k).1 k = some s ∧ scan n S E (k + 1) = (none, (scan n S E k).2 ++ [(s, k)]) := by
  rcases h with ⟨s, hp, h6, h7⟩ | ⟨hp, h6, h7⟩
  · have hc : (E k || k + 1 == n) = true := by rw [hp] at hb; simpa using hb
    refine ⟨s, h6, h7, hp, ?_⟩
    rw [scan_succ, step, hp]; simp [hc]
  · rw [hp] at hb; simp at hb
theorem pre_le {n : Nat} {S E : Nat → Bool} {k s : Nat} (h : pre S (scan n S E k).1 k = some s) (hk : k < n) : s ≤ k := by
  unfold pre at h
  split at h
  · rename_i e
    cases h
    have := (inv_all n S E k (by omega)).opn _ e
    omega
  · split at h
    · cases h; exact Nat.le_refl _
    · cases h
theorem half_start {w : World} {N n x nq : Nat} {M : Nat → Bool} (h : w.rowIs N 4 n (fun t => .bool (M t))) : (w.drewN nq).rowIs N 4 n (half M x x) := by
  have h' : (w.drewN nq).rowIs N 4 n (fun t => .bool (M t)) := h
  refine h'.congr (fun i _ => ?_)
  unfold half
  have : (decide (x ≤ i) && decide (i < x)) = false := by simp
  rw [this, Bool.or_false]
theorem half_next {w : World} {N n x j : Nat} {M : Nat → Bool} (hj : x ≤ j) (h : w.rowIs N 4 n (half M x j)) : (w.setCell ⟨N, j, none⟩ (.bool true)).rowIs N 4 n (half M x (j + 1)) := by
  refine (h.set j (.bool true)).congr (fun i _ => ?_)
  unfold half
  by_cases e : i = j
  · subst e; simp [hj]
  · rw [if_neg e]
    have : decide (i < j + 1) = decide (i < j) := by rw [decide_eq_decide]; omega
    rw [this]
theorem half_end {w : World} {N n s k j : Nat} {R : List (Nat × Nat)} (hj : j = hi n k + 1) (h : w.rowIs N 4 n (half (mark n R) (s - 5) j)) : w.rowIs N 4 n (fun t => .bool (mark n (R ++ [(s, k)]) t)) := by
  refine h.congr (fun i _ => ?_)
  unfold half
  rw [mark_snoc, hj]
  have : decide (i < hi n k + 1) = decide (i ≤ hi n k) := by rw [decide_eq_decide]; omega
  rw [this]

/-- the same as Zed, by numbers -/
def ZedN (w : World) (m : Nat) (F G : Nat → Nat) (e : Ending) (w' : World) : Prop :=
  ∃ a1 c1 a2 c2, e = .returned (.tuple #[.slice a1 m c1, .slice a2 m c2]) ∧ Ints w' a1 m F ∧ Ints w' a2 m G ∧ Below w.heap.size w w'
/-- the first p numbers of F as cells -/
def ints (F : Nat → Nat) (p : Nat) : List Value := (List.range p).map (fun i => .int .i64 (F i))
theorem ints_succ (F : Nat → Nat) (p : Nat) : ints F (p + 1) = ints F p ++ [.int .i64 (F p)] := by simp [ints, List.range_succ]

/-- the state of the model's second loop: first lines up to (not with) line t, last lines up to (not with) line u -/
structure Run (w wx : World) (n m : Nat) (F G : Nat → Nat) (M : Nat → Bool) (v2 v3 : Value) (t u : Nat) : Prop where
  row : wx.rowIs w.heap.size 4 n (fun t => .bool (M t))
  bel : Below w.heap.size w wx
  big : w.heap.size + 1 ≤ wx.heap.size
  ex : ∃ p q : Nat, p ≤ m ∧ q ≤ m ∧ wx.ownsRow (w.heap.size + 1) 3 1 v2 p (ints F p) ∧ wx.ownsRow (w.heap.size + 1) 3 1 v3 q (ints G q) ∧ (v2.ownBlock = none ∨ v2.ownBlock ≠ v3.ownBlock) ∧
    (∀ i, i < p → F i < t) ∧ (p < m → t ≤ F p) ∧ (∀ i, i < q → G i < u) ∧ (q < m → u ≤ G q)

theorem run_start {w wx : World} {n m : Nat} {F G : Nat → Nat} {M : Nat → Bool} (h : wx.rowIs w.heap.size 4 n (fun t => .bool (M t))) (hb : Below w.heap.size w wx) :
    Run w wx n m F G M (.slice none 0 0) (.slice none 0 0) 0 0 :=
  ⟨h, hb, h.lt, 0, 0, by omega, by omega, World.ownsRow_nil _ _ _ _, World.ownsRow_nil _ _ _ _, .inl rfl, fun i h => by omega, fun _ => by omega, fun i h => by omega, fun _ => by omega⟩
theorem run_skip {w wx : World} {n m t : Nat} {F G : Nat → Nat} {M : Nat → Bool} {v2 v3 : Value} (MA : Marked n m F G M) (h : Run w wx n m F G M v2 v3 t t) (hM : M t = false) : Run w wx n m F G M v2 v3 (t + 1) (t + 1) := by
  obtain ⟨p, q, h1, h2, h3, h4, h5, h6, h7, h8, h9⟩ := h.ex
  refine ⟨h.row, h.bel, h.big, p, q, h1, h2, h3, h4, h5, fun i hi => by have := h6 i hi; omega, fun hp => ?_, fun i hi => by have := h8 i hi; omega, fun hq => ?_⟩
  · have := h7 hp; have := first_no MA (.inl hM) hp; omega
  · have := h9 hq; have := last_no MA (.inl hM) hq; omega

theorem one_new (w : World) (x : Value) : ∀ j u, [x][j]? = some u → (w.alloc (.cells #[x] 3)).cell? ((⟨w.heap.size, 0, none⟩ : Addr).add j) = some u := by
  intro j u hj
  match j, hj with
  | 0, hj => simp at hj; subst hj; simp [Addr.add, go_sem]
theorem one_one (x : Int) : ∀ u ∈ [Value.int .i64 x], u.oneCell' = true := by
  intro u hu
  simp at hu
  subst hu
  rfl
theorem run_notfirst {w wx : World} {n m t : Nat} {F G : Nat → Nat} {M : Nat → Bool} {v2 v3 : Value} (MA : Marked n m F G M) (h : Run w wx n m F G M v2 v3 t t) (hb : (t == 0 || !M (t - 1)) = false) : Run w wx n m F G M v2 v3 (t + 1) t := by
  obtain ⟨p, q, h1, h2, h3, h4, h5, h6, h7, h8, h9⟩ := h.ex
  simp only [Bool.or_eq_false_iff, beq_eq_false_iff_ne, Bool.not_eq_false'] at hb
  refine ⟨h.row, h.bel, h.big, p, q, h1, h2, h3, h4, h5, fun i hi => by have := h6 i hi; omega, fun hp => ?_, h8, h9⟩
  have := h7 hp; have := first_no MA (.inr hb) hp; omega
theorem run_notlast {w wx : World} {n m t : Nat} {F G : Nat → Nat} {M : Nat → Bool} {v2 v3 : Value} (MA : Marked n m F G M) (h : Run w wx n m F G M v2 v3 (t + 1) t) (hb : (t + 1 == n || !M (t + 1)) = false) : Run w wx n m F G M v2 v3 (t + 1) (t + 1) := by
  obtain ⟨p, q, h1, h2, h3, h4, h5, h6, h7, h8, h9⟩ := h.ex
  simp only [Bool.or_eq_false_iff, beq_eq_false_iff_ne, Bool.not_eq_false'] at hb
  refine ⟨h.row, h.bel, h.big, p, q, h1, h2, h3, h4, h5, h6, h7, fun i hi => by have := h8 i hi; omega, fun hq => ?_⟩
  have := h9 hq; have := last_no MA (.inr hb) hq; omega
/-- what an append to one of the two rows leaves of the rest -/
theorem run_grow {w wx w1 : World} {n p q : Nat} {f : Nat → Value} {o : Obj} {va va' vb : Value} {xs ys : List Value}
    (hrow : wx.rowIs w.heap.size 4 n f) (hbel : Below w.heap.size w wx) (ha : wx.ownsRow (w.heap.size + 1) 3 1 va p xs) (hb : wx.ownsRow (w.heap.size + 1) 3 1 vb q ys)
    (hne : va.ownBlock = none ∨ va.ownBlock ≠ vb.ownBlock) (hg : (wx.alloc o).grownBy w1 va.ownBlock) (hblk : va'.ownBlock = va.ownBlock ∨ va'.ownBlock = some (wx.heap.size + 1)) :
    w1.rowIs w.heap.size 4 n f ∧ Below w.heap.size w w1 ∧ w.heap.size + 1 ≤ w1.heap.size ∧ w1.ownsRow (w.heap.size + 1) 3 1 vb q ys ∧ (va'.ownBlock = none ∨ va'.ownBlock ≠ vb.ownBlock) := by
  have hN := hrow.lt
  have hsz : (wx.alloc o).heap.size = wx.heap.size + 1 := by simp
  have hblo : ∀ j, va.ownBlock = some j → w.heap.size + 1 ≤ j := fun j hj => (ha.lt j hj).1
  refine ⟨?_, ?_, ?_, ?_, ?_⟩
  · exact (hrow.alloc o).of_block (hg.block _ (by omega) (fun e => by have := hblo _ e.symm; omega))
  · have hb1 := hbel.alloc hbel.size o
    exact hb1.grown hg (by have := hb1.size; omega) (fun j hj => by have := hblo j hj; omega)
  · have := hg.size; omega
  · refine (hb.alloc o).kept hg ?_
    rcases hne with h | h
    · rw [h]
      cases vb.ownBlock
      · exact .inl rfl
      · exact .inr (by simp)
    · exact .inr (fun e => h e.symm)
  · rcases hblk with e | e
    · rw [e]; exact hne
    · refine .inr (fun he => ?_)
      rw [e] at he
      have := (hb.lt _ he.symm).2
      omega
theorem run_first {w wx w1 : World} {n m t p q : Nat} {F G : Nat → Nat} {M : Nat → Bool} {o : Obj} {v2 v3 v' : Value} (MA : Marked n m F G M) (h : Run w wx n m F G M v2 v3 t t) (hb : (t == 0 || !M (t - 1)) = true) (hM : M t = true)
    (hx : p ≤ m ∧ q ≤ m ∧ (∀ i, i < p → F i < t) ∧ (p < m → t ≤ F p) ∧ (∀ i, i < q → G i < t) ∧ (q < m → t ≤ G q))
    (h3 : wx.ownsRow (w.heap.size + 1) 3 1 v2 p (ints F p)) (h4 : wx.ownsRow (w.heap.size + 1) 3 1 v3 q (ints G q)) (h5 : v2.ownBlock = none ∨ v2.ownBlock ≠ v3.ownBlock)
    (hown : w1.ownsRow (w.heap.size + 1) 3 1 v' (p + 1) (ints F p ++ [.int .i64 (t : Int)])) (hg : (wx.alloc o).grownBy w1 v2.ownBlock) (hblk : v'.ownBlock = v2.ownBlock ∨ v'.ownBlock = some (wx.heap.size + 1)) :
    Run w w1 n m F G M v' v3 (t + 1) t := by
  have hb' : t = 0 ∨ M (t - 1) = false := by simpa using hb
  obtain ⟨hpm, hFp⟩ := first_yes MA hx.2.2.1 hx.2.2.2.1 hM hb'
  obtain ⟨r1, r2, r3, r4, r5⟩ := run_grow h.row h.bel h3 h4 h5 hg hblk
  refine ⟨r1, r2, r3, p + 1, q, by omega, hx.2.1, ?_, r4, r5, ?_, ?_, hx.2.2.2.2.1, hx.2.2.2.2.2⟩
  · rw [ints_succ, hFp]; exact hown
  · intro i hi
    by_cases e : i = p
    · subst e; omega
    · have := hx.2.2.1 i (by omega); omega
  · intro hp
    have := MA.far p (p + 1) (by omega) hp
    have := MA.le p hpm
    omega
theorem run_last {w wx w1 : World} {n m t p q : Nat} {F G : Nat → Nat} {M : Nat → Bool} {o : Obj} {v2 v3 v' : Value} (MA : Marked n m F G M) (h : Run w wx n m F G M v2 v3 (t + 1) t) (hb : (t + 1 == n || !M (t + 1)) = true) (hM : M t = true)
    (hx : p ≤ m ∧ q ≤ m ∧ (∀ i, i < p → F i < t + 1) ∧ (p < m → t + 1 ≤ F p) ∧ (∀ i, i < q → G i < t) ∧ (q < m → t ≤ G q))
    (h3 : wx.ownsRow (w.heap.size + 1) 3 1 v2 p (ints F p)) (h4 : wx.ownsRow (w.heap.size + 1) 3 1 v3 q (ints G q)) (h5 : v2.ownBlock = none ∨ v2.ownBlock ≠ v3.ownBlock)
    (hown : w1.ownsRow (w.heap.size + 1) 3 1 v' (q + 1) (ints G q ++ [.int .i64 (t : Int)])) (hg : (wx.alloc o).grownBy w1 v3.ownBlock) (hblk : v'.ownBlock = v3.ownBlock ∨ v'.ownBlock = some (wx.heap.size + 1)) :
    Run w w1 n m F G M v2 v' (t + 1) (t + 1) := by
  have hb' : t + 1 = n ∨ M (t + 1) = false := by simpa using hb
  obtain ⟨hqm, hGq⟩ := last_yes MA hx.2.2.2.2.1 hx.2.2.2.2.2 hM hb'
  have h5' : v3.ownBlock = none ∨ v3.ownBlock ≠ v2.ownBlock := by
    rcases h5 with h5 | h5
    · rw [h5]; cases v3.ownBlock
      · exact .inl rfl
      · exact .inr (by simp)
    · exact .inr (fun e => h5 e.symm)
  obtain ⟨r1, r2, r3, r4, r5⟩ := run_grow h.row h.bel h4 h3 h5' hg hblk
  refine ⟨r1, r2, r3, p, q + 1, hx.1, by omega, r4, ?_, ?_, hx.2.2.1, hx.2.2.2.1, ?_, ?_⟩
  · rw [ints_succ, hGq]; exact hown
  · rcases r5 with r5 | r5
    · rw [r5]; cases v2.ownBlock
      · exact .inl rfl
      · exact .inr (by simp)
    · exact .inr (fun e => r5 e.symm)
  · intro i hi
    by_cases e : i = q
    · subst e; omega
    · have := hx.2.2.2.2.1 i (by omega); omega
  · intro hq
    have := MA.far q (q + 1) (by omega) hq
    have := MA.le (q + 1) hq
    omega
theorem own_ints {w : World} {B p : Nat} {v : Value} {F : Nat → Nat} (h : w.ownsRow B 3 1 v p (ints F p)) : ∃ a c, v = .slice a p c ∧ Ints w a p F := by
  rcases h.2 with ⟨rfl, h0⟩ | ⟨g, cap, cur, rfl, _⟩
  · subst h0; exact ⟨none, 0, rfl, .inl rfl⟩
  · refine ⟨_, cap, rfl, .inr ⟨g, 0, rfl, (h.lt g rfl).2, fun i hi => ?_⟩⟩
    rw [Nat.zero_add, h.cellAt i (by omega)]
    simp [ints, hi]
theorem run_end {w wx : World} {n m t : Nat} {F G : Nat → Nat} {M : Nat → Bool} {v2 v3 : Value} (MA : Marked n m F G M) (h : Run w wx n m F G M v2 v3 t t) (ht : n ≤ t) :
    ∃ a1 c1 a2 c2, v2 = .slice a1 m c1 ∧ v3 = .slice a2 m c2 ∧ ZedN w m F G (.returned (.tuple #[.slice a1 m c1, .slice a2 m c2])) wx := by
  obtain ⟨p, q, h1, h2, h3, h4, h5, h6, h7, h8, h9⟩ := h.ex
  have hp : p = m := by
    by_cases e : p < m
    · have := h7 e; have := MA.lt p e; have := MA.le p e; omega
    · omega
  have hq : q = m := by
    by_cases e : q < m
    · have := h9 e; have := MA.lt q e; omega
    · omega
  subst hp
  subst hq
  obtain ⟨a1, c1, rfl, i1⟩ := own_ints h3
  obtain ⟨a2, c2, rfl, i2⟩ := own_ints h4
  exact ⟨a1, c1, a2, c2, rfl, rfl, a1, c1, a2, c2, rfl, i1, i2, h.bel⟩

set_option maxHeartbeats 2000000 in
theorem model10 (a : Option Addr) (n c : Nat) (L : Nat → ByteArray) (w : World) (hn : n ≤ 65536) (h : Strs w a n L) :
    Calls Try.prog 10 #[.slice a n c] w fun e w' => Zed w (runs n (SS L) (EE L)) e w' := by
  have hmk := run_make_row' (P := Try.prog) 47 4 (.bool false) 1 Try.underlying47 info4 rfl .i64 .i64 n (by omega) (by omega)
  go_enter Try.func10, Try.ntmps10
  go_wp2
  go_loopw [6, 7, 8] (fun v6 v7 i wr => ∃ k : Nat, k ≤ n ∧ i = .int .i64 k ∧ At (scan n (SS L) (EE L) k).1 v6 v7 ∧ wr.rowIs w.heap.size 4 n (fun t => .bool (mark n (scan n (SS L) (EE L) k).2 t)) ∧ Below w.heap.size w wr) (fun _ _ i _ => n - (intOf i).toNat)
  case atStart =>
    exact ⟨0, by omega, rfl, .inr ⟨rfl, rfl, _, rfl⟩, (World.rowIs_made w _ n 4).congr (fun j _ => by simp [mark, scan]), (Below.refl _ _).alloc (Nat.le_refl _) _⟩
  case round =>
    obtain ⟨k, hk, rfl, hat, hrow, hbel⟩ := hrel
    by_cases hlt : k < n
    · rcases id h with h0 | ⟨b, off, rfl, hb, hc⟩
      · omega
      have hcell : wr.cell? ⟨b, off + k, none⟩ = some (.string (L k)) := by rw [hbel.cell (p := ⟨b, off + k, none⟩) hb]; exact hc k hlt
      clear h hc
      go_upto_region 8 with fail
      go_cut [30] from 22 to 30 (fun v w' => v = .bool ((scan n (SS L) (EE L) k).1.isNone && SS L k) ∧ ∃ nq, wr.drewN nq = w')
      case first =>
        rcases hat with ⟨s, ho, rfl, rfl⟩ | ⟨ho, rfl, z, rfl⟩
        · have HO : Hid ((scan n (SS L) (EE L) k).1 = some s) := ho
          clear ho
          go_wp2_with fail
          go_meet
          case rel => exact ⟨by rw [HO.out]; rfl, 0, rfl⟩
        · have HO : Hid ((scan n (SS L) (EE L) k).1 = none) := ho
          clear ho
          go_wp2_with fail
          refine (has12 (L k) _ _ (by decide)).mono ?_
          rintro e w' ⟨rfl, nq3, rfl⟩
          go_wp2_with fail
          go_meet
          case rel => exact ⟨by rw [HO.out]; rfl, _, rfl⟩
      case rest =>
        obtain ⟨rfl, nq1, rfl⟩ := hcut
        go_upto_if 30 with fail
        go_cut [6, 7] from 30 to 31 (fun v6 v7 w' => Pre (SS L) (scan n (SS L) (EE L) k).1 k v6 v7 ∧ wr.drewN nq1 = w')
        case first =>
          cases hb30 : ((scan n (SS L) (EE L) k).1.isNone && SS L k)
          · have HA : Hid (Pre (SS L) (scan n (SS L) (EE L) k).1 k u6 u7) := pre_same hat hb30
            go_wp2_with fail
            go_meet
            case rel => exact ⟨HA.out, rfl⟩
          · have HA : Hid (Pre (SS L) (scan n (SS L) (EE L) k).1 k (.bool true) (.int .i64 k)) := pre_new hb30
            go_wp2_with fail
            go_meet
            case rel => exact ⟨HA.out, rfl⟩
        case rest =>
          clear hat
          obtain ⟨hpre, rfl⟩ := hcut
          go_upto_region 11 with fail
          go_cut [45] from 32 to 45 (fun v w' => v = .bool ((pre (SS L) (scan n (SS L) (EE L) k).1 k).isSome && (EE L k || k + 1 == n)) ∧ ∃ nq, wr.drewN nq = w')
          case first =>
            rcases hpre with ⟨s, hp, rfl, rfl⟩ | ⟨hp, rfl, z, rfl⟩
            · have HP : Hid (pre (SS L) (scan n (SS L) (EE L) k).1 k = some s) := hp
              clear hp
              cases hE : EE L k
              · have hE' : hp (L k) { data := #[62, 62, 62, 62, 62, 62, 62] } = false := hE
                have HE : Hid (EE L k = false) := hE
                clear hE
                go_wp2_with fail
                refine (has12 (L k) _ _ (by decide)).mono ?_
                rintro e w' ⟨rfl, nq3, rfl⟩
                go_wp2_with fail
                go_meet
                case rel => exact ⟨by rw [HP.out, HE.out, at_end k n]; rfl, _, rfl⟩
              · have hE' : hp (L k) { data := #[62, 62, 62, 62, 62, 62, 62] } = true := hE
                have HE : Hid (EE L k = true) := hE
                clear hE
                go_wp2_with fail
                refine (has12 (L k) _ _ (by decide)).mono ?_
                rintro e w' ⟨rfl, nq3, rfl⟩
                go_wp2_with fail
                go_meet
                case rel => exact ⟨by rw [HP.out, HE.out]; rfl, _, rfl⟩
            · have HP : Hid (pre (SS L) (scan n (SS L) (EE L) k).1 k = none) := hp
              clear hp
              go_wp2_with fail
              go_meet
              case rel => exact ⟨by rw [HP.out]; rfl, _, rfl⟩
          case rest =>
            obtain ⟨rfl, nq2, rfl⟩ := hcut
            cases hb45 : ((pre (SS L) (scan n (SS L) (EE L) k).1 k).isSome && (EE L k || k + 1 == n))
            · have HS : Hid (At (scan n (SS L) (EE L) (k + 1)).1 u6 u7 ∧ (scan n (SS L) (EE L) (k + 1)).2 = (scan n (SS L) (EE L) k).2) := stay_at hpre hb45
              clear hb45
              go_wp2_with fail
              go_roundw
              case rel => exact ⟨k + 1, by omega, by go_num, HS.out.1, by rw [HS.out.2]; exact hrow, drewN_below hbel⟩
              case measure => simp [intOf]; omega
            · obtain ⟨s, rfl, rfl, hs, hS⟩ := close_at hpre hb45
              have HS : Hid (scan n (SS L) (EE L) (k + 1) = (none, (scan n (SS L) (EE L) k).2 ++ [(s, k)])) := hS
              have hsk : s ≤ k := pre_le hs hlt
              clear hb45 hpre hs hS
              go_upto_if 49 with fail
              go_cut [9] from 48 to 49 (fun v w' => v = .int .i64 ((s - 5 : Nat) : Int) ∧ wr.drewN nq2 = w')
              case first =>
                by_cases h5 : s < 5
                · go_wp2_with fail
                  go_meet
                  case rel => exact ⟨by rw [show s - 5 = 0 from by omega]; rfl, rfl⟩
                · go_wp2_with fail
                  go_meet
                  case rel => exact ⟨num_eq (by omega), rfl⟩
              case rest =>
                obtain ⟨rfl, rfl⟩ := hcut
                go_upto_if 55 with fail
                go_cut [10] from 52 to 57 (fun v w' => v = .int .i64 ((hi n k : Nat) : Int) ∧ wr.drewN nq2 = w')
                case first =>
                  by_cases h5 : k + 5 < n
                  · go_wp2_with fail
                    go_meet
                    case rel => exact ⟨num_eq (by unfold hi; omega), rfl⟩
                  · go_wp2_with fail
                    go_meet
                    case rel => exact ⟨num_eq (by unfold hi; omega), rfl⟩
                case rest =>
                  obtain ⟨rfl, rfl⟩ := hcut
                  have hhi : hi n k < n := by unfold hi; omega
                  have hlh : s - 5 ≤ hi n k := by unfold hi; omega
                  go_wp2_with fail
                  go_loopw [11] (fun i wx => ∃ j : Nat, s - 5 ≤ j ∧ j ≤ hi n k + 1 ∧ i = .int .i64 j ∧ wx.rowIs w.heap.size 4 n (half (mark n (scan n (SS L) (EE L) k).2) (s - 5) j) ∧ Below w.heap.size w wx) (fun i _ => hi n k + 1 - (intOf i).toNat)
                  case atStart => exact ⟨s - 5, by omega, by omega, rfl, half_start hrow, drewN_below hbel⟩
                  case round =>
                    clear hrow hbel hcell
                    obtain ⟨j, hj1, hj2, rfl, hrow, hbel⟩ := hrel
                    by_cases hjl : j ≤ hi n k
                    · have hcj := hrow.cell (show j < n by omega)
                      have hfj := hrow.frozen j
                      have R := half_next hj1 hrow
                      have HR : Hid _ := R
                      clear R hrow
                      go_wp2_with fail
                      go_roundw
                      case rel => exact ⟨j + 1, by omega, by omega, by go_num, HR.out, hbel.setCell (Nat.le_refl _) _⟩
                      case measure => simp [intOf]; omega
                    · go_wp2_with fail
                      go_roundw
                      case rel => exact ⟨k + 1, by omega, by go_num, by rw [HS.out]; exact .inr ⟨rfl, rfl, _, rfl⟩, by rw [HS.out]; exact half_end (by omega) hrow, hbel⟩
                      case measure => simp [intOf]; omega
    · have hkn : k = n := by omega
      subst hkn
      clear hat h hlt hk hmk
      have MA := marked k (SS L) (EE L)
      have hml : (runs k (SS L) (EE L)).length ≤ 65536 := by have := runsR_le k (SS L) (EE L) k (Nat.le_refl k); simp only [runs, List.length_reverse]; omega
      have HZ : Hid (∀ e w', ZedN w (runs k (SS L) (EE L)).length (fst (runs k (SS L) (EE L))) (snd (runs k (SS L) (EE L))) e w' → Zed w (runs k (SS L) (EE L)) e w') := fun e w' hh => hh
      generalize mark k (scan k (SS L) (EE L) k).2 = M at hrow MA
      generalize fst (runs k (SS L) (EE L)) = F at MA HZ
      generalize snd (runs k (SS L) (EE L)) = G at MA HZ
      generalize (runs k (SS L) (EE L)).length = m at MA HZ hml
      obtain ⟨i0, hi0, hz0, hz1, hz2⟩ := info_parts info3
      go_wp2
      go_loopw [2, 3, 12] (fun v2 v3 i wx => ∃ t : Nat, t ≤ k ∧ i = .int .i64 t ∧ Run w wx k m F G M v2 v3 t t) (fun _ _ i _ => k - (intOf i).toNat)
      case atStart => exact ⟨0, by omega, rfl, run_start hrow hbel⟩
      case round =>
        clear hrow hbel
        obtain ⟨t, ht, rfl, HRun⟩ := hrel
        by_cases htk : t < k
        · have hct := HRun.row.cell htk
          cases hM : M t
          · have R := run_skip MA HRun hM
            clear HRun
            go_wp2_with fail
            go_roundw
            case rel => exact ⟨t + 1, by omega, by go_num, R⟩
            case measure => simp [intOf]; omega
          · go_upto_region 27 with fail
            go_cut [86] from 77 to 86 (fun v w' => v = .bool (t == 0 || !M (t - 1)) ∧ wr = w')
            case first =>
              by_cases ht0 : t = 0
              · subst ht0
                go_wp2_with fail
                go_meet
                case rel => exact ⟨rfl, rfl⟩
              · have hcp := HRun.row.cell (show t - 1 < k by omega)
                have hte : ((t : Int) == 0) = false := by simp; omega
                have HT : Hid ((t == 0) = false) := by show (t == 0) = false; simpa using ht0
                go_wp2_with fail
                go_meet
                case rel => exact ⟨by rw [HT.out]; rfl, rfl⟩
            case rest =>
              obtain ⟨rfl, rfl⟩ := hcut
              go_upto_if 86 with fail
              go_cut [2] from 86 to 90 (fun v w' => Run w w' k m F G M v u3 (t + 1) t)
              case first =>
                cases hb : (t == 0 || !M (t - 1))
                · have R := run_notfirst MA HRun hb
                  have HR : Hid (Run w wr k m F G M u2 u3 (t + 1) t) := R
                  clear R HRun
                  go_wp2_with fail
                  go_meet
                  case rel => exact HR.out
                · obtain ⟨p, q, h1, h2, h3, h4, h5, h6, h7, h8, h9⟩ := HRun.ex
                  have HX : Hid (p ≤ m ∧ q ≤ m ∧ (∀ i, i < p → F i < t) ∧ (p < m → t ≤ F p) ∧ (∀ i, i < q → G i < t) ∧ (q < m → t ≤ G q)) := ⟨h1, h2, h6, h7, h8, h9⟩
                  clear h6 h7 h8 h9
                  go_wp2_with (at_builtin; refine wpList_append_own_at _ rfl _ _ 25 rfl (w.heap.size + 1) 3 i0 (.int .i64 0) 1 8 Try.underlying25 hi0 hz0 hz1 hz2 rfl (by decide) _ _ _ rfl (h3.alloc _) ⟨wr.heap.size, 0, none⟩ 1 1 [.int .i64 (t : Int)] rfl rfl ?c1 ?c2 ?c3 ?c4 ?c5 ?_)
                  case c1 => exact one_new _ _
                  case c2 => exact one_one _
                  case c3 => unfold maxLen; omega
                  case c4 => omega
                  case c5 => have := HRun.big; simp; omega
                  · intro v' w1 hown' hgrow _ hblk
                    have R := run_first MA HRun hb hM HX.out h3 h4 h5 hown' hgrow hblk
                    have HR : Hid (Run w w1 k m F G M v' u3 (t + 1) t) := R
                    clear R HRun hown' hgrow hblk h3 h4 h5 hct
                    go_wp2_with fail
                    go_meet
                    case rel => exact HR.out
              case rest =>
                clear HRun hct
                have HRun := hcut
                clear hcut
                go_upto_region 29 with fail
                go_cut [102] from 91 to 102 (fun v w' => v = .bool (t + 1 == k || !M (t + 1)) ∧ wc = w')
                case first =>
                  by_cases ht1 : t + 1 = k
                  · have hte : ((t : Int) == (k : Int) - 1) = true := by simp; omega
                    have HT : Hid ((t + 1 == k) = true) := by show (t + 1 == k) = true; simpa using ht1
                    go_wp2_with fail
                    go_meet
                    case rel => exact ⟨by rw [HT.out]; rfl, rfl⟩
                  · have hcp := HRun.row.cell (show t + 1 < k by omega)
                    have hte : ((t : Int) == (k : Int) - 1) = false := by simp; omega
                    have hl1 : t + 1 < k := by omega
                    have HT : Hid ((t + 1 == k) = false) := by show (t + 1 == k) = false; simpa using ht1
                    go_wp2_with fail
                    go_meet
                    case rel => exact ⟨by rw [HT.out]; rfl, rfl⟩
                case rest =>
                  obtain ⟨rfl, rfl⟩ := hcut
                  cases hb : (t + 1 == k || !M (t + 1))
                  · have R := run_notlast MA HRun hb
                    have HR : Hid (Run w wc k m F G M u2 u3 (t + 1) (t + 1)) := R
                    clear R HRun
                    go_wp2_with fail
                    go_roundw
                    case rel => exact ⟨t + 1, by omega, by go_num, HR.out⟩
                    case measure => simp [intOf]; omega
                  · obtain ⟨p, q, h1, h2, h3, h4, h5, h6, h7, h8, h9⟩ := HRun.ex
                    have HX : Hid (p ≤ m ∧ q ≤ m ∧ (∀ i, i < p → F i < t + 1) ∧ (p < m → t + 1 ≤ F p) ∧ (∀ i, i < q → G i < t) ∧ (q < m → t ≤ G q)) := ⟨h1, h2, h6, h7, h8, h9⟩
                    clear h6 h7 h8 h9
                    go_wp2_with (at_builtin; refine wpList_append_own_at _ rfl _ _ 25 rfl (w.heap.size + 1) 3 i0 (.int .i64 0) 1 8 Try.underlying25 hi0 hz0 hz1 hz2 rfl (by decide) _ _ _ rfl (h4.alloc _) ⟨wc.heap.size, 0, none⟩ 1 1 [.int .i64 (t : Int)] rfl rfl ?d1 ?d2 ?d3 ?d4 ?d5 ?_)
                    case d1 => exact one_new _ _
                    case d2 => exact one_one _
                    case d3 => unfold maxLen; omega
                    case d4 => omega
                    case d5 => have := HRun.big; simp; omega
                    · intro v' w1 hown' hgrow _ hblk
                      have R := run_last MA HRun hb hM HX.out h3 h4 h5 hown' hgrow hblk
                      have HR : Hid (Run w w1 k m F G M u2 v' (t + 1) (t + 1)) := R
                      clear R HRun hown' hgrow hblk h3 h4 h5
                      go_wp2_with fail
                      go_roundw
                      case rel => exact ⟨t + 1, by omega, by go_num, HR.out⟩
                      case measure => simp [intOf]; omega
        · have hfin := run_end MA HRun (by omega)
          obtain ⟨a1, c1, a2, c2, rfl, rfl, hfin⟩ := hfin
          clear HRun
          go_wp2_with fail
          go_ret2
          exact HZ.out _ _ hfin
end Go.Proofs.Qxb6602367a.Exc
