/- aacGASpecific: what it does, by a plain function. -/
import Derived.Test.Qxb6001091aBitsA
namespace Go.Proofs.Qxb6001091a.Bits
open Go.RowKit

/-- an AACConfig's cells -/
def cfgCells (ot rate ch fs : Int) (sbr ps : Bool) (i : Nat) : Value :=
  if i = 0 then .int .i64 ot else if i = 1 then .int .i64 rate else if i = 2 then .int .i64 ch else if i = 3 then .int .i64 fs else if i = 4 then .bool sbr else .bool ps
/-- the reader at rb and the config at cb, all below B as it was -/
structure Aac (B : Nat) (w0 w : World) (rb cb : Nat) (a : Option Addr) (n c : Nat) (D : Nat → Nat) (ot rate ch fs : Int) (sbr ps : Bool) (p : Nat) (s : Bool) : Prop where
  rd : Rd w rb a n c p s
  cfg : w.rowIs cb 48 6 (cfgCells ot rate ch fs sbr ps)
  byt : Bytes w a n D
  bel : Below B w0 w
  pos : p ≤ 8 * n

theorem cfg_set {w : World} {cb : Nat} {ot rate ch fs fs' : Int} {sbr ps : Bool} (h : w.rowIs cb 48 6 (cfgCells ot rate ch fs sbr ps)) : (w.setCell ⟨cb, 3, none⟩ (.int .i64 fs')).rowIs cb 48 6 (cfgCells ot rate ch fs' sbr ps) := by
  refine (h.set 3 _).congr (fun i hi => ?_)
  unfold cfgCells
  by_cases e : i = 3
  · subst e; simp
  · rw [if_neg e]
    by_cases e0 : i = 0
    · simp [e0]
    · by_cases e1 : i = 1
      · simp [e1]
      · by_cases e2 : i = 2
        · simp [e2]
        · simp [e0, e1, e2, e]

theorem rdPos_le (T p k : Nat) : rdPos T p k ≤ T := by unfold rdPos; split <;> omega

/-- one more read -/
theorem Aac.read {B : Nat} {w0 w w' : World} {rb cb : Nat} {a : Option Addr} {n c : Nat} {D : Nat → Nat} {ot rate ch fs : Int} {sbr ps : Bool} {p k : Nat} {s : Bool} (hB : B ≤ rb) (hne : cb ≠ rb) (hab : ∀ x, a = some x → x.block < rb)
    (h : Aac B w0 w rb cb a n c D ot rate ch fs sbr ps p s) (hR : Rd w' rb a n c (rdPos (8 * n) p k) (rdSh (8 * n) p k s)) (hT : Touch rb w w') :
    Aac B w0 w' rb cb a n c D ot rate ch fs sbr ps (rdPos (8 * n) p k) (rdSh (8 * n) p k s) := by
  refine ⟨hR, h.cfg.of_block (hT.block cb hne), ?_, h.bel.trans (hT.below hB), rdPos_le _ _ _⟩
  rcases h.byt with h0 | ⟨b, off, h1, h2, h3⟩
  · exact .inl h0
  · exact .inr ⟨b, off, h1, by rw [hT.size]; exact h2, fun i hi => by rw [hT.cell (p := ⟨b, off + i, none⟩) (by have := hab _ h1; simp at this ⊢; omega)]; exact h3 i hi⟩
/-- FrameSamples written -/
theorem Aac.fs {B : Nat} {w0 w : World} {rb cb : Nat} {a : Option Addr} {n c : Nat} {D : Nat → Nat} {ot rate ch fs fs' : Int} {sbr ps : Bool} {p : Nat} {s : Bool} (hB : B ≤ cb) (hne : cb ≠ rb) (hab : ∀ x, a = some x → x.block < cb)
    (h : Aac B w0 w rb cb a n c D ot rate ch fs sbr ps p s) : Aac B w0 (w.setCell ⟨cb, 3, none⟩ (.int .i64 fs')) rb cb a n c D ot rate ch fs' sbr ps p s := by
  refine ⟨World.rowIs.setOther h.rd (by simpa using fun e => hne e.symm) _, cfg_set h.cfg, ?_, h.bel.setCell hB _, h.pos⟩
  rcases h.byt with h0 | ⟨b, off, h1, h2, h3⟩
  · exact .inl h0
  · have hT : Touch cb w (w.setCell ⟨cb, 3, none⟩ (.int .i64 fs')) := (Touch.refl cb w).setCell _
    exact .inr ⟨b, off, h1, by simpa using h2, fun i hi => by rw [hT.cell (p := ⟨b, off + i, none⟩) (by have := hab _ h1; simp at this ⊢; omega)]; exact h3 i hi⟩

/-- the plain function: where the reader stands, and whether a read fell short, behind aacGASpecific -/
def mid (D : Nat → Nat) (T p : Nat) (s : Bool) : Nat × Bool :=
  if rdVal D T p 1 = 1 then (rdPos T (rdPos T p 1) 14, rdSh T (rdPos T p 1) 14 (rdSh T p 1 s)) else (rdPos T p 1, rdSh T p 1 s)
def fin (D : Nat → Nat) (T : Nat) (ch : Int) (p : Nat) (s : Bool) : Nat × Bool :=
  if ch ≠ 0 ∧ rdVal D T p 1 = 1 then (rdPos T (rdPos T p 1) 1, rdSh T (rdPos T p 1) 1 (rdSh T p 1 s)) else (rdPos T p 1, rdSh T p 1 s)
def aac (D : Nat → Nat) (T : Nat) (ch : Int) (p : Nat) (s : Bool) : Nat × Bool :=
  fin D T ch (mid D T (rdPos T p 1) (rdSh T p 1 s)).1 (mid D T (rdPos T p 1) (rdSh T p 1 s)).2
def frame (D : Nat → Nat) (T p : Nat) : Int := if rdVal D T p 1 = 1 then 960 else 1024

set_option maxHeartbeats 1000000 in
/-- aacGASpecific -/
theorem aac37 (B rb cb : Nat) (a : Option Addr) (n c p : Nat) (s : Bool) (D : Nat → Nat) (ot rate ch fs : Int) (sbr ps : Bool) (w0 w : World) (hn : n ≤ 16777216) (hD : ∀ i, D i < 256)
    (hcb : B ≤ cb) (hrb : cb < rb) (hab : ∀ x, a = some x → x.block < cb) (h : Aac B w0 w rb cb a n c D ot rate ch fs sbr ps p s) :
    Calls Try.prog 37 #[.pointer (some ⟨rb, 0, none⟩), .pointer (some ⟨cb, 0, none⟩)] w fun e w' => e = .returned (.tuple #[]) ∧
      Aac B w0 w' rb cb a n c D ot rate ch (frame D (8 * n) p) sbr ps (aac D (8 * n) ch p s).1 (aac D (8 * n) ch p s).2 := by
  have hab' : ∀ x, a = some x → x.block < rb := fun x hx => by have := hab x hx; omega
  have hBr : B ≤ rb := by omega
  have hne : cb ≠ rb := by omega
  have HA := And.intro hab hab'
  have k3 := h.cfg.cell (i := 3) (by omega)
  have f3 := h.cfg.frozen 3
  have h1 : Aac B w0 (w.setCell ⟨cb, 3, none⟩ (.int .i64 1024)) rb cb a n c D ot rate ch 1024 sbr ps p s := h.fs hcb hne hab
  clear HA
  have HAB : Hid (∀ x, a = some x → x.block < cb) := hab
  have HAB' : Hid (∀ x, a = some x → x.block < rb) := hab'
  clear hab hab'
  go_enter Try.func37, Try.ntmps37
  go_wp2_with fail
  refine (read39 rb a n c p 1 s D _ hn (by omega) h1.pos hD h1.rd h1.byt HAB'.out).mono ?_
  rintro e w1 ⟨rfl, hR, hT⟩
  have h2 := h1.read hBr hne HAB'.out hR hT
  clear h h1 hR hT k3 f3
  go_upto_if 10 with fail
  go_cut [] from 9 to 13 (fun w' => Aac B w0 w' rb cb a n c D ot rate ch (frame D (8 * n) p) sbr ps (rdPos (8 * n) p 1) (rdSh (8 * n) p 1 s))
  case first =>
    by_cases hv : rdVal D (8 * n) p 1 = 1
    · have k3 := h2.cfg.cell (i := 3) (by omega)
      have f3 := h2.cfg.frozen 3
      have h3 : Aac B w0 (w1.setCell ⟨cb, 3, none⟩ (.int .i64 960)) rb cb a n c D ot rate ch (frame D (8 * n) p) sbr ps (rdPos (8 * n) p 1) (rdSh (8 * n) p 1 s) := by
        rw [show frame D (8 * n) p = 960 from by unfold frame; rw [if_pos hv]]; exact h2.fs hcb hne HAB.out
      have H3 : Hid _ := h3
      clear h3 h2
      go_wp2_with fail
      go_meet
      case rel => exact H3.out
    · have h3 : Aac B w0 w1 rb cb a n c D ot rate ch (frame D (8 * n) p) sbr ps (rdPos (8 * n) p 1) (rdSh (8 * n) p 1 s) := by
        rw [show frame D (8 * n) p = 1024 from by unfold frame; rw [if_neg hv]]; exact h2
      have H3 : Hid _ := h3
      have hv' : ((rdVal D (8 * n) p 1 : Int) == 1) = false := by simp; omega
      clear h3 h2
      go_wp2_with fail
      go_meet
      case rel => exact H3.out
  case rest =>
    clear h2
    have h2 := hcut
    clear hcut
    obtain ⟨fs', HF⟩ : ∃ x, Hid (frame D (8 * n) p = x) := ⟨_, rfl⟩
    obtain ⟨p1, HP1⟩ : ∃ x, Hid (rdPos (8 * n) p 1 = x) := ⟨_, rfl⟩
    obtain ⟨s1, HS1⟩ : ∃ x, Hid (rdSh (8 * n) p 1 s = x) := ⟨_, rfl⟩
    rw [HF.out, HP1.out, HS1.out] at h2
    have HE : Hid (∀ w', Aac B w0 w' rb cb a n c D ot rate ch fs' sbr ps (fin D (8 * n) ch (mid D (8 * n) p1 s1).1 (mid D (8 * n) p1 s1).2).1 (fin D (8 * n) ch (mid D (8 * n) p1 s1).1 (mid D (8 * n) p1 s1).2).2 →
        Aac B w0 w' rb cb a n c D ot rate ch (frame D (8 * n) p) sbr ps (aac D (8 * n) ch p s).1 (aac D (8 * n) ch p s).2) := by
      intro w' hh
      unfold aac
      rw [HF.out, HP1.out, HS1.out]
      exact hh
    clear HF HP1 HS1
    go_wp2_with fail
    refine (read39 rb a n c p1 1 s1 D _ hn (by omega) h2.pos hD h2.rd h2.byt HAB'.out).mono ?_
    rintro e w2 ⟨rfl, hR, hT⟩
    have h3 := h2.read hBr hne HAB'.out hR hT
    clear h2 hR hT
    go_upto_if 16 with fail
    go_cut [] from 15 to 18 (fun w' => Aac B w0 w' rb cb a n c D ot rate ch fs' sbr ps (mid D (8 * n) p1 s1).1 (mid D (8 * n) p1 s1).2)
    case first =>
      by_cases hv : rdVal D (8 * n) p1 1 = 1
      · have HM : Hid (mid D (8 * n) p1 s1 = (rdPos (8 * n) (rdPos (8 * n) p1 1) 14, rdSh (8 * n) (rdPos (8 * n) p1 1) 14 (rdSh (8 * n) p1 1 s1))) := by
          show mid D (8 * n) p1 s1 = _
          unfold mid; rw [if_pos hv]
        go_wp2_with fail
        refine (read39 rb a n c _ 14 _ D _ hn (by omega) h3.pos hD h3.rd h3.byt HAB'.out).mono ?_
        rintro e w3 ⟨rfl, hR, hT⟩
        have h4 := h3.read hBr hne HAB'.out hR hT
        clear h3 hR hT
        go_wp2_with fail
        go_meet
        case rel => rw [HM.out]; exact h4
      · have HM : Hid (mid D (8 * n) p1 s1 = (rdPos (8 * n) p1 1, rdSh (8 * n) p1 1 s1)) := by
          show mid D (8 * n) p1 s1 = _
          unfold mid; rw [if_neg hv]
        have hv' : ((rdVal D (8 * n) p1 1 : Int) == 1) = false := by simp; omega
        go_wp2_with fail
        go_meet
        case rel => rw [HM.out]; exact h3
    case rest =>
      clear h3
      have h3 := hcut
      clear hcut
      generalize (mid D (8 * n) p1 s1).1 = p2 at h3 HE
      generalize (mid D (8 * n) p1 s1).2 = s2 at h3 HE
      go_wp2_with fail
      refine (read39 rb a n c p2 1 s2 D _ hn (by omega) h3.pos hD h3.rd h3.byt HAB'.out).mono ?_
      rintro e w3 ⟨rfl, hR, hT⟩
      have h4 := h3.read hBr hne HAB'.out hR hT
      clear h3 hR hT
      have k2 := h4.cfg.cell (i := 2) (by omega)
      have k2' : w3.cell? ⟨cb, 2, none⟩ = some (.int .i64 ch) := k2
      clear k2
      by_cases hc0 : ch = 0
      · have HM : Hid (fin D (8 * n) ch p2 s2 = (rdPos (8 * n) p2 1, rdSh (8 * n) p2 1 s2)) := by
          show fin D (8 * n) ch p2 s2 = _
          unfold fin; rw [if_neg (fun hh => hh.1 hc0)]
        have hce : (ch == 0) = true := by simpa using hc0
        clear hc0
        go_wp2_with fail
        exact bodyPost_ret (v := .tuple #[]) (by simp [results, Try.results37]) rfl ⟨rfl, HE.out _ (by rw [HM.out]; exact h4)⟩
      · have hce : (ch == 0) = false := by simpa using hc0
        by_cases hv : rdVal D (8 * n) p2 1 = 1
        · have HM : Hid (fin D (8 * n) ch p2 s2 = (rdPos (8 * n) (rdPos (8 * n) p2 1) 1, rdSh (8 * n) (rdPos (8 * n) p2 1) 1 (rdSh (8 * n) p2 1 s2))) := by
            show fin D (8 * n) ch p2 s2 = _
            unfold fin; rw [if_pos ⟨hc0, hv⟩]
          clear hc0
          go_wp2_with fail
          refine (read39 rb a n c _ 1 _ D _ hn (by omega) h4.pos hD h4.rd h4.byt HAB'.out).mono ?_
          rintro e w4 ⟨rfl, hR, hT⟩
          have h5 := h4.read hBr hne HAB'.out hR hT
          clear h4 hR hT
          go_wp2_with fail
          go_end0
          exact ⟨rfl, HE.out _ (by rw [HM.out]; exact h5)⟩
        · have HM : Hid (fin D (8 * n) ch p2 s2 = (rdPos (8 * n) p2 1, rdSh (8 * n) p2 1 s2)) := by
            show fin D (8 * n) ch p2 s2 = _
            unfold fin; rw [if_neg (fun hh => hv hh.2)]
          have hv' : ((rdVal D (8 * n) p2 1 : Int) == 1) = false := by simp; omega
          clear hc0
          go_wp2_with fail
          go_end0
          exact ⟨rfl, HE.out _ (by rw [HM.out]; exact h4)⟩
end Go.Proofs.Qxb6001091a.Bits
