import Derived.Test.Qxb6605758aFmtErr
namespace Go.Proofs.Qxb6605758aFmt
open Go.RowKit

/-- A blank. -/
def Bl (c : Int) : Prop := c = 32 ∨ c = 9 ∨ c = 13 ∨ c = 12

/-- No blank and no comment begins here. -/
def Stop (zs : List Int) (i : Nat) : Prop := ¬ Bl (ch zs i) ∧ ¬ (ch zs i = 47 ∧ (ch zs (i + 1) = 47 ∨ ch zs (i + 1) = 42))

/-- In the comment from i up to j: no end of the text, no closer. -/
def Open2 (zs : List Int) (i j : Nat) : Prop := ∀ k, i + 2 ≤ k → k < j → ch zs k ≠ -1 ∧ ¬ (ch zs k = 42 ∧ ch zs (k + 1) = 47)

/-- The run of blanks and comments from i, in at most n items: it ends at e; u: where the comment begins that is never closed. -/
def RunN (zs : List Int) : Nat → Nat → Nat → Option Nat → Prop
  | 0, _, _, _ => False
  | n + 1, i, e, u => (Stop zs i ∧ e = i ∧ u = none) ∨ (Bl (ch zs i) ∧ RunN zs n (i + 1) e u) ∨ (∃ m, ch zs i = 47 ∧ ch zs (i + 1) = 47 ∧ Lined zs i m ∧ RunN zs n (i + m) e u) ∨
    (∃ j, ch zs i = 47 ∧ ch zs (i + 1) = 42 ∧ i + 2 ≤ j ∧ Open2 zs i j ∧ ch zs j = 42 ∧ ch zs (j + 1) = 47 ∧ RunN zs n (j + 2) e u) ∨
    (ch zs i = 47 ∧ ch zs (i + 1) = 42 ∧ i + 2 ≤ e ∧ Open2 zs i e ∧ ch zs e = -1 ∧ u = some i)

/-- The run from i ends at e; u: where the comment begins that is never closed. -/
def Run (zs : List Int) (i e : Nat) (u : Option Nat) : Prop := ∃ n, RunN zs n i e u

theorem Run.stop {zs : List Int} (i : Nat) (h : Stop zs i) : Run zs i i none := ⟨1, .inl ⟨h, rfl, rfl⟩⟩
theorem Run.blank {zs : List Int} (i e : Nat) (u : Option Nat) (h : Bl (ch zs i)) (r : Run zs (i + 1) e u) : Run zs i e u := by
  obtain ⟨n, r⟩ := r
  exact ⟨n + 1, .inr (.inl ⟨h, r⟩)⟩
theorem Run.line {zs : List Int} (i m e : Nat) (u : Option Nat) (h : ch zs i = 47) (h' : ch zs (i + 1) = 47) (hl : Lined zs i m) (r : Run zs (i + m) e u) : Run zs i e u := by
  obtain ⟨n, r⟩ := r
  exact ⟨n + 1, .inr (.inr (.inl ⟨m, h, h', hl, r⟩))⟩
theorem Run.closed {zs : List Int} (i j e : Nat) (u : Option Nat) (h : ch zs i = 47) (h' : ch zs (i + 1) = 42) (hj : i + 2 ≤ j) (ho : Open2 zs i j) (hc : ch zs j = 42) (hc' : ch zs (j + 1) = 47) (r : Run zs (j + 2) e u) : Run zs i e u := by
  obtain ⟨n, r⟩ := r
  exact ⟨n + 1, .inr (.inr (.inr (.inl ⟨j, h, h', hj, ho, hc, hc', r⟩)))⟩
theorem Run.unclosed {zs : List Int} (i j : Nat) (h : ch zs i = 47) (h' : ch zs (i + 1) = 42) (hj : i + 2 ≤ j) (ho : Open2 zs i j) (hc : ch zs j = -1) : Run zs i j (some i) :=
  ⟨1, .inr (.inr (.inr (.inr ⟨h, h', hj, ho, hc, rfl⟩)))⟩

/-- The five ways of a run. -/
theorem Run.ways {zs : List Int} {i e : Nat} {u : Option Nat} (r : Run zs i e u) : (Stop zs i ∧ e = i ∧ u = none) ∨ (Bl (ch zs i) ∧ Run zs (i + 1) e u) ∨ (∃ m, ch zs i = 47 ∧ ch zs (i + 1) = 47 ∧ Lined zs i m ∧ Run zs (i + m) e u) ∨
    (∃ j, ch zs i = 47 ∧ ch zs (i + 1) = 42 ∧ i + 2 ≤ j ∧ Open2 zs i j ∧ ch zs j = 42 ∧ ch zs (j + 1) = 47 ∧ Run zs (j + 2) e u) ∨
    (ch zs i = 47 ∧ ch zs (i + 1) = 42 ∧ i + 2 ≤ e ∧ Open2 zs i e ∧ ch zs e = -1 ∧ u = some i) := by
  obtain ⟨n, r⟩ := r
  cases n with
  | zero => cases r
  | succ n =>
    rcases r with h | ⟨h, r⟩ | ⟨m, h, h', hl, r⟩ | ⟨j, h, h', hj, ho, hc, hc', r⟩ | h
    · exact .inl h
    · exact .inr (.inl ⟨h, n, r⟩)
    · exact .inr (.inr (.inl ⟨m, h, h', hl, n, r⟩))
    · exact .inr (.inr (.inr (.inl ⟨j, h, h', hj, ho, hc, hc', n, r⟩)))
    · exact .inr (.inr (.inr (.inr h)))

/-- What each way keeps holds of every run. -/
theorem Run.ind {zs : List Int} {P : Nat → Nat → Option Nat → Prop} (h1 : ∀ i, Stop zs i → P i i none) (h2 : ∀ i e u, Bl (ch zs i) → P (i + 1) e u → P i e u)
    (h3 : ∀ i m e u, ch zs i = 47 → ch zs (i + 1) = 47 → Lined zs i m → P (i + m) e u → P i e u)
    (h4 : ∀ i j e u, ch zs i = 47 → ch zs (i + 1) = 42 → i + 2 ≤ j → Open2 zs i j → ch zs j = 42 → ch zs (j + 1) = 47 → P (j + 2) e u → P i e u)
    (h5 : ∀ i e, ch zs i = 47 → ch zs (i + 1) = 42 → i + 2 ≤ e → Open2 zs i e → ch zs e = -1 → P i e (some i)) {i e : Nat} {u : Option Nat} (r : Run zs i e u) : P i e u := by
  obtain ⟨n, r⟩ := r
  induction n generalizing i with
  | zero => cases r
  | succ n ih =>
    rcases r with ⟨h, rfl, rfl⟩ | ⟨h, r⟩ | ⟨m, h, h', hl, r⟩ | ⟨j, h, h', hj, ho, hc, hc', r⟩ | ⟨h, h', hj, ho, hc, rfl⟩
    · exact h1 _ h
    · exact h2 _ _ _ h (ih r)
    · exact h3 _ _ _ _ h h' hl (ih r)
    · exact h4 _ _ _ _ h h' hj ho hc hc' (ih r)
    · exact h5 _ _ h h' hj ho hc

theorem Run.of_stop {zs : List Int} {i e : Nat} {u : Option Nat} (hs : Stop zs i) (r : Run zs i e u) : e = i ∧ u = none := by
  rcases r.ways with ⟨_, h1, h2⟩ | ⟨h, _⟩ | ⟨m, h, h', _⟩ | ⟨j, h, h', _⟩ | ⟨h, h', _⟩
  · exact ⟨h1, h2⟩
  · exact absurd h hs.1
  · exact absurd ⟨h, .inl h'⟩ hs.2
  · exact absurd ⟨h, .inr h'⟩ hs.2
  · exact absurd ⟨h, .inr h'⟩ hs.2

theorem not_bl47 {c : Int} (h : c = 47) : ¬ Bl c := by unfold Bl; omega

theorem lined_one {zs : List Int} {i n n' : Nat} (hl : Lined zs i n) (hl' : Lined zs i n') : n = n' := by
  rcases Nat.lt_trichotomy n n' with hlt | heq | hgt
  · have := hl'.2.1 (i + n) (by omega) (by omega)
    rcases hl.2.2 with h1 | h1
    · exact absurd h1 this.1
    · exact absurd h1 this.2
  · exact heq
  · have := hl.2.1 (i + n') (by omega) (by omega)
    rcases hl'.2.2 with h1 | h1
    · exact absurd h1 this.1
    · exact absurd h1 this.2

/-- The run is one. -/
theorem Run.one {zs : List Int} {i e : Nat} {u : Option Nat} (r : Run zs i e u) : ∀ {e' : Nat} {u' : Option Nat}, Run zs i e' u' → e = e' ∧ u = u' := by
  refine Run.ind (P := fun i e u => ∀ {e' : Nat} {u' : Option Nat}, Run zs i e' u' → e = e' ∧ u = u') ?_ ?_ ?_ ?_ ?_ r
  · intro i h e' u' r'
    obtain ⟨rfl, rfl⟩ := r'.of_stop h
    exact ⟨rfl, rfl⟩
  · intro i e u h ih e' u' r'
    rcases r'.ways with ⟨hs, _⟩ | ⟨_, r⟩ | ⟨m, h0, _⟩ | ⟨j, h0, _⟩ | ⟨h0, _⟩
    · exact absurd h hs.1
    · exact ih r
    · exact absurd h (not_bl47 h0)
    · exact absurd h (not_bl47 h0)
    · exact absurd h (not_bl47 h0)
  · intro i n e u h h' hl ih e' u' r'
    rcases r'.ways with ⟨hs, _⟩ | ⟨h0, _⟩ | ⟨m, _, _, hl', r⟩ | ⟨j, _, h0', _⟩ | ⟨_, h0', _⟩
    · exact absurd ⟨h, .inl h'⟩ hs.2
    · exact absurd h0 (not_bl47 h)
    · obtain rfl := lined_one hl hl'
      exact ih r
    · rw [h'] at h0'; cases h0'
    · rw [h'] at h0'; cases h0'
  · intro i j e u h h' hj ho hc hc' ih e' u' r'
    rcases r'.ways with ⟨hs, _⟩ | ⟨h0, _⟩ | ⟨m, _, h0', _⟩ | ⟨j', _, _, hj', ho', hd, hd', r⟩ | ⟨_, _, hj', ho', hd, _⟩
    · exact absurd ⟨h, .inr h'⟩ hs.2
    · exact absurd h0 (not_bl47 h)
    · rw [h'] at h0'; cases h0'
    · have : j = j' := by
        rcases Nat.lt_trichotomy j j' with hlt | heq | hgt
        · exact absurd ⟨hc, hc'⟩ (ho' j hj hlt).2
        · exact heq
        · exact absurd ⟨hd, hd'⟩ (ho j' hj' hgt).2
      subst this
      exact ih r
    · rcases Nat.lt_trichotomy j e' with hlt | heq | hgt
      · exact absurd ⟨hc, hc'⟩ (ho' j hj hlt).2
      · subst heq; rw [hc] at hd; cases hd
      · exact absurd hd (ho e' hj' hgt).1
  · intro i j h h' hj ho hc e' u' r'
    rcases r'.ways with ⟨hs, _⟩ | ⟨h0, _⟩ | ⟨m, _, h0', _⟩ | ⟨j', _, _, hj', ho', hd, hd', r⟩ | ⟨_, _, hj', ho', hd, hu⟩
    · exact absurd ⟨h, .inr h'⟩ hs.2
    · exact absurd h0 (not_bl47 h)
    · rw [h'] at h0'; cases h0'
    · rcases Nat.lt_trichotomy j j' with hlt | heq | hgt
      · exact absurd hc (ho' j hj hlt).1
      · subst heq; rw [hc] at hd; cases hd
      · exact absurd ⟨hd, hd'⟩ (ho j' hj' hgt).2
    · rcases Nat.lt_trichotomy j e' with hlt | heq | hgt
      · exact absurd hc (ho' j hj hlt).1
      · exact ⟨heq, hu.symm⟩
      · exact absurd hd (ho e' hj' hgt).1

/-- Line and column at cu, reckoned from off. -/
def plT (zs : List Int) (off cu : Nat) (lc : Int × Int) : Int × Int := places zs off (cu - off) lc

theorem plT_self (zs : List Int) (off : Nat) (lc : Int × Int) : plT zs off off lc = lc := by unfold plT; rw [Nat.sub_self]; rfl
theorem plT_add {zs : List Int} {off cu : Nat} (h : off ≤ cu) (n : Nat) (lc : Int × Int) : plT zs off (cu + n) lc = places zs cu n (plT zs off cu lc) := by
  unfold plT
  rw [show cu + n - off = (cu - off) + n by omega, places_add, show off + (cu - off) = cu by omega]

/-- The lexer has come from off to cu. -/
def Sk (w wr : World) (p : Nat) (ao : Option Addr) (cap : Nat) (zs : List Int) (off cu : Nat) (lc : Int × Int) (pv : Value) (cs : Bool) : Prop :=
  off ≤ cu ∧ cu ≤ zs.length ∧ Lx wr p ao cap zs cu (plT zs off cu lc).1 (plT zs off cu lc).2 pv cs ∧ Below p w wr

theorem Sk.drewN {w wr : World} {p : Nat} {ao : Option Addr} {cap : Nat} {zs : List Int} {off cu : Nat} {lc : Int × Int} {pv : Value} {cs : Bool} (h : Sk w wr p ao cap zs off cu lc pv cs) (m : Nat) : Sk w (wr.drewN m) p ao cap zs off cu lc pv cs :=
  ⟨h.1, h.2.1, h.2.2.1.drewN m, below_drewN h.2.2.2 m⟩
theorem Sk.adv {w wr w' : World} {p : Nat} {ao : Option Addr} {cap : Nat} {zs : List Int} {off cu : Nat} {lc : Int × Int} {pv : Value} {cs : Bool} (h : Sk w wr p ao cap zs off cu lc pv cs) (hlt : cu < zs.length)
    (hl : Lx w' p ao cap zs (cu + 1) (Qxb6605758aFmt.adv (ch zs cu) ((plT zs off cu lc).1, (plT zs off cu lc).2)).1 (Qxb6605758aFmt.adv (ch zs cu) ((plT zs off cu lc).1, (plT zs off cu lc).2)).2 pv cs) (ho : Only p wr w') : Sk w w' p ao cap zs off (cu + 1) lc pv cs := by
  refine ⟨Nat.le_succ_of_le h.1, hlt, ?_, h.2.2.2.trans ho.1⟩
  rw [plT_add h.1 1]
  exact hl
theorem Sk.skip {w wr w' : World} {p : Nat} {ao : Option Addr} {cap : Nat} {zs : List Int} {off cu n : Nat} {lc : Int × Int} {pv : Value} {cs : Bool} (h : Sk w wr p ao cap zs off cu lc pv cs) (hlt : cu + n ≤ zs.length)
    (hl : At wr w' p ao cap zs cu n ((plT zs off cu lc).1, (plT zs off cu lc).2) pv cs) : Sk w w' p ao cap zs off (cu + n) lc pv cs := by
  refine ⟨Nat.le_trans h.1 (Nat.le_add_right _ _), hlt, ?_, h.2.2.2.trans hl.2.1⟩
  rw [plT_add h.1 n]
  exact hl.1
theorem Sk.keep {w wr w' : World} {p : Nat} {ao : Option Addr} {cap : Nat} {zs : List Int} {off cu : Nat} {lc : Int × Int} {pv : Value} {cs : Bool} (h : Sk w wr p ao cap zs off cu lc pv cs) (hb : Below (p + 1) wr w') : Sk w w' p ao cap zs off cu lc pv cs :=
  ⟨h.1, h.2.1, h.2.2.1.keep hb, h.2.2.2.trans (hb.mono (Nat.le_succ p))⟩

end Go.Proofs.Qxb6605758aFmt
