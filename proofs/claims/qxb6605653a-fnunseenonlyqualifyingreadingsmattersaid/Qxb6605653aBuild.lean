import Derived.Test.Qxb6605653aLat
namespace Go.Proofs.Qxb6605653a
open Go.RowKit

/-- The ten cells of pgstore's reading. -/
def Rd.tvals (r : Rd) : List Value := [.int .i64 r.q, .int .i64 r.o, .int .i64 r.x, .int .u64 (r.b % 1000000000), .int .i64 (r.b / 1000000000), .pointer none, .int .i64 r.l, .int .u64 (r.a % 1000000000), .int .i64 (r.a / 1000000000), .pointer none]

def flat (xs : List Rd) : List Value := xs.flatMap Rd.tvals

theorem flat_length : ∀ xs : List Rd, (flat xs).length = xs.length * 10
  | [] => rfl
  | r :: xs => by
    have := flat_length xs
    simp only [flat, List.flatMap_cons, List.length_append, List.length_cons] at this ⊢
    rw [this]
    simp [Rd.tvals]; omega

theorem flat_append (xs : List Rd) (r : Rd) : flat (xs ++ [r]) = flat xs ++ r.tvals := by simp [flat]

theorem flat_at : ∀ (xs : List Rd) (k : Nat) (r : Rd) (j : Nat), xs[k]? = some r → j < 10 → (flat xs)[k * 10 + j]? = r.tvals[j]?
  | [], k, r, j, h, _ => by simp at h
  | x :: xs, 0, r, j, h, hj => by
    simp at h
    subst h
    have e : flat (x :: xs) = x.tvals ++ flat xs := by simp [flat]
    rw [e, Nat.zero_mul, Nat.zero_add, List.getElem?_append_left (by simpa [Rd.tvals] using hj)]
  | x :: xs, k + 1, r, j, h, hj => by
    have e : flat (x :: xs) = x.tvals ++ flat xs := by simp [flat]
    have el : x.tvals.length = 10 := rfl
    simp at h
    rw [e, List.getElem?_append_right (by rw [el]; omega), el, show (k + 1) * 10 + j - 10 = k * 10 + j from by omega]
    exact flat_at xs k r j h hj

theorem Try.info42 : (Try.prog.info? 42).map (fun i => (i.zero, i.size, i.bytes)) = some (some (.agg #[.int .i64 0, .int .i64 0, .int .i64 0, .int .u64 0, .int .i64 0, .pointer none, .int .i64 0, .int .u64 0, .int .i64 0, .pointer none]), 10, 80) := by kernel_rfl

/-- The value v holds pgstore's readings of ys in memory of the call's own. -/
def TOut (w0 W : World) (v : Value) (ys : List Rd) : Prop := W.ownsRow w0.heap.size 42 10 v ys.length (flat ys) ∧ v ≠ .slice none 0 0 ∧ Below w0.heap.size w0 W

theorem TOut.below {w0 W W' : World} {v : Value} {ys : List Rd} (h : TOut w0 W v ys) (hb : Below W.heap.size W W') : TOut w0 W' v ys := by
  refine ⟨⟨h.1.1, ?_⟩, h.2.1, h.2.2.trans (hb.mono h.2.2.size)⟩
  rcases h.1.2 with h1 | ⟨g, cap, cur, hv, hg, hh, hr⟩
  · exact .inl h1
  · refine .inr ⟨g, cap, cur, hv, hg, ?_, hr⟩
    rw [hb.block g ((Array.getElem?_eq_some_iff.1 hh).1)]
    exact hh

theorem TOut.alloc {w0 W : World} {v : Value} {ys : List Rd} (h : TOut w0 W v ys) (o : Obj) : TOut w0 (W.alloc o) v ys := ⟨h.1.alloc o, h.2.1, h.2.2.alloc h.2.2.size o⟩

theorem TOut.app {w0 w : World} {ops : Array Oper} {rest : List Oper} {o : Oper} {a : Act} {Q : Exit → Act → World → Prop} {v : Value} {ys : List Rd} (hO : TOut w0 w v ys) (hgd : o.guard = none) (sl x : Operand)
    (ho : o.op = .call { callee := .builtin .append, args := #[sl, x], argTypes := #[57, 57] }) (hs : a.eval sl = v) (ad : Addr) (r : Rd) (hx : a.eval x = .slice (some ad) 1 1) (had : ∀ j u, r.tvals[j]? = some u → w.cell? (ad.add j) = some u) (hb : ys.length ≤ 1048576)
    (h : ∀ v' w', TOut w0 w' v' (ys ++ [r]) → wpList Try.prog ops Q rest (a.put o.dst v') w') : wpList Try.prog ops Q (o :: rest) a w := by
  obtain ⟨i0, hi, hz0, hz1, hz2⟩ := info_parts Try.info42
  refine wpList_append_own w hgd sl x 57 ho w0.heap.size 42 i0 _ 10 80 Try.underlying57 hi hz0 hz1 hz2 rfl (by decide) v _ _ hs hO.1 ad 1 1 r.tvals hx rfl had ?_ (by unfold maxLen; omega) (by omega) hO.2.2.size ?_
  · intro u hu
    simp [Rd.tvals] at hu
    rcases hu with rfl | rfl | rfl | rfl | rfl | rfl | rfl | rfl | rfl | rfl <;> rfl
  intro v' w' h1 h2 h3
  refine h v' w' ⟨?_, fun e => hO.2.1 (h3.1 e).1, hO.2.2.grown h2 hO.2.2.size (fun k hk => (hO.1.lt k hk).1)⟩
  rw [flat_append, List.length_append]
  exact h1

/-- pgstore's readings of xs lie in block b, ten cells each. -/
def TimedAt (w : World) (b : Nat) (xs : List Rd) : Prop := ∀ (k : Nat) (r : Rd), xs[k]? = some r → ∀ j u, r.tvals[j]? = some u → w.cell? ⟨b, k * 10 + j, none⟩ = some u

/-- The block p is a walks whose readings are those of xs. -/
def Wk (w : World) (p : Nat) (xs : List Rd) : Prop := ∃ g cap, w.cell? ⟨p, 5, none⟩ = some (.slice (some ⟨g, 0, none⟩) xs.length cap) ∧ TimedAt w g xs

theorem TOut.timed {w0 w : World} {v : Value} {ys : List Rd} (hO : TOut w0 w v ys) : ∃ g cap, v = .slice (some ⟨g, 0, none⟩) ys.length cap ∧ g < w.heap.size ∧ TimedAt w g ys := by
  rcases hO.1.2 with ⟨hv, _⟩ | ⟨g, cap, cur, hv, _, hh, _⟩
  · exact absurd hv hO.2.1
  · refine ⟨g, cap, hv, (Array.getElem?_eq_some_iff.1 hh).1, fun k r hr j u hu => ?_⟩
    have hj : j < 10 := by
      have := (List.getElem?_eq_some_iff.1 hu).1
      simpa [Rd.tvals] using this
    have := hO.1.cells (g := g) (by rw [hv]; rfl) (k * 10 + j) u (by rw [flat_at ys k r j hr hj]; exact hu)
    simpa [Addr.add_lit] using this

theorem one_new (w : World) (r : Rd) (t : TypeId) : ∀ j u, r.tvals[j]? = some u → (w.alloc (.cells #[.int .i64 r.q, .int .i64 r.o, .int .i64 r.x, .int .u64 (r.b % 1000000000), .int .i64 (r.b / 1000000000), .pointer none, .int .i64 r.l, .int .u64 (r.a % 1000000000), .int .i64 (r.a / 1000000000), .pointer none] t)).cell? ((⟨w.heap.size, 0, none⟩ : Addr).add j) = some u := by
  intro j u hu
  have e : (⟨w.heap.size, 0, none⟩ : Addr).add j = ⟨w.heap.size, j, none⟩ := by simp [Addr.add_lit]
  rw [e]
  refine (World.cell?_alloc_mark w _ t (0, 0) j).trans ?_
  rw [← hu]
  simp only [Rd.tvals, List.getElem?_toArray]

set_option maxHeartbeats 1000000 in
theorem build_any (ao : Option Addr) (xs : List Rd) (cap : Nat) (w : World) (hn : xs.length ≤ 1048576) (h : Rds w ao xs) (hok : ∀ r ∈ xs, r.ok) :
    Calls Try.prog 19 #[.slice ao xs.length cap] w fun e w' => ∃ p, e = .returned (.pointer (some ⟨p, 0, none⟩)) ∧ Wk w' p xs ∧ Below w.heap.size w w' ∧ w.heap.size < w'.heap.size := by
  obtain ⟨i0, hi, hz0, hz1, hz2⟩ := info_parts Try.info42
  go_enter Try.func19, Try.ntmps19
  go_wp2_with (at_make; refine wpList_make_own _ rfl _ _ 57 rfl w.heap.size 42 i0 _ 10 Try.underlying57 hi hz0 hz1 .i64 .i64 _ xs.length rfl rfl rfl (by rw [hz2]; omega) (by unfold maxLen; omega) (Nat.le_refl _) ?_; intro w1 hown hgr)
  have hO : TOut w w1 (.slice (some ⟨w.heap.size, 0, none⟩) 0 xs.length) [] := ⟨hown, by simp, (Below.refl _ _).grown hgr (Nat.le_refl _) (fun k h => by cases h)⟩
  clear hown hgr hi hz0 hz1 hz2
  go_loopw [3, 4] (fun v i wr => ∃ k : Nat, k ≤ xs.length ∧ i = .int .i64 k ∧ TOut w wr v (xs.take k)) (fun _ i _ => xs.length - (intOf i).toNat)
  case atStart => exact ⟨0, Nat.zero_le _, rfl, hO⟩
  case round =>
    obtain ⟨k, hk, rfl, hO'⟩ := hrel
    clear hO
    by_cases hlt : k < xs.length
    · obtain ⟨b, off, r, ha, hr, c0, c1, c2, c3, c4, c5⟩ := (h.keep hO'.2.2).at hlt
      subst ha
      have hrm := hok r (List.mem_of_getElem? hr)
      have e : xs.take (k + 1) = xs.take k ++ [r] := by
        rw [List.take_add_one, hr]; rfl
      have HE : Hid (xs.take (k + 1) = xs.take k ++ [r]) := e
      have hl : (xs.take k).length ≤ 1048576 := by simp; omega
      clear e hr h hok
      obtain ⟨rq, ro, rx, rb, rl, ra⟩ := r
      go_wp2_with fail
      refine (toReading_any rq ro rx rb rl ra _ hrm.1.1 hrm.1.2 hrm.2.1 hrm.2.2).mono ?_
      rintro e w2 ⟨rfl, hb2, _⟩
      have hO2 := hO'.below hb2
      clear hO' c0 c1 c2 c3 c4 c5
      unfold Rd.timed
      go_wp2_with (at_builtin; refine TOut.app (hO2.alloc _) rfl (.tmp 14) _ rfl rfl ⟨w2.heap.size, 0, none⟩ ⟨rq, ro, rx, rb, rl, ra⟩ rfl ?ha hl ?_; rotate_right; intro v3 w3 hO3)
      case ha => exact one_new w2 ⟨rq, ro, rx, rb, rl, ra⟩ 42
      go_roundw
      case rel => exact ⟨k + 1, by omega, by go_num, by rw [HE.out]; exact hO3⟩
      case measure => simp [intOf]; omega
    · have e : xs.take k = xs := List.take_of_length_le (by omega)
      rw [e] at hO'
      obtain ⟨g, cap', hv, hg, ht⟩ := hO'.timed
      have HB : Hid (Below w.heap.size w wr) := hO'.2.2
      have HT : Hid (TimedAt wr g xs) := ht
      clear hO' e ht h hok
      subst hv
      go_wp2_with fail
      refine (newWalks_any (some ⟨g, 0, none⟩) xs.length cap' wr).mono ?_
      rintro e w2 ⟨rfl, hb2, hz2, hc2⟩
      have HC : Hid (w2.cell? ⟨wr.heap.size, 5, none⟩ = some (.slice (some ⟨g, 0, none⟩) xs.length cap')) := hc2
      have HB2 : Hid (Below wr.heap.size wr w2) := hb2
      clear hc2 hb2
      go_wp2
      go_ret
      exact ⟨wr.heap.size, rfl, ⟨g, cap', HC.out, fun k r hr j u hu => (HB2.out.cell (p := ⟨g, k * 10 + j, none⟩) hg).trans (HT.out k r hr j u hu)⟩, HB.out.trans (HB2.out.mono HB.out.size), by have := HB.out.size; omega⟩

end Go.Proofs.Qxb6605653a
