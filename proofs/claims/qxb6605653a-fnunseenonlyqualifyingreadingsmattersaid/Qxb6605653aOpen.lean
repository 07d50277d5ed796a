import Derived.Test.Qxb6605653aCopy
import Derived.ProofKit
import Derived.OpenShut
import Derived.Deep.Slices
namespace Go.Proofs.Qxb6605653a
open Go.ChangeShapes Go.WideShapes Go.ChangeAt Go.RowKit

theorem Try.cells29 : Try.prog.cellsOf 29 = 6 := by kernel_rfl
theorem Try.cells2 : Try.prog.cellsOf 2 = 1 := by kernel_rfl

section
variable {H : Type} {enc : TypeId × Value → H} {w : World} {base : Nat} {spare : Nat → Bool} {held : Bool}

theorem list6 {cs : List Value} (h : cs.length = 6) : ∃ c0 c1 c2 c3 c4 c5, cs = [c0, c1, c2, c3, c4, c5] := by
  match cs, h with
  | [c0, c1, c2, c3, c4, c5], _ => exact ⟨c0, c1, c2, c3, c4, c5, rfl⟩

theorem one_i64 {n : Nat} {c : Value} {y : Option (DataW H × List MemPlace)} (h : DataW.trod enc Try.prog w base spare held n 2 [c] = y) (hy : y.isSome = true) : ∃ x : Int, c = .int .i64 x ∧ (-9223372036854775808 ≤ x ∧ x ≤ 9223372036854775807) := by
  obtain ⟨y', rfl⟩ := Option.isSome_iff_exists.1 hy
  obtain ⟨x, hc, _, hw⟩ := DataW.trod_int Try.underlying2 h
  simp at hc
  exact ⟨x, hc, bounds_i64 hw⟩

/-- Six cells that read as a Reading. -/
theorem rd_of {fuel : Nat} {cs : List Value} {x : DataW H × List MemPlace} (h : DataW.trod enc Try.prog w base spare held fuel 29 cs = some x) : ∃ r : Rd, cs = r.vals ∧ r.ok := by
  obtain ⟨ys, n, _, _, hl, hyl, hf⟩ := DataW.trod_struct Try.underlying29 h
  rw [Try.cells29] at hl
  obtain ⟨c0, c1, c2, c3, c4, c5, rfl⟩ := list6 hl
  have hs : ∀ i, i < 6 → (ys[i]?).isSome = true := fun i hi => by rw [List.getElem?_eq_getElem (by rw [hyl]; exact hi)]; rfl
  have key : ∀ (i : Nat) (f : Field) (cs' : List Value), _ → f.type = 2 → (([c0, c1, c2, c3, c4, c5] : List Value).drop f.offset).take 1 = cs' → DataW.trod enc Try.prog w base spare held n 2 cs' = ys[i]? := fun i f cs' h1 h2 h3 => by
    have := hf i f h1
    rw [h2, Try.cells2, h3] at this
    exact this
  have g0 := key 0 _ [c0] rfl rfl rfl
  have g1 := key 1 _ [c1] rfl rfl rfl
  have g2 := key 2 _ [c2] rfl rfl rfl
  have g3 := key 3 _ [c3] rfl rfl rfl
  have g4 := key 4 _ [c4] rfl rfl rfl
  have g5 := key 5 _ [c5] rfl rfl rfl
  obtain ⟨x0, rfl, b0⟩ := one_i64 g0 (hs 0 (by omega))
  obtain ⟨x1, rfl, b1⟩ := one_i64 g1 (hs 1 (by omega))
  obtain ⟨x2, rfl, b2⟩ := one_i64 g2 (hs 2 (by omega))
  obtain ⟨x3, rfl, b3⟩ := one_i64 g3 (hs 3 (by omega))
  obtain ⟨x4, rfl, b4⟩ := one_i64 g4 (hs 4 (by omega))
  obtain ⟨x5, rfl, b5⟩ := one_i64 g5 (hs 5 (by omega))
  exact ⟨⟨x0, x1, x2, x3, x4, x5⟩, rfl, b3, b5⟩

set_option maxRecDepth 100000 in
/-- A Reading by value, opened. -/
theorem open_rd {v : Value} {d : DataW H} {p : List MemPlace} (hv : Value.okWide Try.prog w .any base 29 v) (h : DataW.Trod enc Try.prog w 0 (fun _ => true) true 29 v d p) : ∃ r : Rd, v = r.plain ∧ r.ok := by
  obtain ⟨cs, rfl, hsz⟩ := okWide_struct Try.underlying29 hv
  obtain ⟨fuel, hf⟩ := h
  obtain ⟨r, hr, hk⟩ := rd_of hf
  refine ⟨r, ?_, hk⟩
  have e : cs.toList = r.vals := by simpa [Value.cells] using hr
  unfold Rd.plain
  congr 1
  apply Array.ext'
  exact e

/-- A slice of Readings, opened. -/
theorem open_rds {a : Option Addr} {len cap : Nat} {d : DataW H} {p : List MemPlace} (h : DataW.Trod enc Try.prog w 0 (fun _ => true) true 27 (.slice a len cap) d p) : ∃ xs : List Rd, xs.length = len ∧ Rds w a xs ∧ (∀ r ∈ xs, r.ok) ∧ len ≤ maxLen := by
  obtain ⟨fuel, hf⟩ := h
  rcases Deep.open_slice Try.underlying27 hf with ⟨hcs, _⟩ | ⟨ad, l, c, m, n, D, Pl, hcs, _, hl, hm, hmm, _, hx⟩
  · simp [Value.cells] at hcs
    obtain ⟨rfl, rfl, rfl⟩ := hcs
    exact ⟨[], rfl, .inl rfl, by simp, by simp [maxLen]⟩
  · simp [Value.cells] at hcs
    obtain ⟨rfl, rfl, rfl⟩ := hcs
    rw [Try.cells29] at hx
    have hlm : len ≤ m := by rw [hmm]; simp; exact hl
    obtain ⟨F, hF⟩ := Deep.choose_lt (α := Option Rd) (n := len) (p := fun i o => ∃ r : Rd, o = some r ∧ r.ok ∧ ∀ j, j < 6 → w.cell? (ad.add (i * 6 + j)) = r.vals[j]?) (fun i hi => by
      obtain ⟨cs', h1, h2⟩ := hx i (by omega)
      obtain ⟨r, hr, hk⟩ := rd_of h2
      obtain ⟨_, _, hc⟩ := World.cells?_some h1
      refine ⟨some r, r, rfl, hk, fun j hj => ?_⟩
      rw [← Deep.add_add, hc j hj, hr])
    have hG : ∀ i, i < len → ∃ r : Rd, F i = some r ∧ r.ok ∧ ∀ j, j < 6 → w.cell? (ad.add (i * 6 + j)) = r.vals[j]? := hF
    refine ⟨(List.range len).map (fun i => (F i).getD ⟨0, 0, 0, 0, 0, 0⟩), by simp, ?_, ?_, by omega⟩
    · by_cases h0 : len = 0
      · exact .inl (by subst h0; rfl)
      · obtain ⟨b, off, spot⟩ := ad
        obtain ⟨r0, _, _, hc0⟩ := hG 0 (by omega)
        have hspot : spot = none := by simpa [Addr.add] using World.cell?_spot (hc0 0 (by omega))
        subst hspot
        refine .inr ⟨b, off, rfl, fun k r hr => ?_⟩
        have hk : k < len := by
          have := (List.getElem?_eq_some_iff.1 hr).1
          simpa using this
        obtain ⟨r', hr', _, hc⟩ := hG k hk
        have e : r' = r := by
          simp [hk, hr'] at hr
          exact hr
        subst e
        have cell : ∀ j, j < 6 → w.cell? ⟨b, off + (k * 6 + j), none⟩ = r'.vals[j]? := fun j hj => by rw [← Go.WideShapes.add_plain]; exact hc j hj
        exact ⟨cell 0 (by omega), cell 1 (by omega), cell 2 (by omega), cell 3 (by omega), cell 4 (by omega), cell 5 (by omega)⟩
    · intro r hr
      simp at hr
      obtain ⟨i, hi, rfl⟩ := hr
      obtain ⟨r', hr', hk, _⟩ := hG i hi
      rw [hr']
      exact hk

end
end Go.Proofs.Qxb6605653a
