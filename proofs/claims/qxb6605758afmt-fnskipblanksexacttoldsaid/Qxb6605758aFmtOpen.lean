import Derived.Test.Qxb6605758aFmtSm
import Derived.ProofKit
import Derived.OpenShut
import Derived.ChangeSlices
namespace Go.Proofs.Qxb6605758aFmt
open Go.ChangeShapes Go.WideShapes Go.ChangeAt Go.RowKit

theorem Tryf.own : ownKnob Tryf.prog.godebug = none := by kernel_rfl
theorem Tryf.laidOut : laidOutB Tryf.pinned.checked.prog = true := by kernel_rfl
theorem Tryf.cells21 : Tryf.prog.cellsOf 21 = 1 := by kernel_rfl
theorem Tryf.stops : Tryf.pinned.checked.prog.stops = Rows.fnSkipBlanksExactRow.stops := by kernel_rfl
theorem Tryf.stopKnobs : Tryf.pinned.checked.prog.stopKnobs = [] := by kernel_rfl
theorem Tryf.quiet (os : Os) : Stop.quiet Tryf.pinned.checked.prog os := by
  intro k hk
  rw [Tryf.stopKnobs] at hk
  cases hk

theorem open_runes {H : Type} {enc : TypeId × Value → H} {w : World} {base : Nat} {sp : Nat → Bool} {held : Bool} {ao : Option Addr} {n cap : Nat} {d : DataW H} {p : List MemPlace} (h : DataW.Trod enc Tryf.prog w base sp held 22 (.slice ao n cap) d p) :
    ∃ zs : List Int, n = zs.length ∧ Runes w ao zs := by
  obtain ⟨fuel, hf⟩ := h
  rcases open_ints Tryf.underlying22 Tryf.underlying21 Tryf.cells21 hf with ⟨hcs, _⟩ | ⟨a, len, cap', zs, hcs, _, hl, _, hz, _, hcell, _⟩
  · simp [Value.cells] at hcs
    obtain ⟨rfl, rfl, rfl⟩ := hcs
    exact ⟨[], rfl, .inl rfl⟩
  · simp [Value.cells] at hcs
    obtain ⟨rfl, rfl, rfl⟩ := hcs
    have hle : n ≤ zs.length := by rw [hz]; split <;> omega
    refine ⟨zs.take n, by simp; omega, ?_⟩
    rcases Nat.eq_zero_or_pos zs.length with h0 | h0
    · left
      have : zs = [] := List.eq_nil_of_length_eq_zero h0
      subst this; simp
    · obtain ⟨b, off, rfl, hc⟩ := ints_at hcell h0
      refine .inr ⟨b, off, rfl, fun k z hk => ?_⟩
      obtain ⟨h1, h2⟩ := List.getElem?_eq_some_iff.1 hk
      have hk' : k < zs.length := by simp at h1; omega
      rw [hc k hk']
      have e : zs.getD k 0 = z := by
        rw [List.getElem_take] at h2
        simp [hk', h2]
      rw [e]

end Go.Proofs.Qxb6605758aFmt
