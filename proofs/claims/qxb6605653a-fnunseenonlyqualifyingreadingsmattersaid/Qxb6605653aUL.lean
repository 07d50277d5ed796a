import Derived.Test.Qxb6605653aZun
import Derived.Test.Qxb6605653aCopy
import Derived.Deep.DeepCutAuto
namespace Go.Proofs.Qxb6605653a
open Go.RowKit

theorem bchain {A B C : World} (h : Below A.heap.size A B) (k : Below B.heap.size B C) : Below A.heap.size A C := h.trans (k.mono h.size)

theorem keep6_set3 {W w3 : World} {s d : Nat} {v0 v1 v2 v3 v4 v5 u0 u1 u2 : Value} (hs : s < W.heap.size) (hd : W.heap.size ≤ d)
    (h : (w3).cell? ⟨s, 0, none⟩ = some v0 ∧ (w3).cell? ⟨s, 1, none⟩ = some v1 ∧ (w3).cell? ⟨s, 2, none⟩ = some v2 ∧ (w3).cell? ⟨s, 3, none⟩ = some v3 ∧ (w3).cell? ⟨s, 4, none⟩ = some v4 ∧ (w3).cell? ⟨s, 5, none⟩ = some v5 ∧ Below W.heap.size W w3) :
    ((((w3.setCell ⟨d, 0, none⟩ u0).setCell ⟨d, 1, none⟩ u1).setCell ⟨d, 2, none⟩ u2)).cell? ⟨s, 0, none⟩ = some v0 ∧ ((((w3.setCell ⟨d, 0, none⟩ u0).setCell ⟨d, 1, none⟩ u1).setCell ⟨d, 2, none⟩ u2)).cell? ⟨s, 1, none⟩ = some v1 ∧ ((((w3.setCell ⟨d, 0, none⟩ u0).setCell ⟨d, 1, none⟩ u1).setCell ⟨d, 2, none⟩ u2)).cell? ⟨s, 2, none⟩ = some v2 ∧ ((((w3.setCell ⟨d, 0, none⟩ u0).setCell ⟨d, 1, none⟩ u1).setCell ⟨d, 2, none⟩ u2)).cell? ⟨s, 3, none⟩ = some v3 ∧ ((((w3.setCell ⟨d, 0, none⟩ u0).setCell ⟨d, 1, none⟩ u1).setCell ⟨d, 2, none⟩ u2)).cell? ⟨s, 4, none⟩ = some v4 ∧ ((((w3.setCell ⟨d, 0, none⟩ u0).setCell ⟨d, 1, none⟩ u1).setCell ⟨d, 2, none⟩ u2)).cell? ⟨s, 5, none⟩ = some v5 ∧ Below W.heap.size W (((w3.setCell ⟨d, 0, none⟩ u0).setCell ⟨d, 1, none⟩ u1).setCell ⟨d, 2, none⟩ u2) := by
  obtain ⟨h0, h1, h2, h3, h4, h5, h6⟩ := h
  have hsd : d ≠ s := by omega
  refine ⟨?_, ?_, ?_, ?_, ?_, ?_, ?_⟩
  · simp [World.cell?_setCell_far, hsd, h0]
  · simp [World.cell?_setCell_far, hsd, h1]
  · simp [World.cell?_setCell_far, hsd, h2]
  · simp [World.cell?_setCell_far, hsd, h3]
  · simp [World.cell?_setCell_far, hsd, h4]
  · simp [World.cell?_setCell_far, hsd, h5]
  · exact ((h6.setCell hd _).setCell hd _).setCell hd _

theorem keep6_swap {W v : World} {o o' : Obj} {s : Nat} {v0 v1 v2 v3 v4 v5 : Value} (hs : s < W.heap.size) (hz : W.heap.size < v.heap.size)
    (h : (v.alloc o).cell? ⟨s, 0, none⟩ = some v0 ∧ (v.alloc o).cell? ⟨s, 1, none⟩ = some v1 ∧ (v.alloc o).cell? ⟨s, 2, none⟩ = some v2 ∧ (v.alloc o).cell? ⟨s, 3, none⟩ = some v3 ∧ (v.alloc o).cell? ⟨s, 4, none⟩ = some v4 ∧ (v.alloc o).cell? ⟨s, 5, none⟩ = some v5 ∧ Below W.heap.size W (v.alloc o)) : (v.alloc o').cell? ⟨s, 0, none⟩ = some v0 ∧ (v.alloc o').cell? ⟨s, 1, none⟩ = some v1 ∧ (v.alloc o').cell? ⟨s, 2, none⟩ = some v2 ∧ (v.alloc o').cell? ⟨s, 3, none⟩ = some v3 ∧ (v.alloc o').cell? ⟨s, 4, none⟩ = some v4 ∧ (v.alloc o').cell? ⟨s, 5, none⟩ = some v5 ∧ Below W.heap.size W (v.alloc o') := by
  obtain ⟨h0, h1, h2, h3, h4, h5, h6⟩ := h
  have k : ∀ j, (v.alloc o').cell? ⟨s, j, none⟩ = (v.alloc o).cell? ⟨s, j, none⟩ := fun j => World.cell?_of_block (by rw [Below.heap_alloc v o' s (by omega), Below.heap_alloc v o s (by omega)])
  refine ⟨(k 0).trans h0, (k 1).trans h1, (k 2).trans h2, (k 3).trans h3, (k 4).trans h4, (k 5).trans h5, ⟨h6.os, h6.tape, h6.output, by simp; omega, fun b hb => ?_⟩⟩
  rw [Below.heap_alloc v o' b (by omega), ← Below.heap_alloc v o b (by omega)]
  exact h6.block b hb

theorem below_of {W w' : World} {s : Nat} {v0 v1 v2 v3 v4 v5 : Value} (h : w'.cell? ⟨s, 0, none⟩ = some v0 ∧ w'.cell? ⟨s, 1, none⟩ = some v1 ∧ w'.cell? ⟨s, 2, none⟩ = some v2 ∧ w'.cell? ⟨s, 3, none⟩ = some v3 ∧ w'.cell? ⟨s, 4, none⟩ = some v4 ∧ w'.cell? ⟨s, 5, none⟩ = some v5 ∧ Below W.heap.size W w') : Below W.heap.size W w' := h.2.2.2.2.2.2

theorem frozen_new (w : World) (C : Array Value) (t : TypeId) (o : Nat) : (w.alloc (.cells C t)).frozen? ⟨w.heap.size, o, none⟩ = false := by
  rw [World.frozen?_alloc_mark w C t 0 0 o]; simp

theorem UnI.of_new {w w2 w5 : World} {f : Int} (hW : Below w.heap.size w w2) (hH : Below w2.heap.size w2 (w5.alloc (.cells #[.int .u64 (f % 1000000000), .int .i64 (f / 1000000000), .pointer none] 36))) (hB : w.heap.size ≤ w5.heap.size) :
    UnI w (w5.alloc (.cells #[.int .u64 (f % 1000000000), .int .i64 (f / 1000000000), .pointer none] 36)) w5.heap.size f :=
  ⟨bchain hW hH, by simp, by simp, by simp, fun o => frozen_new _ _ _ o, hB⟩

theorem UnI.of_set {w w2 w5 : World} {B : Nat} {f : Int} (hW : Below w.heap.size w w2)
    (hH : Below w2.heap.size w2 (((w5.setCell ⟨B, 0, none⟩ (.int .u64 (f % 1000000000))).setCell ⟨B, 1, none⟩ (.int .i64 (f / 1000000000))).setCell ⟨B, 2, none⟩ (.pointer none))) (hB : w.heap.size ≤ B)
    (c0 : (w5.cell? ⟨B, 0, none⟩).isSome = true) (c1 : (w5.cell? ⟨B, 1, none⟩).isSome = true) (c2 : (w5.cell? ⟨B, 2, none⟩).isSome = true) (hf : ∀ o, w5.frozen? ⟨B, o, none⟩ = false) :
    UnI w (((w5.setCell ⟨B, 0, none⟩ (.int .u64 (f % 1000000000))).setCell ⟨B, 1, none⟩ (.int .i64 (f / 1000000000))).setCell ⟨B, 2, none⟩ (.pointer none)) B f := by
  have hi := World.cell?_setCells_in B [.int .u64 (f % 1000000000), .int .i64 (f / 1000000000), .pointer none] 0 w5 (fun j hj => by
    match j, hj with
    | 0, _ => exact c0
    | 1, _ => exact c1
    | 2, _ => exact c2)
  exact ⟨bchain hW hH, hi 0 (by simp), hi 1 (by simp), hi 2 (by simp), fun o => by simp [hf], hB⟩

theorem eq34 (w : World) : Sem.run Try.prog (Op.equalIn 9999 34 (.pointer none) (.pointer none)) w = .ok true w := by kernel_rfl

theorem keep3 {w w1 w' : World} {B : Nat} {f : Int} {v0 v1 v2 : Value} (hb : Below w1.heap.size w1 w')
    (h : w1.cell? ⟨B, 0, none⟩ = some v0 ∧ w1.cell? ⟨B, 1, none⟩ = some v1 ∧ w1.cell? ⟨B, 2, none⟩ = some v2 ∧ UnI w w1 B f) : w'.cell? ⟨B, 0, none⟩ = some v0 ∧ w'.cell? ⟨B, 1, none⟩ = some v1 ∧ w'.cell? ⟨B, 2, none⟩ = some v2 ∧ UnI w w' B f := by
  obtain ⟨h0, h1, h2, h3⟩ := h
  have k : ∀ {x y : Nat} {v : Value}, w1.cell? ⟨x, y, none⟩ = some v → w'.cell? ⟨x, y, none⟩ = some v := fun {x y v} hv => (hb.cell (p := ⟨x, y, none⟩) (World.block_lt_of_cell? _ _ hv)).trans hv
  exact ⟨k h0, k h1, k h2, h3.keep hb⟩

theorem dom_at {xs : List Rd} : ∀ {n k : Nat} {r : Rd}, Dom xs n → k < n → xs[k]? = some r → -9223372035854775808 ≤ r.b
  | n + 1, k, r, h, hk, hr => by
    by_cases e : k = n
    · subst e; exact h.2 r hr
    · exact dom_at h.1 (by omega) hr

theorem rds_of {W w' : World} {s : Nat} {v0 v1 v2 v3 v4 v5 : Value} {ao : Option Addr} {xs : List Rd} (hr : Rds W ao xs) (h : w'.cell? ⟨s, 0, none⟩ = some v0 ∧ w'.cell? ⟨s, 1, none⟩ = some v1 ∧ w'.cell? ⟨s, 2, none⟩ = some v2 ∧ w'.cell? ⟨s, 3, none⟩ = some v3 ∧ w'.cell? ⟨s, 4, none⟩ = some v4 ∧ w'.cell? ⟨s, 5, none⟩ = some v5 ∧ Below W.heap.size W w') : Rds w' ao xs := hr.keep h.2.2.2.2.2.2

theorem Wk.later {w : World} {p : Nat} {xs : List Rd} (h : Wk w p xs) : ∀ w', Below w.heap.size w w' → Wk w' p xs := by
  obtain ⟨g, cap, h0, h1⟩ := h
  intro w' hb
  exact ⟨g, cap, (hb.cell (p := ⟨p, 5, none⟩) (World.block_lt_of_cell? _ _ h0)).trans h0, fun k r hr j u hu => (hb.cell (p := ⟨g, k * 10 + j, none⟩) (World.block_lt_of_cell? _ _ (h1 k r hr j u hu))).trans (h1 k r hr j u hu)⟩

end Go.Proofs.Qxb6605653a
