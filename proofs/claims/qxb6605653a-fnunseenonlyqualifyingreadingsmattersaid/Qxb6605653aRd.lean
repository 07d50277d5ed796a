import Derived.Test.Qxb6605653aTime
import Derived.BigQuiet
import Derived.Deep.RegionHeld
namespace Go.Proofs.Qxb6605653a
open Go.RowKit

/-- A reading in plain data. -/
structure Rd where
  q : Int
  o : Int
  x : Int
  b : Int
  l : Int
  a : Int

/-- Each number is an int64. -/
def Rd.ok (r : Rd) : Prop := (-9223372036854775808 ≤ r.b ∧ r.b ≤ 9223372036854775807) ∧ (-9223372036854775808 ≤ r.a ∧ r.a ≤ 9223372036854775807)

/-- The reading as the law's own struct. -/
def Rd.plain (r : Rd) : Value := .agg #[.int .i64 r.q, .int .i64 r.o, .int .i64 r.x, .int .i64 r.b, .int .i64 r.l, .int .i64 r.a]
/-- .. as pgstore's. -/
def Rd.timed (r : Rd) : Value := .agg #[.int .i64 r.q, .int .i64 r.o, .int .i64 r.x, .int .u64 (r.b % 1000000000), .int .i64 (r.b / 1000000000), .pointer none, .int .i64 r.l, .int .u64 (r.a % 1000000000), .int .i64 (r.a / 1000000000), .pointer none]

set_option maxHeartbeats 1000000 in
theorem newReading_any (q o x b l a : Int) (w : World) :
    Calls Try.prog 37 #[.int .i64 q, .int .i64 o, .int .i64 x, .agg #[.int .u64 (b % 1000000000), .int .i64 (b / 1000000000), .pointer none], .int .i64 l, .agg #[.int .u64 (a % 1000000000), .int .i64 (a / 1000000000), .pointer none]] w
      fun e w' => e = .returned (Rd.timed ⟨q, o, x, b, l, a⟩) ∧ Below w.heap.size w w' := by
  go_enter Try.func37, Try.ntmps37
  go_wp2
  refine bodyPost_ret (v := Rd.timed ⟨q, o, x, b, l, a⟩) (by unfold Rd.timed; simp [results, Try.results37, go_sem]) rfl ⟨rfl, ?_⟩
  exact (((Below.refl _ _).alloc (Nat.le_refl _) _).alloc (by simp) _).alloc (by simp; omega) _

/-- The six cells of a boxed reading. -/
theorem keep6 {W w1 w' : World} {s : Nat} {v0 v1 v2 v3 v4 v5 : Value} (hb : Below w1.heap.size w1 w')
    (h : w1.cell? ⟨s, 0, none⟩ = some v0 ∧ w1.cell? ⟨s, 1, none⟩ = some v1 ∧ w1.cell? ⟨s, 2, none⟩ = some v2 ∧ w1.cell? ⟨s, 3, none⟩ = some v3 ∧ w1.cell? ⟨s, 4, none⟩ = some v4 ∧ w1.cell? ⟨s, 5, none⟩ = some v5 ∧ Below W.heap.size W w1) :
    w'.cell? ⟨s, 0, none⟩ = some v0 ∧ w'.cell? ⟨s, 1, none⟩ = some v1 ∧ w'.cell? ⟨s, 2, none⟩ = some v2 ∧ w'.cell? ⟨s, 3, none⟩ = some v3 ∧ w'.cell? ⟨s, 4, none⟩ = some v4 ∧ w'.cell? ⟨s, 5, none⟩ = some v5 ∧ Below W.heap.size W w' := by
  obtain ⟨h0, h1, h2, h3, h4, h5, h6⟩ := h
  have hs : s < w1.heap.size := World.block_lt_of_cell? _ _ h0
  have k : ∀ o, w'.cell? ⟨s, o, none⟩ = w1.cell? ⟨s, o, none⟩ := fun o => hb.cell (p := ⟨s, o, none⟩) hs
  exact ⟨(k 0).trans h0, (k 1).trans h1, (k 2).trans h2, (k 3).trans h3, (k 4).trans h4, (k 5).trans h5, h6.trans (hb.mono h6.size)⟩

theorem keep6_set {W w3 : World} {s d : Nat} {v0 v1 v2 v3 v4 v5 u0 u1 u2 u3 u4 u5 u6 u7 u8 u9 : Value} (hsd : d ≠ s) (hd : W.heap.size ≤ d)
    (h : (w3).cell? ⟨s, 0, none⟩ = some v0 ∧ (w3).cell? ⟨s, 1, none⟩ = some v1 ∧ (w3).cell? ⟨s, 2, none⟩ = some v2 ∧ (w3).cell? ⟨s, 3, none⟩ = some v3 ∧ (w3).cell? ⟨s, 4, none⟩ = some v4 ∧ (w3).cell? ⟨s, 5, none⟩ = some v5 ∧ Below W.heap.size W w3) :
    (((((((((((w3.setCell ⟨d, 0, none⟩ u0).setCell ⟨d, 1, none⟩ u1).setCell ⟨d, 2, none⟩ u2).setCell ⟨d, 3, none⟩ u3).setCell ⟨d, 4, none⟩ u4).setCell ⟨d, 5, none⟩ u5).setCell ⟨d, 6, none⟩ u6).setCell ⟨d, 7, none⟩ u7).setCell ⟨d, 8, none⟩ u8).setCell ⟨d, 9, none⟩ u9)).cell? ⟨s, 0, none⟩ = some v0 ∧ (((((((((((w3.setCell ⟨d, 0, none⟩ u0).setCell ⟨d, 1, none⟩ u1).setCell ⟨d, 2, none⟩ u2).setCell ⟨d, 3, none⟩ u3).setCell ⟨d, 4, none⟩ u4).setCell ⟨d, 5, none⟩ u5).setCell ⟨d, 6, none⟩ u6).setCell ⟨d, 7, none⟩ u7).setCell ⟨d, 8, none⟩ u8).setCell ⟨d, 9, none⟩ u9)).cell? ⟨s, 1, none⟩ = some v1 ∧ (((((((((((w3.setCell ⟨d, 0, none⟩ u0).setCell ⟨d, 1, none⟩ u1).setCell ⟨d, 2, none⟩ u2).setCell ⟨d, 3, none⟩ u3).setCell ⟨d, 4, none⟩ u4).setCell ⟨d, 5, none⟩ u5).setCell ⟨d, 6, none⟩ u6).setCell ⟨d, 7, none⟩ u7).setCell ⟨d, 8, none⟩ u8).setCell ⟨d, 9, none⟩ u9)).cell? ⟨s, 2, none⟩ = some v2 ∧ (((((((((((w3.setCell ⟨d, 0, none⟩ u0).setCell ⟨d, 1, none⟩ u1).setCell ⟨d, 2, none⟩ u2).setCell ⟨d, 3, none⟩ u3).setCell ⟨d, 4, none⟩ u4).setCell ⟨d, 5, none⟩ u5).setCell ⟨d, 6, none⟩ u6).setCell ⟨d, 7, none⟩ u7).setCell ⟨d, 8, none⟩ u8).setCell ⟨d, 9, none⟩ u9)).cell? ⟨s, 3, none⟩ = some v3 ∧ (((((((((((w3.setCell ⟨d, 0, none⟩ u0).setCell ⟨d, 1, none⟩ u1).setCell ⟨d, 2, none⟩ u2).setCell ⟨d, 3, none⟩ u3).setCell ⟨d, 4, none⟩ u4).setCell ⟨d, 5, none⟩ u5).setCell ⟨d, 6, none⟩ u6).setCell ⟨d, 7, none⟩ u7).setCell ⟨d, 8, none⟩ u8).setCell ⟨d, 9, none⟩ u9)).cell? ⟨s, 4, none⟩ = some v4 ∧ (((((((((((w3.setCell ⟨d, 0, none⟩ u0).setCell ⟨d, 1, none⟩ u1).setCell ⟨d, 2, none⟩ u2).setCell ⟨d, 3, none⟩ u3).setCell ⟨d, 4, none⟩ u4).setCell ⟨d, 5, none⟩ u5).setCell ⟨d, 6, none⟩ u6).setCell ⟨d, 7, none⟩ u7).setCell ⟨d, 8, none⟩ u8).setCell ⟨d, 9, none⟩ u9)).cell? ⟨s, 5, none⟩ = some v5 ∧ Below W.heap.size W ((((((((((w3.setCell ⟨d, 0, none⟩ u0).setCell ⟨d, 1, none⟩ u1).setCell ⟨d, 2, none⟩ u2).setCell ⟨d, 3, none⟩ u3).setCell ⟨d, 4, none⟩ u4).setCell ⟨d, 5, none⟩ u5).setCell ⟨d, 6, none⟩ u6).setCell ⟨d, 7, none⟩ u7).setCell ⟨d, 8, none⟩ u8).setCell ⟨d, 9, none⟩ u9) := by
  obtain ⟨h0, h1, h2, h3, h4, h5, h6⟩ := h
  refine ⟨?_, ?_, ?_, ?_, ?_, ?_, ?_⟩
  · simp [World.cell?_setCell_far, hsd, h0]
  · simp [World.cell?_setCell_far, hsd, h1]
  · simp [World.cell?_setCell_far, hsd, h2]
  · simp [World.cell?_setCell_far, hsd, h3]
  · simp [World.cell?_setCell_far, hsd, h4]
  · simp [World.cell?_setCell_far, hsd, h5]
  · exact (((((((((h6.setCell hd _).setCell hd _).setCell hd _).setCell hd _).setCell hd _).setCell hd _).setCell hd _).setCell hd _).setCell hd _).setCell hd _

set_option maxHeartbeats 2000000 in
theorem toReading_any (q o x b l a : Int) (w : World) (b0 : -9223372036854775808 ≤ b) (b1 : b ≤ 9223372036854775807) (a0 : -9223372036854775808 ≤ a) (a1 : a ≤ 9223372036854775807) :
    Calls Try.prog 20 #[Rd.plain ⟨q, o, x, b, l, a⟩] w fun e w' => e = .returned (Rd.timed ⟨q, o, x, b, l, a⟩) ∧ Below w.heap.size w w' ∧ w.heap.size < w'.heap.size := by
  unfold Rd.plain
  go_enter Try.func20, Try.ntmps20
  go_wp2_with fail
  go_region_held (fun w' => w'.cell? ⟨w.heap.size, 0, none⟩ = some (.int .i64 q) ∧ w'.cell? ⟨w.heap.size, 1, none⟩ = some (.int .i64 o) ∧ w'.cell? ⟨w.heap.size, 2, none⟩ = some (.int .i64 x) ∧
     w'.cell? ⟨w.heap.size, 3, none⟩ = some (.int .i64 b) ∧ w'.cell? ⟨w.heap.size, 4, none⟩ = some (.int .i64 l) ∧ w'.cell? ⟨w.heap.size, 5, none⟩ = some (.int .i64 a) ∧ Below w.heap.size w w')
    (first
      | (with_reducible exact keep6 (by assumption) (by assumption))
      | (with_reducible exact keep6_set (Nat.succ_ne_self _) (Nat.le_succ _) (by assumption))
      | exact ⟨by simp, by simp, by simp, by simp, by simp, by simp, (((Below.refl _ _).alloc (Nat.le_refl _) _).alloc (by simp) _).drew⟩)
    (first
      | (go_at_call_of 22 b; refine (timeAt_any b _ b0 b1).mono ?_; rintro e w1 ⟨rfl, hb1⟩; unfold tmv; have hz1 : w.heap.size + 1 < w1.heap.size := (by have := hb1.size; simp at this; omega); obtain ⟨hc1, hf1⟩ := bcell hb1)
      | (go_at_call_of 22 a; refine (timeAt_any a _ a0 a1).mono ?_; rintro e w2 ⟨rfl, hb2⟩; unfold tmv; have hz2 : w.heap.size + 1 < w2.heap.size := (by have := hb2.size; omega); obtain ⟨hc2, hf2⟩ := bcell hb2)
      | (go_at_call 37; refine (newReading_any q o x b l a _).mono ?_; rintro e w3 ⟨rfl, hb3⟩; unfold Rd.timed; have hz3 : w.heap.size + 1 < w3.heap.size := (by have := hb3.size; omega); obtain ⟨hc3, hf3⟩ := bcell hb3))
  go_wp2
  rename_i hh
  have hbb := hh.2.2.2.2.2.2
  clear hh
  refine bodyPost_ret (v := Rd.timed ⟨q, o, x, b, l, a⟩) ?_ rfl ⟨rfl, hbb, by simp [World.setCell]; omega⟩
  clear hbb
  unfold Rd.timed
  have hz1' : w.heap.size < w1.heap.size := by omega
  simp [results, Try.results20, go_sem, hc3, hc2, hc1, hz2, hz1]

end Go.Proofs.Qxb6605653a
