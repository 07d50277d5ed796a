import Derived.Test.Qxb6605653aRd
namespace Go.Proofs.Qxb6605653a
open Go.RowKit

theorem ret_bool {a b : Bool} (h : a = b) : Ending.returned (.bool a) = .returned (.bool b) := by rw [h]
theorem ret_int {k : IntKind} {a b : Int} (h : a = b) : Ending.returned (.int k a) = .returned (.int k b) := by rw [h]

theorem and_and (x y : Int) (h0 : 0 ≤ x) (h1 : x < 1000000000) (g0 : 0 ≤ y) (g1 : y < 1000000000) : bits .and .u64 (bits .and .u64 x y) 9223372036854775808 = 0 := by
  have e := u64_and x y h0 (by omega) g0 (by omega)
  rw [e]
  have := @Nat.and_le_left x.toNat y.toNat
  exact and_mono _ (by omega) (by omega)

theorem lt_split (a f : Int) : (a < f) ↔ (a / 1000000000 < f / 1000000000 ∨ (a / 1000000000 = f / 1000000000 ∧ a % 1000000000 < f % 1000000000)) := by omega

set_option maxHeartbeats 1000000 in
theorem before_any (a f : Int) (w : World) :
    Calls Try.prog 42 #[.agg #[.int .u64 (a % 1000000000), .int .i64 (a / 1000000000), .pointer none], .agg #[.int .u64 (f % 1000000000), .int .i64 (f / 1000000000), .pointer none]] w fun e w' => e = .returned (.bool (decide (a < f))) ∧ Below w.heap.size w w' := by
  have e1 := and_and (a % 1000000000) (f % 1000000000) (by omega) (by omega) (by omega) (by omega)
  have e2 := and_low (a % 1000000000) (by omega) (by omega)
  have e3 := and_low (f % 1000000000) (by omega) (by omega)
  have e4 := and_mono (a % 1000000000) (by omega) (by omega)
  have e5 := and_mono (f % 1000000000) (by omega) (by omega)
  have k := lt_split a f
  have x0 : 0 ≤ a % 1000000000 := by omega
  have x1 : a % 1000000000 < 1000000000 := by omega
  have y0 : 0 ≤ f % 1000000000 := by omega
  have y1 : f % 1000000000 < 1000000000 := by omega
  generalize a % 1000000000 = x at *
  generalize f % 1000000000 = y at *
  generalize a / 1000000000 = s at *
  generalize f / 1000000000 = t at *
  have K : Hid (a < f ↔ s < t ∨ s = t ∧ x < y) := k
  clear k
  by_cases h1 : s < t
  · go_enter Try.func42, Try.ntmps42
    go_wp2
    go_ret
    exact ⟨ret_bool (by have := K.out; simp [this, h1]), ((Below.refl _ _).alloc (Nat.le_refl _) _).alloc (by simp) _⟩
  · have h1' : decide (s < t) = false := by simp; omega
    by_cases h2 : s = t
    · have h2' : (s == t) = true := by simp [h2]
      have H2 : Hid (s = t) := h2
      clear h2
      go_enter Try.func42, Try.ntmps42
      go_wp2
      go_ret
      exact ⟨ret_bool (by have := K.out; have h2 := H2.out; simp [this, h2]), ((Below.refl _ _).alloc (Nat.le_refl _) _).alloc (by simp) _⟩
    · have h2' : (s == t) = false := by simp [h2]
      have H2 : Hid (¬ s = t) := h2
      clear h2
      go_enter Try.func42, Try.ntmps42
      go_wp2
      go_ret
      exact ⟨ret_bool (by have := K.out; have h2 := H2.out; simp [this, h1, h2]), ((Below.refl _ _).alloc (Nat.le_refl _) _).alloc (by simp) _⟩

set_option maxHeartbeats 1000000 in
theorem front_any (n q : Int) (w : World) :
    Calls Try.prog 25 #[.agg #[.int .u64 (n % 1000000000), .int .i64 (n / 1000000000), .pointer none, .int .i64 q]] w fun e w' => e = .returned (.bool (decide (n = 0 ∧ q = 0))) ∧ Below w.heap.size w w' := by
  have k : n = 0 ↔ n % 1000000000 = 0 ∧ n / 1000000000 = 0 := by omega
  generalize n % 1000000000 = x at *
  generalize n / 1000000000 = s at *
  have K : Hid (n = 0 ↔ x = 0 ∧ s = 0) := k
  clear k
  go_enter Try.func25, Try.ntmps25
  go_wp2
  all_goals
    go_ret
    refine ⟨ret_bool (by have := K.out; rw [Bool.eq_iff_iff]; simp [*]), ?_⟩
    repeat (first | exact Below.refl _ _ | refine Below.alloc ?_ (by simp; try omega) _)

set_option maxHeartbeats 1000000 in
theorem newPos_any (n q : Int) (w : World) :
    Calls Try.prog 26 #[.agg #[.int .u64 (n % 1000000000), .int .i64 (n / 1000000000), .pointer none], .int .i64 q] w fun e w' => e = .returned (.agg #[.int .u64 (n % 1000000000), .int .i64 (n / 1000000000), .pointer none, .int .i64 q]) ∧ Below w.heap.size w w' := by
  go_enter Try.func26, Try.ntmps26
  go_wp2
  refine bodyPost_ret (v := .agg #[.int .u64 (n % 1000000000), .int .i64 (n / 1000000000), .pointer none, .int .i64 q]) (by simp [results, Try.results26, go_sem]) rfl ⟨rfl, ?_⟩
  exact ((Below.refl _ _).alloc (Nat.le_refl _) _).alloc (by simp) _

end Go.Proofs.Qxb6605653a
