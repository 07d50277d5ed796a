import Derived.Test.Qxb6605653aRows
import Derived.WalkKit
import Derived.WalkSpells
import Derived.WalkLawsBesides
import Derived.Laws.BitsAllLaws
namespace Go.Proofs.Qxb6605653a
open Go.RowKit

/-- The time n nanoseconds from the zero time: wall, ext, loc. -/
def tmv (n : Int) : Value := .agg #[.int .u64 (n % 1000000000), .int .i64 (n / 1000000000), .pointer none]

theorem and_low (x : Int) (h0 : 0 ≤ x) (h1 : x < 1000000000) : bits .and .u64 x 1073741823 = x := by
  rw [u64_and x 1073741823 h0 (by omega) (by omega) (by omega)]
  have e : x.toNat &&& (1073741823 : Int).toNat = x.toNat := by
    show x.toNat &&& (2 ^ 30 - 1) = x.toNat
    rw [Nat.and_two_pow_sub_one_eq_mod]
    exact Nat.mod_eq_of_lt (by omega)
  rw [e]; omega

theorem andNot_low (x : Int) (h0 : 0 ≤ x) (h1 : x < 1000000000) : bits .andNot .u64 x 1073741823 = 0 := by
  rw [u64_andNot x 1073741823 h0 (by omega) (by omega) (by omega)]
  have e : x.toNat &&& (18446744073709551615 - (1073741823 : Int).toNat) = 0 := by
    show x.toNat &&& (18446744073709551615 - 1073741823) = 0
    apply Nat.eq_of_testBit_eq
    intro i
    rw [Nat.testBit_and]
    by_cases hi : i < 30
    · have : Nat.testBit (18446744073709551615 - 1073741823) i = false := by
        have : ∀ j : Fin 30, Nat.testBit (18446744073709551615 - 1073741823) j = false := by decide
        exact this ⟨i, hi⟩
      simp [this]
    · have : x.toNat.testBit i = false := Nat.testBit_lt_two_pow (Nat.lt_of_lt_of_le (by omega : x.toNat < 2 ^ 30) (Nat.pow_le_pow_right (by omega) (by omega)))
      simp [this]
  rw [e]; rfl

theorem or_zero (y : Int) (h0 : 0 ≤ y) (h1 : y < 1000000000) : bits .or .u64 0 y = y := by
  rw [u64_or 0 y (by omega) (by omega) h0 (by omega)]
  simp; omega

theorem and_mono (x : Int) (h0 : 0 ≤ x) (h1 : x < 1000000000) : bits .and .u64 x 9223372036854775808 = 0 := by
  rw [u64_and x 9223372036854775808 h0 (by omega) (by omega) (by omega)]
  have e : x.toNat &&& (9223372036854775808 : Int).toNat = 0 := by
    show x.toNat &&& 2 ^ 63 = 0
    rw [nat_bit]
    rw [Nat.div_eq_of_lt (by omega)]
  rw [e]; rfl

set_option maxHeartbeats 400000 in
theorem nsec_any (b : Nat) (x : Int) (w : World) (h0 : 0 ≤ x) (h1 : x < 1000000000) (hc : w.cell? ⟨b, 0, none⟩ = some (.int .u64 x)) :
    Calls Try.prog 44 #[.pointer (some ⟨b, 0, none⟩)] w fun e w' => e = .returned (.int .i32 x) ∧ w' = w := by
  have e1 := and_low x h0 h1
  go_enter Try.func44, Try.ntmps44
  go_wp2
  go_ret
  exact ⟨rfl, rfl⟩

set_option maxHeartbeats 400000 in
theorem sec_any (b : Nat) (x s : Int) (w : World) (h0 : 0 ≤ x) (h1 : x < 1000000000) (hc : w.cell? ⟨b, 0, none⟩ = some (.int .u64 x)) (hs : w.cell? ⟨b, 1, none⟩ = some (.int .i64 s)) :
    Calls Try.prog 48 #[.pointer (some ⟨b, 0, none⟩)] w fun e w' => e = .returned (.int .i64 s) ∧ w' = w := by
  have e1 := and_mono x h0 h1
  go_enter Try.func48, Try.ntmps48
  go_wp2
  go_ret
  exact ⟨rfl, rfl⟩

set_option maxHeartbeats 400000 in
theorem addSec_any (b : Nat) (x s d : Int) (w : World) (h0 : 0 ≤ x) (h1 : x < 1000000000) (hc : w.cell? ⟨b, 0, none⟩ = some (.int .u64 x)) (hs : w.cell? ⟨b, 1, none⟩ = some (.int .i64 s))
    (hf : w.frozen? ⟨b, 1, none⟩ = false) (s0 : -20000000000 ≤ s) (s1 : s ≤ 20000000000) (d0 : -20000000000 ≤ d) (d1 : d ≤ 20000000000) :
    Calls Try.prog 45 #[.pointer (some ⟨b, 0, none⟩), .int .i64 d] w fun e w' => e = .returned (.tuple #[]) ∧ w' = w.setCell ⟨b, 1, none⟩ (.int .i64 (s + d)) := by
  have e1 := and_mono x h0 h1
  by_cases hd : 0 < d
  · go_enter Try.func45, Try.ntmps45
    go_wp2
    go_end0
    exact ⟨rfl, rfl⟩
  · have e2 : decide (s < s + d) = false := by simp; omega
    go_enter Try.func45, Try.ntmps45
    go_wp2
    go_end0
    exact ⟨rfl, rfl⟩


set_option maxHeartbeats 1000000 in
theorem add_mid (x s d q r : Int) (w : World) (h0 : 0 ≤ x) (h1 : x < 1000000000) (s0 : -9300000000 ≤ s) (s1 : s ≤ 9300000000)
    (hq : d.tdiv 1000000000 = q) (hr : d.tmod 1000000000 = r) (q0 : -9300000000 ≤ q) (q1 : q ≤ 9300000000) (r0 : -1000000000 < r) (r1 : r < 1000000000) (hlo : ¬ x + r < 0) (hhi : ¬ 1000000000 ≤ x + r) :
    Calls Try.prog 38 #[.agg #[.int .u64 x, .int .i64 s, .pointer none], .int .i64 d] w fun e w' => e = .returned (.agg #[.int .u64 (x + r), .int .i64 (s + q), .pointer none]) ∧ Below w.heap.size w w' := by
  have e1 := and_low x h0 h1
  have e2 := andNot_low x h0 h1
  have e3 := or_zero (x + r) (by omega) (by omega)
  have e4 := and_mono (x + r) (by omega) (by omega)
  go_enter Try.func38, Try.ntmps38
  go_wp2_with (first | (go_at_call 44; refine (nsec_any _ x _ h0 h1 (by simp)).mono ?_; rintro e w' ⟨rfl, rfl⟩) | (go_at_call 45; refine (addSec_any _ (x + r) s (q) _ (by omega) (by omega) (by simp) (by simp) (by simp) (by omega) (by omega) (by omega) (by omega)).mono ?_; rintro e w' ⟨rfl, rfl⟩))
  exact bodyPost_ret (v := .agg #[.int .u64 (x + r), .int .i64 (s + q), .pointer none]) (by simp [results, Try.results38, go_sem]) rfl ⟨rfl, ((Below.refl _ _).alloc (Nat.le_refl _) _).alloc (by simp) _⟩

set_option maxHeartbeats 1000000 in
theorem add_hi (x s d q r : Int) (w : World) (h0 : 0 ≤ x) (h1 : x < 1000000000) (s0 : -9300000000 ≤ s) (s1 : s ≤ 9300000000)
    (hq : d.tdiv 1000000000 = q) (hr : d.tmod 1000000000 = r) (q0 : -9300000000 ≤ q) (q1 : q ≤ 9300000000) (r0 : -1000000000 < r) (r1 : r < 1000000000) (hhi : 1000000000 ≤ x + r) :
    Calls Try.prog 38 #[.agg #[.int .u64 x, .int .i64 s, .pointer none], .int .i64 d] w fun e w' => e = .returned (.agg #[.int .u64 (x + r - 1000000000), .int .i64 (s + (q + 1)), .pointer none]) ∧ Below w.heap.size w w' := by
  have e1 := and_low x h0 h1
  have e2 := andNot_low x h0 h1
  have e3 := or_zero (x + r - 1000000000) (by omega) (by omega)
  have e4 := and_mono (x + r - 1000000000) (by omega) (by omega)
  go_enter Try.func38, Try.ntmps38
  go_wp2_with (first | (go_at_call 44; refine (nsec_any _ x _ h0 h1 (by simp)).mono ?_; rintro e w' ⟨rfl, rfl⟩) | (go_at_call 45; refine (addSec_any _ (x + r - 1000000000) s (q + 1) _ (by omega) (by omega) (by simp) (by simp) (by simp) (by omega) (by omega) (by omega) (by omega)).mono ?_; rintro e w' ⟨rfl, rfl⟩))
  exact bodyPost_ret (v := .agg #[.int .u64 (x + r - 1000000000), .int .i64 (s + (q + 1)), .pointer none]) (by simp [results, Try.results38, go_sem]) rfl ⟨rfl, ((Below.refl _ _).alloc (Nat.le_refl _) _).alloc (by simp) _⟩

set_option maxHeartbeats 1000000 in
theorem add_lo (x s d q r : Int) (w : World) (h0 : 0 ≤ x) (h1 : x < 1000000000) (s0 : -9300000000 ≤ s) (s1 : s ≤ 9300000000)
    (hq : d.tdiv 1000000000 = q) (hr : d.tmod 1000000000 = r) (q0 : -9300000000 ≤ q) (q1 : q ≤ 9300000000) (r0 : -1000000000 < r) (r1 : r < 1000000000) (hlo : x + r < 0) :
    Calls Try.prog 38 #[.agg #[.int .u64 x, .int .i64 s, .pointer none], .int .i64 d] w fun e w' => e = .returned (.agg #[.int .u64 (x + r + 1000000000), .int .i64 (s + (q - 1)), .pointer none]) ∧ Below w.heap.size w w' := by
  have e1 := and_low x h0 h1
  have e2 := andNot_low x h0 h1
  have e3 := or_zero (x + r + 1000000000) (by omega) (by omega)
  have e4 := and_mono (x + r + 1000000000) (by omega) (by omega)
  go_enter Try.func38, Try.ntmps38
  go_wp2_with (first | (go_at_call 44; refine (nsec_any _ x _ h0 h1 (by simp)).mono ?_; rintro e w' ⟨rfl, rfl⟩) | (go_at_call 45; refine (addSec_any _ (x + r + 1000000000) s (q - 1) _ (by omega) (by omega) (by simp) (by simp) (by simp) (by omega) (by omega) (by omega) (by omega)).mono ?_; rintro e w' ⟨rfl, rfl⟩))
  exact bodyPost_ret (v := .agg #[.int .u64 (x + r + 1000000000), .int .i64 (s + (q - 1)), .pointer none]) (by simp [results, Try.results38, go_sem]) rfl ⟨rfl, ((Below.refl _ _).alloc (Nat.le_refl _) _).alloc (by simp) _⟩

/-- (time.Time).Add on a time that is n nanoseconds from the zero time. -/
theorem add_any (n d : Int) (w : World) (n0 : -9223372036854775808 ≤ n) (n1 : n ≤ 9223372036854775807) (d0 : -9223372036854775808 ≤ d) (d1 : d ≤ 9223372036854775807) :
    Calls Try.prog 38 #[tmv n, .int .i64 d] w fun e w' => e = .returned (tmv (n + d)) ∧ Below w.heap.size w w' := by
  have hm := Int.tmod_add_mul_tdiv d 1000000000
  have hr : -1000000000 < d.tmod 1000000000 ∧ d.tmod 1000000000 < 1000000000 := by
    have a := Int.tmod_lt_of_pos d (b := 1000000000) (by omega)
    have b := Int.lt_tmod_of_pos d (b := 1000000000) (by omega)
    omega
  generalize hq' : d.tdiv 1000000000 = q at hm
  generalize hr' : d.tmod 1000000000 = r at hm hr
  unfold tmv
  by_cases hlo : n % 1000000000 + r < 0
  · have ex : (n + d) % 1000000000 = n % 1000000000 + r + 1000000000 := by omega
    have es : (n + d) / 1000000000 = n / 1000000000 + (q - 1) := by omega
    rw [ex, es]
    exact add_lo _ _ d q r w (by omega) (by omega) (by omega) (by omega) hq' hr' (by omega) (by omega) (by omega) (by omega) hlo
  · by_cases hhi : 1000000000 ≤ n % 1000000000 + r
    · have ex : (n + d) % 1000000000 = n % 1000000000 + r - 1000000000 := by omega
      have es : (n + d) / 1000000000 = n / 1000000000 + (q + 1) := by omega
      rw [ex, es]
      exact add_hi _ _ d q r w (by omega) (by omega) (by omega) (by omega) hq' hr' (by omega) (by omega) (by omega) (by omega) hhi
    · have ex : (n + d) % 1000000000 = n % 1000000000 + r := by omega
      have es : (n + d) / 1000000000 = n / 1000000000 + q := by omega
      rw [ex, es]
      exact add_mid _ _ d q r w (by omega) (by omega) (by omega) (by omega) hq' hr' (by omega) (by omega) (by omega) (by omega) hlo hhi

theorem bcell {W w1 : World} (hb : Below W.heap.size W w1) : (∀ b o, b < W.heap.size → w1.cell? ⟨b, o, none⟩ = W.cell? ⟨b, o, none⟩) ∧ (∀ b o, b < W.heap.size → w1.frozen? ⟨b, o, none⟩ = W.frozen? ⟨b, o, none⟩) :=
  ⟨fun b o h => hb.cell (p := ⟨b, o, none⟩) h, fun b o h => hb.frozen (p := ⟨b, o, none⟩) h⟩

set_option maxHeartbeats 400000 in
/-- pgstore.ZZtimeAt. -/
theorem timeAt_any (n : Int) (w : World) (n0 : -9223372036854775808 ≤ n) (n1 : n ≤ 9223372036854775807) :
    Calls Try.prog 22 #[.int .i64 n] w fun e w' => e = .returned (tmv n) ∧ Below w.heap.size w w' := by
  go_enter Try.func22, Try.ntmps22
  go_wp2_with fail
  have h := add_any 0 n (w.alloc (.cells #[.int .u64 0, .int .i64 0, .pointer none] 36)) (by omega) (by omega) n0 n1
  rw [show tmv 0 = .agg #[.int .u64 0, .int .i64 0, .pointer none] from rfl, Int.zero_add] at h
  refine h.mono ?_
  clear h
  rintro e w1 ⟨rfl, hb⟩
  obtain ⟨hc, hf⟩ := bcell hb
  unfold tmv
  go_wp2
  refine bodyPost_ret (v := tmv n) (by unfold tmv; simp [results, Try.results22, go_sem, hc]) rfl ⟨rfl, ?_⟩
  exact (((((Below.refl _ _).alloc (Nat.le_refl _) _).trans (hb.mono (by simp))).setCell (by simp) _).setCell (by simp) _).setCell (by simp) _

end Go.Proofs.Qxb6605653a
