import Derived.Test.Qxb6605653aPre
namespace Go.Proofs.Qxb6605653a
open Go.RowKit

/-- One placeholder more is seen. -/
def seeK (f : Nat → Bool) (k : Nat) : Nat → Bool := fun j => if j = k then true else f j
/-- What the Go text marks for the number n read from d digits. -/
def seeN (f : Nat → Bool) (n d : Nat) : Nat → Bool := if d = 0 ∨ n = 0 then seeK f 0 else if 7 ≤ n then seeK f 7 else seeK f n
/-- One byte behind a dollar's number or outside of one. -/
def outStep (f : Nat → Bool) (c : UInt8) : Option (Nat × Nat) × (Nat → Bool) := if c.toNat = 36 then (some (0, 0), f) else (none, f)
def hStep : Option (Nat × Nat) × (Nat → Bool) → UInt8 → Option (Nat × Nat) × (Nat → Bool)
  | (none, f), c => outStep f c
  | (some (n, d), f), c => if 48 ≤ c.toNat ∧ c.toNat ≤ 57 then (some (if n < 1000 then n * 10 + (c.toNat - 48) else n, d + 1), f) else outStep (seeN f n d) c
def hFin : Option (Nat × Nat) × (Nat → Bool) → Nat → Bool
  | (none, f) => f
  | (some (n, d), f) => seeN f n d
/-- Which placeholders the rest l names, from the state x. -/
def hRun (l : List UInt8) (x : Option (Nat × Nat) × (Nat → Bool)) : Nat → Bool := hFin (l.foldl hStep x)

theorem hRun_no (s : ByteArray) (k : Nat) (f : Nat → Bool) (h : k < s.size) (hc : ((s[k].toNat : Int) != 36) = true) : hRun (s.data.toList.drop k) (none, f) = hRun (s.data.toList.drop (k + 1)) (none, f) := by
  rw [drop_ba s k h]
  simp at hc
  have : ¬ s[k].toNat = 36 := by omega
  simp [hRun, hStep, outStep, this]
theorem hRun_yes (s : ByteArray) (k : Nat) (f : Nat → Bool) (h : k < s.size) (hc : ((s[k].toNat : Int) != 36) = false) : hRun (s.data.toList.drop k) (none, f) = hRun (s.data.toList.drop (k + 1)) (some (0, 0), f) := by
  rw [drop_ba s k h]
  simp at hc
  have : s[k].toNat = 36 := by omega
  simp [hRun, hStep, outStep, this]
theorem hRun_digit (s : ByteArray) (k n d : Nat) (f : Nat → Bool) (h : k < s.size) (h1 : (48 : Int) ≤ s[k].toNat) (h2 : (s[k].toNat : Int) ≤ 57) :
    hRun (s.data.toList.drop k) (some (n, d), f) = hRun (s.data.toList.drop (k + 1)) (some (if n < 1000 then n * 10 + (s[k].toNat - 48) else n, d + 1), f) := by
  rw [drop_ba s k h]
  have : 48 ≤ s[k].toNat ∧ s[k].toNat ≤ 57 := by omega
  simp [hRun, hStep, this]
theorem hRun_stop (s : ByteArray) (k n d : Nat) (f : Nat → Bool) (h : k < s.size) (h1 : ¬ ((48 : Int) ≤ s[k].toNat ∧ (s[k].toNat : Int) ≤ 57)) :
    hRun (s.data.toList.drop k) (some (n, d), f) = hRun (s.data.toList.drop k) (none, seeN f n d) := by
  rw [drop_ba s k h]
  have : ¬ (48 ≤ s[k].toNat ∧ s[k].toNat ≤ 57) := by omega
  simp [hRun, hStep, this]
theorem hRun_end (s : ByteArray) (k : Nat) (h : ¬ k < s.size) (x : Option (Nat × Nat) × (Nat → Bool)) : hRun (s.data.toList.drop k) x = hFin x := by
  rw [List.drop_eq_nil_of_le (by simp; omega)]; rfl
theorem hRun_over (s : ByteArray) (k n d : Nat) (f : Nat → Bool) (h : ¬ k < s.size) :
    hRun (s.data.toList.drop k) (some (n, d), f) = hRun (s.data.toList.drop k) (none, seeN f n d) := by
  rw [hRun_end s k h, hRun_end s k h]; rfl

/-- The block of the eight marks. -/
def marks (f : Nat → Bool) : Obj := .cells #[.bool (f 0), .bool (f 1), .bool (f 2), .bool (f 3), .bool (f 4), .bool (f 5), .bool (f 6), .bool (f 7)] 68

/-- What must be seen. -/
def good (ty : Bool) (j : Nat) : Bool := if j = 0 then false else if j = 6 then ty else if j = 7 then false else true

theorem seeN_zero (f : Nat → Bool) (n d : Nat) (h : d = 0 ∨ n = 0) : seeN f n d = seeK f 0 := by unfold seeN; rw [if_pos h]
theorem seeN_high (f : Nat → Bool) (n d : Nat) (h0 : ¬ d = 0) (h : 7 ≤ n) : seeN f n d = seeK f 7 := by unfold seeN; rw [if_neg (by omega), if_pos h]
theorem seeN_at (f : Nat → Bool) (n d : Nat) (h0 : ¬ d = 0) (h1 : ¬ n = 0) (h : n < 7) : seeN f n d = seeK f n := by unfold seeN; rw [if_neg (by omega), if_neg (by omega)]

set_option maxRecDepth 20000 in
set_option maxHeartbeats 4000000 in
theorem holders_any (s : ByteArray) (ty : Bool) (w : World) (hs : s.size ≤ 4000000) (hgood : ∀ j, j < 8 → hRun s.data.toList (none, fun _ => false) j = good ty j) :
    Calls Try.prog 33 #[.string s, .bool ty] w fun e w' => e = .returned (.bool true) ∧ Below w.heap.size w w' := by
  have HG : Hid (∀ j, j < 8 → hRun s.data.toList (none, fun _ => false) j = good ty j) := hgood
  clear hgood
  go_enter Try.func33, Try.ntmps33
  go_wp2
  go_loopw [6] (fun i wr => ∃ (k : Nat) (f : Nat → Bool), k ≤ s.size ∧ i = .int .i64 k ∧ hRun (s.data.toList.drop k) (none, f) = hRun s.data.toList (none, fun _ => false) ∧ wr = w.alloc (marks f)) (fun i _ => s.size - (intOf i).toNat)
  case atStart => exact ⟨0, fun _ => false, Nat.zero_le _, rfl, by simp, rfl⟩
  case round =>
    obtain ⟨k, f, hk, rfl, hrun, rfl⟩ := hrel
    by_cases hlt : k < s.size
    · cases hc : ((s[k].toNat : Int) != 36)
      · have HR : Hid (hRun (s.data.toList.drop (k + 1)) (some (0, 0), f) = hRun s.data.toList (none, fun _ => false)) := by rw [← hRun_yes s k f hlt hc]; exact hrun
        clear hrun
        go_wp2
        go_loop [6, 7, 8] (fun i nn dd => ∃ k2 n d : Nat, k2 ≤ s.size ∧ k < k2 ∧ i = .int .i64 k2 ∧ nn = .int .i64 n ∧ dd = .int .i64 d ∧ n ≤ 10008 ∧ d ≤ k2 ∧ hRun (s.data.toList.drop k2) (some (n, d), f) = hRun s.data.toList (none, fun _ => false)) (fun i _ _ => s.size - (intOf i).toNat)
        case atStart => exact ⟨k + 1, 0, 0, by omega, by omega, by go_num, rfl, rfl, by omega, by omega, HR.out⟩
        case round =>
          obtain ⟨k2, n, d, hk2, hkk, rfl, rfl, rfl, hn, hd, hrun2⟩ := hrel
          clear HR hc
          by_cases hlt2 : k2 < s.size
          · by_cases h48 : (48 : Int) ≤ s[k2].toNat
            · by_cases h57 : (s[k2].toNat : Int) ≤ 57
              · have HR : Hid (hRun (s.data.toList.drop (k2 + 1)) (some (if n < 1000 then n * 10 + (s[k2].toNat - 48) else n, d + 1), f) = hRun s.data.toList (none, fun _ => false)) := by rw [← hRun_digit s k2 n d f hlt2 h48 h57]; exact hrun2
                clear hrun2
                by_cases hth : n < 1000
                · rw [if_pos hth] at HR
                  go_wp2
                  go_round
                  case rel => exact ⟨k2 + 1, n * 10 + (s[k2].toNat - 48), d + 1, by omega, by omega, by go_num, congrArg (Value.int .i64) (by omega), by go_num, by omega, by omega, HR.out⟩
                  case measure => simp [intOf]; omega
                · rw [if_neg hth] at HR
                  go_wp2
                  go_round
                  case rel => exact ⟨k2 + 1, n, d + 1, by omega, by omega, by go_num, rfl, by go_num, by omega, by omega, HR.out⟩
                  case measure => simp [intOf]; omega
              · have hst := hRun_stop s k2 n d f hlt2 (by omega)
                have HS : Hid (hRun (s.data.toList.drop k2) (none, seeN f n d) = hRun s.data.toList (none, fun _ => false)) := by rw [← hst]; exact hrun2
                clear hrun2 hst
                by_cases hz : d = 0
                · subst hz
                  rw [seeN_zero f n 0 (.inl rfl)] at HS
                  unfold marks
                  go_wp2
                  go_roundw
                  case rel => exact ⟨k2, seeK f 0, hk2, rfl, HS.out, rfl⟩
                  case measure => simp [intOf]; omega
                · have hdz : ((d : Int) == 0) = false := by rw [beq_eq_false_iff_ne]; omega
                  by_cases hn0 : n = 0
                  · subst hn0
                    rw [seeN_zero f 0 d (.inr rfl)] at HS
                    unfold marks
                    go_wp2
                    go_roundw
                    case rel => exact ⟨k2, seeK f 0, hk2, rfl, HS.out, rfl⟩
                    case measure => simp [intOf]; omega
                  · have hnz : ((n : Int) == 0) = false := by rw [beq_eq_false_iff_ne]; omega
                    by_cases hn7 : 7 ≤ n
                    · rw [seeN_high f n d hz hn7] at HS
                      unfold marks
                      go_wp2
                      go_roundw
                      case rel => exact ⟨k2, seeK f 7, hk2, rfl, HS.out, rfl⟩
                      case measure => simp [intOf]; omega
                    · rw [seeN_at f n d hz hn0 (by omega)] at HS
                      unfold marks
                      rcases (show n = 1 ∨ n = 2 ∨ n = 3 ∨ n = 4 ∨ n = 5 ∨ n = 6 from by omega) with rfl | rfl | rfl | rfl | rfl | rfl
                      · go_wp2
                        go_roundw
                        case rel => exact ⟨k2, seeK f 1, hk2, rfl, HS.out, rfl⟩
                        case measure => simp [intOf]; omega
                      · go_wp2
                        go_roundw
                        case rel => exact ⟨k2, seeK f 2, hk2, rfl, HS.out, rfl⟩
                        case measure => simp [intOf]; omega
                      · go_wp2
                        go_roundw
                        case rel => exact ⟨k2, seeK f 3, hk2, rfl, HS.out, rfl⟩
                        case measure => simp [intOf]; omega
                      · go_wp2
                        go_roundw
                        case rel => exact ⟨k2, seeK f 4, hk2, rfl, HS.out, rfl⟩
                        case measure => simp [intOf]; omega
                      · go_wp2
                        go_roundw
                        case rel => exact ⟨k2, seeK f 5, hk2, rfl, HS.out, rfl⟩
                        case measure => simp [intOf]; omega
                      · go_wp2
                        go_roundw
                        case rel => exact ⟨k2, seeK f 6, hk2, rfl, HS.out, rfl⟩
                        case measure => simp [intOf]; omega
            · have hst := hRun_stop s k2 n d f hlt2 (by omega)
              have HS : Hid (hRun (s.data.toList.drop k2) (none, seeN f n d) = hRun s.data.toList (none, fun _ => false)) := by rw [← hst]; exact hrun2
              clear hrun2 hst
              by_cases hz : d = 0
              · subst hz
                rw [seeN_zero f n 0 (.inl rfl)] at HS
                unfold marks
                go_wp2
                go_roundw
                case rel => exact ⟨k2, seeK f 0, hk2, rfl, HS.out, rfl⟩
                case measure => simp [intOf]; omega
              · have hdz : ((d : Int) == 0) = false := by rw [beq_eq_false_iff_ne]; omega
                by_cases hn0 : n = 0
                · subst hn0
                  rw [seeN_zero f 0 d (.inr rfl)] at HS
                  unfold marks
                  go_wp2
                  go_roundw
                  case rel => exact ⟨k2, seeK f 0, hk2, rfl, HS.out, rfl⟩
                  case measure => simp [intOf]; omega
                · have hnz : ((n : Int) == 0) = false := by rw [beq_eq_false_iff_ne]; omega
                  by_cases hn7 : 7 ≤ n
                  · rw [seeN_high f n d hz hn7] at HS
                    unfold marks
                    go_wp2
                    go_roundw
                    case rel => exact ⟨k2, seeK f 7, hk2, rfl, HS.out, rfl⟩
                    case measure => simp [intOf]; omega
                  · rw [seeN_at f n d hz hn0 (by omega)] at HS
                    unfold marks
                    rcases (show n = 1 ∨ n = 2 ∨ n = 3 ∨ n = 4 ∨ n = 5 ∨ n = 6 from by omega) with rfl | rfl | rfl | rfl | rfl | rfl
                    · go_wp2
                      go_roundw
                      case rel => exact ⟨k2, seeK f 1, hk2, rfl, HS.out, rfl⟩
                      case measure => simp [intOf]; omega
                    · go_wp2
                      go_roundw
                      case rel => exact ⟨k2, seeK f 2, hk2, rfl, HS.out, rfl⟩
                      case measure => simp [intOf]; omega
                    · go_wp2
                      go_roundw
                      case rel => exact ⟨k2, seeK f 3, hk2, rfl, HS.out, rfl⟩
                      case measure => simp [intOf]; omega
                    · go_wp2
                      go_roundw
                      case rel => exact ⟨k2, seeK f 4, hk2, rfl, HS.out, rfl⟩
                      case measure => simp [intOf]; omega
                    · go_wp2
                      go_roundw
                      case rel => exact ⟨k2, seeK f 5, hk2, rfl, HS.out, rfl⟩
                      case measure => simp [intOf]; omega
                    · go_wp2
                      go_roundw
                      case rel => exact ⟨k2, seeK f 6, hk2, rfl, HS.out, rfl⟩
                      case measure => simp [intOf]; omega
          · have hst := hRun_over s k2 n d f hlt2
            have HS : Hid (hRun (s.data.toList.drop k2) (none, seeN f n d) = hRun s.data.toList (none, fun _ => false)) := by rw [← hst]; exact hrun2
            clear hrun2 hst
            by_cases hz : d = 0
            · subst hz
              rw [seeN_zero f n 0 (.inl rfl)] at HS
              unfold marks
              go_wp2
              go_roundw
              case rel => exact ⟨k2, seeK f 0, hk2, rfl, HS.out, rfl⟩
              case measure => simp [intOf]; omega
            · have hdz : ((d : Int) == 0) = false := by rw [beq_eq_false_iff_ne]; omega
              by_cases hn0 : n = 0
              · subst hn0
                rw [seeN_zero f 0 d (.inr rfl)] at HS
                unfold marks
                go_wp2
                go_roundw
                case rel => exact ⟨k2, seeK f 0, hk2, rfl, HS.out, rfl⟩
                case measure => simp [intOf]; omega
              · have hnz : ((n : Int) == 0) = false := by rw [beq_eq_false_iff_ne]; omega
                by_cases hn7 : 7 ≤ n
                · rw [seeN_high f n d hz hn7] at HS
                  unfold marks
                  go_wp2
                  go_roundw
                  case rel => exact ⟨k2, seeK f 7, hk2, rfl, HS.out, rfl⟩
                  case measure => simp [intOf]; omega
                · rw [seeN_at f n d hz hn0 (by omega)] at HS
                  unfold marks
                  rcases (show n = 1 ∨ n = 2 ∨ n = 3 ∨ n = 4 ∨ n = 5 ∨ n = 6 from by omega) with rfl | rfl | rfl | rfl | rfl | rfl
                  · go_wp2
                    go_roundw
                    case rel => exact ⟨k2, seeK f 1, hk2, rfl, HS.out, rfl⟩
                    case measure => simp [intOf]; omega
                  · go_wp2
                    go_roundw
                    case rel => exact ⟨k2, seeK f 2, hk2, rfl, HS.out, rfl⟩
                    case measure => simp [intOf]; omega
                  · go_wp2
                    go_roundw
                    case rel => exact ⟨k2, seeK f 3, hk2, rfl, HS.out, rfl⟩
                    case measure => simp [intOf]; omega
                  · go_wp2
                    go_roundw
                    case rel => exact ⟨k2, seeK f 4, hk2, rfl, HS.out, rfl⟩
                    case measure => simp [intOf]; omega
                  · go_wp2
                    go_roundw
                    case rel => exact ⟨k2, seeK f 5, hk2, rfl, HS.out, rfl⟩
                    case measure => simp [intOf]; omega
                  · go_wp2
                    go_roundw
                    case rel => exact ⟨k2, seeK f 6, hk2, rfl, HS.out, rfl⟩
                    case measure => simp [intOf]; omega
      · have HR : Hid (hRun (s.data.toList.drop (k + 1)) (none, f) = hRun s.data.toList (none, fun _ => false)) := by rw [← hRun_no s k f hlt hc]; exact hrun
        clear hrun
        go_wp2
        go_roundw
        case rel => exact ⟨k + 1, f, by omega, by go_num, HR.out, rfl⟩
        case measure => simp [intOf]; omega
    · rw [hRun_end s k hlt] at hrun
      have hj : ∀ j, j < 8 → f j = good ty j := fun j h => by rw [← HG.out j h, ← hrun]; rfl
      have f0 : f 0 = false := hj 0 (by omega)
      have f1 : f 1 = true := hj 1 (by omega)
      have f2 : f 2 = true := hj 2 (by omega)
      have f3 : f 3 = true := hj 3 (by omega)
      have f4 : f 4 = true := hj 4 (by omega)
      have f5 : f 5 = true := hj 5 (by omega)
      have f6 : f 6 = ty := hj 6 (by omega)
      have f7 : f 7 = false := hj 7 (by omega)
      clear hj hrun
      unfold marks
      rw [f0, f1, f2, f3, f4, f5, f6, f7]
      clear f0 f1 f2 f3 f4 f5 f6 f7
      go_wp2
      go_ret
      exact ⟨rfl, (Below.refl _ _).alloc (Nat.le_refl _) _⟩

end Go.Proofs.Qxb6605653a
