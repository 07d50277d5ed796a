import Derived.Test.Qxb6605653aTime
import Derived.BigQuiet
namespace Go.Proofs.Qxb6605653a
open Go.RowKit

/-- Behind its first k bytes m lies in s from i + k on. -/
def preB (s m : ByteArray) (i k : Nat) : Bool := (m.data.toList.drop k).isPrefixOf (s.data.toList.drop (i + k))

theorem drop_ba (s : ByteArray) (k : Nat) (h : k < s.size) : s.data.toList.drop k = s[k] :: s.data.toList.drop (k + 1) := by
  rw [List.drop_eq_getElem_cons (by simpa using h)]; rfl

theorem preB_step (s m : ByteArray) (i k : Nat) (h1 : i + k < s.size) (h2 : k < m.size) (h : ((s[i + k].toNat : Int) != (m[k].toNat : Int)) = false) : preB s m i k = preB s m i (k + 1) := by
  unfold preB
  rw [drop_ba m k h2, drop_ba s (i + k) h1]
  have e : m[k] = s[i + k] := by
    simp at h
    exact (UInt8.toNat_inj.1 (by omega)).symm
  simp [List.isPrefixOf, e, Nat.add_assoc]

theorem preB_stop (s m : ByteArray) (i k : Nat) (h1 : i + k < s.size) (h2 : k < m.size) (h : ((s[i + k].toNat : Int) != (m[k].toNat : Int)) = true) : preB s m i k = false := by
  unfold preB
  rw [drop_ba m k h2, drop_ba s (i + k) h1]
  have e : ¬ m[k] = s[i + k] := by
    intro e
    rw [e] at h
    simp at h
  simp [List.isPrefixOf, e]

theorem preB_end (s m : ByteArray) (i k : Nat) (h : ¬ k < m.size) : preB s m i k = true := by
  unfold preB
  rw [List.drop_eq_nil_of_le (by simp; omega)]
  rfl

theorem preB_short (s m : ByteArray) (i : Nat) (h : s.size - i < m.size) : preB s m i 0 = false := by
  cases e : preB s m i 0
  · rfl
  · unfold preB at e
    rw [List.isPrefixOf_iff_prefix] at e
    have := e.length_le
    simp at this
    omega

theorem ret_bool {a b : Bool} (h : a = b) : Ending.returned (.bool a) = .returned (.bool b) := by rw [h]

set_option maxHeartbeats 400000 in
theorem hasPrefixAt_any (s m : ByteArray) (i : Nat) (w : World) (hs : s.size ≤ 4000000) (hm : m.size ≤ 4000000) (hi : i ≤ s.size) :
    Calls Try.prog 41 #[.string s, .int .i64 i, .string m] w fun e w' => e = .returned (.bool (preB s m i 0)) ∧ ∃ n, w' = w.drewN n := by
  by_cases hlen : s.size - i < m.size
  · go_enter Try.func41, Try.ntmps41
    go_wp2
    go_ret
    exact ⟨ret_bool (preB_short s m i hlen).symm, 0, rfl⟩
  · go_enter Try.func41, Try.ntmps41
    go_wp2
    go_loopw [7] (fun j wr => ∃ k : Nat, k ≤ m.size ∧ j = .int .i64 k ∧ preB s m i 0 = preB s m i k ∧ ∃ n, wr = w.drewN n) (fun j _ => m.size - (intOf j).toNat)
    case atStart => exact ⟨0, Nat.zero_le _, rfl, rfl, 0, rfl⟩
    case round =>
      obtain ⟨k, hk, rfl, hag, n, rfl⟩ := hrel
      have HA : Hid (preB s m i 0 = preB s m i k) := hag
      clear hag
      by_cases hlt : k < m.size
      · have hwr : IntKind.i64.wrap ((i : Int) + (k : Int)) = (i : Int) + (k : Int) := by rw [IntKind.wrap_i64]; omega
        have hb1 : i + k < s.size := by omega
        have h00 : (0 : Int) ≤ (i : Int) + (k : Int) := by omega
        have h01 : (i : Int) + (k : Int) < (s.size : Int) := by omega
        have hb2 : ((i : Int) + (k : Int)).toNat = i + k := by omega
        go_wp2
        go_quiet (fail)
        go_wp2
        · go_ret
          exact ⟨ret_bool (by rw [HA.out]; exact (preB_stop s m i k hb1 hlt (by assumption)).symm), n + nq, World.drewN_drewN _ _ _⟩
        · go_roundw
          case rel => exact ⟨k + 1, by omega, by go_num, by rw [HA.out]; exact preB_step s m i k hb1 hlt (by assumption), n + nq, rfl⟩
          case measure => simp [intOf]; omega
      · go_wp2
        go_ret
        exact ⟨ret_bool (by rw [HA.out]; exact (preB_end s m i k hlt).symm), n, rfl⟩

/-- How often m begins in a list. -/
def cnt (m : List UInt8) : List UInt8 → Nat
  | [] => 0
  | c :: l => (if m.isPrefixOf (c :: l) then 1 else 0) + cnt m l

theorem preB_zero (s m : ByteArray) (i : Nat) : preB s m i 0 = m.data.toList.isPrefixOf (s.data.toList.drop i) := by simp [preB]

theorem cnt_short (m : List UInt8) : ∀ l : List UInt8, l.length < m.length → cnt m l = 0
  | [], _ => rfl
  | c :: l, h => by
    have e : m.isPrefixOf (c :: l) = false := by
      cases e : m.isPrefixOf (c :: l)
      · rfl
      · rw [List.isPrefixOf_iff_prefix] at e
        have := e.length_le
        omega
    have ih := cnt_short m l (by simp at h; omega)
    simp [cnt, e, ih]

theorem cnt_step (s m : ByteArray) (k : Nat) (h : k < s.size) : cnt m.data.toList (s.data.toList.drop k) = (if preB s m k 0 then 1 else 0) + cnt m.data.toList (s.data.toList.drop (k + 1)) := by
  rw [preB_zero, drop_ba s k h]; rfl

theorem ret_int {k : IntKind} {a b : Int} (h : a = b) : Ending.returned (.int k a) = .returned (.int k b) := by rw [h]

set_option maxHeartbeats 400000 in
theorem countOf_any (s m : ByteArray) (w : World) (hs : s.size ≤ 4000000) (hm : m.size ≤ 4000000) (hm0 : 0 < m.size) :
    Calls Try.prog 29 #[.string s, .string m] w fun e w' => e = .returned (.int .i64 (cnt m.data.toList s.data.toList)) ∧ ∃ n, w' = w.drewN n := by
  have hne : ((m.size : Int) == 0) = false := by rw [beq_eq_false_iff_ne]; omega
  go_enter Try.func29, Try.ntmps29
  go_wp2_with fail
  go_loopw [5, 6] (fun c i wr => ∃ N k : Nat, k ≤ s.size ∧ N ≤ k ∧ c = .int .i64 N ∧ i = .int .i64 k ∧ N + cnt m.data.toList (s.data.toList.drop k) = cnt m.data.toList s.data.toList ∧ ∃ n, wr = w.drewN n) (fun _ i _ => s.size - (intOf i).toNat)
  case atStart => exact ⟨0, 0, Nat.zero_le _, Nat.zero_le _, rfl, rfl, by simp, 0, rfl⟩
  case round =>
    obtain ⟨N, k, hk, hN, rfl, rfl, hc, n, rfl⟩ := hrel
    by_cases hlt : k + m.size ≤ s.size
    · have HC : Hid (N + ((if preB s m k 0 then 1 else 0) + cnt m.data.toList (s.data.toList.drop (k + 1))) = cnt m.data.toList s.data.toList) := by rw [← cnt_step s m k (by omega)]; exact hc
      clear hc
      go_wp2_with fail
      refine (hasPrefixAt_any s m k _ hs hm (by omega)).mono ?_
      rintro e w' ⟨rfl, nq, rfl⟩
      cases hp : preB s m k 0
      · have HP : Hid (preB s m k 0 = false) := hp
        clear hp
        go_wp2
        go_roundw
        case rel => exact ⟨N, k + 1, by omega, by omega, rfl, by go_num, by have := HC.out; rw [HP.out] at this; simpa using this, n + nq, rfl⟩
        case measure => simp [intOf]; omega
      · have HP : Hid (preB s m k 0 = true) := hp
        clear hp
        go_wp2
        go_roundw
        case rel => exact ⟨N + 1, k + 1, by omega, by omega, by go_num, by go_num, by have := HC.out; rw [HP.out] at this; simp at this; omega, n + nq, rfl⟩
        case measure => simp [intOf]; omega
    · have hz := cnt_short m.data.toList (s.data.toList.drop k) (by simp; omega)
      rw [hz] at hc
      have HC : Hid (N + 0 = cnt m.data.toList s.data.toList) := hc
      clear hc hz
      go_wp2
      go_ret
      exact ⟨ret_int (by have := HC.out; omega), n, rfl⟩

end Go.Proofs.Qxb6605653a
