import Derived.Test.Qxb6605653aHoldLaw
namespace Go.Proofs.Qxb6605653a
open Go.RowKit

theorem bytes31 (a b : ByteArray) (c : Int) (w : World) (h1 : a.size ≤ maxLen) (h2 : b.size ≤ maxLen) :
    Calls Try.prog 31 #[.string a, .string b, .int .i64 c] w fun e w' => e = .returned (.bool (decide (a.size + b.size ≤ 1048576))) ∧ w' = w := by
  unfold maxLen at h1 h2
  by_cases g1 : 1048576 < a.size
  · go_enter Try.func31, Try.ntmps31
    go_wp2
    go_ret
    exact ⟨ret_bool (by simp; omega), rfl⟩
  · by_cases g2 : 1048576 < b.size
    · go_enter Try.func31, Try.ntmps31
      go_wp2
      go_ret
      exact ⟨ret_bool (by simp; omega), rfl⟩
    · by_cases g3 : a.size + b.size ≤ 1048576
      · go_enter Try.func31, Try.ntmps31
        go_wp2
        go_ret
        exact ⟨ret_bool (by simp; omega), rfl⟩
      · go_enter Try.func31, Try.ntmps31
        go_wp2
        go_ret
        exact ⟨ret_bool (by simp; omega), rfl⟩

set_option maxHeartbeats 400000 in
theorem zzLast_any (w : World) :
    Calls Try.prog 11 #[.string ⟨#[99, 111, 109, 112, 108, 101, 116, 101, 100, 95, 97, 116]⟩] w fun e w' => e = .returned (.string ⟨Txt.ltc.toArray⟩) ∧ w' = w := by
  go_enter Try.func11, Try.ntmps11
  go_wp2_with fail
  refine (lastTaken_any _).mono ?_
  rintro e w' ⟨rfl, rfl⟩
  go_wp2
  go_ret
  exact ⟨rfl, rfl⟩

theorem bchain {A B C : World} (h : Below A.heap.size A B) (k : Below B.heap.size B C) : Below A.heap.size A C := h.trans (k.mono h.size)

theorem delL_len (st : List UInt8) (ty : Bool) : (delL st ty).length ≤ 2000 + 2 * st.length := by
  rw [delL_segs]
  have a : segA.length = 176 := by decide +kernel
  have b : (segB ty).length ≤ 300 := by cases ty <;> decide +kernel
  have c : (segC ty).length ≤ 700 := by cases ty <;> decide +kernel
  simp only [List.length_append]
  omega

set_option maxHeartbeats 1000000 in
theorem top9 (a0 : ByteArray) (a1 : ByteArray) (a2 : Int) (w0 : a0.size ≤ maxLen) (w1 : a1.size ≤ maxLen) (n0 : -9223372036854775808 ≤ a2) (n1 : a2 ≤ 9223372036854775807) (w : World) :
    Calls Try.prog 9 #[.string a0, .string a1, .int .i64 a2] w fun e w' => e = .returned (.bool true) ∧ Below w.heap.size w w' := by
  by_cases hsum : a0.size + a1.size ≤ 1048576
  · have hd : decide (a0.size + a1.size ≤ 1048576) = true := by simp; omega
    go_enter Try.func9, Try.ntmps9
    go_wp2_with fail
    refine (bytes31 a0 a1 a2 _ w0 w1).mono ?_
    rintro e w' ⟨rfl, rfl⟩
    rw [hd]
    go_wp2_with fail
    refine (isPlainWord_any a0 _ (by omega)).mono ?_
    rintro e w2 ⟨rfl | ⟨rfl, htame⟩, rfl⟩
    · go_wp2_with fail
      go_ret
      exact ⟨rfl, Below.refl _ _⟩
    have HT : Hid (Tame a0.data.toList) := htame
    clear htame
    go_wp2_with fail
    refine (timeAt_any a2 _ n0 n1).mono ?_
    rintro e wa ⟨rfl, hba⟩
    unfold tmv
    go_wp2_with fail
    refine (zzDel_any a0 a1 _ _ _ (by omega)).mono ?_
    rintro e wb ⟨⟨g, rfl, hg⟩, hbb⟩
    have HG : Hid (g.data.toList = delL a0.data.toList (!a1.toList.isEmpty)) := hg
    clear hg
    have hgs : g.size ≤ 4000000 := by
      have h1 := delL_len a0.data.toList (!a1.toList.isEmpty)
      have h2 : g.data.toList.length = (delL a0.data.toList (!a1.toList.isEmpty)).length := by rw [HG.out]
      have h3 : g.data.toList.length = g.size := by simp
      have h4 : a0.data.toList.length = a0.size := by simp
      omega
    go_wp2_with fail
    refine (holders_any g (!a1.toList.isEmpty) _ hgs (by rw [HG.out]; exact holders_law _ _ HT.out)).mono ?_
    rintro e wc ⟨rfl, hbc⟩
    go_wp2_with fail
    refine (zzLast_any _).mono ?_
    rintro e wd ⟨rfl, rfl⟩
    go_wp2_with fail
    refine (countOf_any g ⟨Txt.ltc.toArray⟩ _ hgs (by rw [ltc_size]; omega) (by rw [ltc_size]; omega)).mono ?_
    rintro e we ⟨rfl, m1, rfl⟩
    rw [show ((cnt (ByteArray.mk Txt.ltc.toArray).data.toList g.data.toList : Nat) : Int) = 1 from by rw [HG.out]; exact congrArg Nat.cast (count_law _ _ HT.out)]
    go_wp2_with fail
    go_ret
    exact ⟨rfl, below_drewN (bchain (bchain hba hbb) hbc) m1⟩
  · have hd : decide (a0.size + a1.size ≤ 1048576) = false := by simp; omega
    go_enter Try.func9, Try.ntmps9
    go_wp2_with fail
    refine (bytes31 a0 a1 a2 _ w0 w1).mono ?_
    rintro e w' ⟨rfl, rfl⟩
    rw [hd]
    go_wp2_with fail
    go_ret
    exact ⟨rfl, Below.refl _ _⟩

end Go.Proofs.Qxb6605653a
