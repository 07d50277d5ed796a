import Derived.Test.Qxb6605653aFillLaw
namespace Go.Proofs.Qxb6605653a
open Go.RowKit

theorem bytes27 (a b : ByteArray) (c : Int) (w : World) (h1 : a.size ≤ maxLen) (h2 : b.size ≤ maxLen) :
    Calls Try.prog 27 #[.string a, .string b, .int .i64 c] w fun e w' => e = .returned (.bool (decide (a.size + b.size ≤ 1048576))) ∧ w' = w := by
  unfold maxLen at h1 h2
  by_cases g1 : 1048576 < a.size
  · go_enter Try.func27, Try.ntmps27
    go_wp2
    go_ret
    exact ⟨ret_bool (by simp; omega), rfl⟩
  · by_cases g2 : 1048576 < b.size
    · go_enter Try.func27, Try.ntmps27
      go_wp2
      go_ret
      exact ⟨ret_bool (by simp; omega), rfl⟩
    · by_cases g3 : a.size + b.size ≤ 1048576
      · go_enter Try.func27, Try.ntmps27
        go_wp2
        go_ret
        exact ⟨ret_bool (by simp; omega), rfl⟩
      · go_enter Try.func27, Try.ntmps27
        go_wp2
        go_ret
        exact ⟨ret_bool (by simp; omega), rfl⟩

theorem empty_args : delL (ByteArray.mk #[]).data.toList (!(ByteArray.mk #[]).toList.isEmpty) = delL [] false := by
  rw [show (!(ByteArray.mk #[]).toList.isEmpty) = false from by kernel_rfl]

theorem bchain {A B C : World} (h : Below A.heap.size A B) (k : Below B.heap.size B C) : Below A.heap.size A C := h.trans (k.mono h.size)

theorem fill_any (base st : ByteArray) (ty : Bool) (w : World) (hb : base.size ≤ 4000000) (hs : st.size ≤ 1048576) :
    Calls Try.prog 30 #[.string base, .string st, .bool ty] w fun e w' => (∃ g : ByteArray, e = .returned (.string g) ∧ g.data.toList = fillL st.data.toList ty base.size base.data.toList) ∧ Below w.heap.size w w' := by
  cases ty
  · exact fill_F base st w hb hs
  · exact fill_T base st w hb hs

theorem fill_law (st : List UInt8) (ty : Bool) : fillL st ty 1011 (delL [] false) = delL st ty := by
  cases ty
  · exact fill_plain st
  · exact fill_typed st

set_option maxHeartbeats 1000000 in
theorem top8 (a0 : ByteArray) (a1 : ByteArray) (a2 : Int) (w0 : a0.size ≤ maxLen) (w1 : a1.size ≤ maxLen) (n0 : -9223372036854775808 ≤ a2) (n1 : a2 ≤ 9223372036854775807) (w : World) :
    Calls Try.prog 8 #[.string a0, .string a1, .int .i64 a2] w fun e w' => e = .returned (.bool true) ∧ Below w.heap.size w w' := by
  by_cases hsum : a0.size + a1.size ≤ 1048576
  · have hd : decide (a0.size + a1.size ≤ 1048576) = true := by simp; omega
    go_enter Try.func8, Try.ntmps8
    go_wp2_with fail
    refine (bytes27 a0 a1 a2 _ w0 w1).mono ?_
    rintro e w' ⟨rfl, rfl⟩
    rw [hd]
    go_wp2_with fail
    refine (timeAt_any a2 _ n0 n1).mono ?_
    rintro e wa ⟨rfl, hba⟩
    unfold tmv
    go_wp2_with fail
    refine (zzDel_any a0 a1 _ _ _ (by omega)).mono ?_
    rintro e wb ⟨⟨g, rfl, hg⟩, hbb⟩
    have HG : Hid (g.data.toList = delL a0.data.toList (!a1.toList.isEmpty)) := hg
    clear hg
    go_wp2_with fail
    refine (timeAt_any 0 _ (by omega) (by omega)).mono ?_
    rintro e wc ⟨rfl, hbc⟩
    unfold tmv
    go_wp2_with fail
    refine (zzDel_any ⟨#[]⟩ ⟨#[]⟩ _ _ _ (by show 0 ≤ 1048576; omega)).mono ?_
    rintro e wd ⟨⟨t, rfl, ht⟩, hbd⟩
    have ht' : t.data.toList = delL [] false := ht.trans empty_args
    have htl : t.size = 1011 := by
      have := congrArg List.length ht'
      rw [base_len] at this
      simpa using this
    have HB : Hid (t.data.toList = delL [] false) := ht'
    clear ht ht'
    have HS : Hid (t.size = 1011) := htl
    clear htl
    have hts : t.size ≤ 4000000 := by have := HS.out; omega
    go_wp2_with fail
    refine (countOf_any t ⟨#[106, 46, 115, 116, 97, 116, 101, 32, 61, 32, 39]⟩ _ hts (by show 11 ≤ 4000000; omega) (by decide)).mono ?_
    rintro e we ⟨rfl, n1, rfl⟩
    rw [show ((cnt (ByteArray.mk #[106, 46, 115, 116, 97, 116, 101, 32, 61, 32, 39]).data.toList t.data.toList : Nat) : Int) = 2 from by rw [HB.out]; exact congrArg Nat.cast base_cntA]
    go_wp2_with fail
    refine (countOf_any t ⟨#[106, 46, 99, 111, 109, 112, 108, 101, 116, 101, 100, 95, 97, 116, 32, 60, 32, 36, 49]⟩ _ hts (by show 19 ≤ 4000000; omega) (by decide)).mono ?_
    rintro e we ⟨rfl, n2, rfl⟩
    rw [show ((cnt (ByteArray.mk #[106, 46, 99, 111, 109, 112, 108, 101, 116, 101, 100, 95, 97, 116, 32, 60, 32, 36, 49]).data.toList t.data.toList : Nat) : Int) = 2 from by rw [HB.out]; exact congrArg Nat.cast base_cntC]
    go_wp2_with fail
    refine (fill_any t a0 (!a1.toList.isEmpty) _ hts (by omega)).mono ?_
    rintro e wf ⟨⟨g2, rfl, hg2⟩, hbf⟩
    have heq : (g.toList == g2.toList) = true := by
      rw [ByteArray.toList_eq, ByteArray.toList_eq, HG.out, hg2, HS.out, HB.out, fill_law]
      exact beq_self_eq_true _
    have HF : Hid (Below (wd.drewN (n1 + n2)).heap.size (wd.drewN (n1 + n2)) wf) := hbf
    clear hg2 hbf
    go_wp2_with fail
    go_ret
    exact ⟨rfl, bchain ((bchain (bchain (bchain hba hbb) hbc) hbd).trans (below_drewN (Below.refl _ _) (n1 + n2))) HF.out⟩
  · have hd : decide (a0.size + a1.size ≤ 1048576) = false := by simp; omega
    go_enter Try.func8, Try.ntmps8
    go_wp2_with fail
    refine (bytes27 a0 a1 a2 _ w0 w1).mono ?_
    rintro e w' ⟨rfl, rfl⟩
    rw [hd]
    go_wp2_with fail
    go_ret
    exact ⟨rfl, Below.refl _ _⟩

end Go.Proofs.Qxb6605653a
