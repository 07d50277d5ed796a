import Derived.Test.Qxb6605653aTime
import Derived.Test.Qxb6605653aText
namespace Go.Proofs.Qxb6605653a
open Go.RowKit

/-- The condition on the doomed jobs. -/
def doomL (st : List UInt8) (typed : Bool) : List UInt8 := Txt.doomA ++ st ++ Txt.doomB ++ (if typed then Txt.typ else [])
/-- What pgstore.deleteStatement computes. -/
def delL (st : List UInt8) (typed : Bool) : List UInt8 := Txt.p1 ++ doomL st typed ++ Txt.p2 ++ doomL st typed ++ Txt.p3 ++ Txt.ltc ++ Txt.p4

set_option maxHeartbeats 400000 in
theorem lastTaken_any (w : World) :
    Calls Try.prog 34 #[.string ⟨#[99, 111, 109, 112, 108, 101, 116, 101, 100, 95, 97, 116]⟩] w fun e w' => e = .returned (.string ⟨Txt.ltc.toArray⟩) ∧ w' = w := by
  go_enter Try.func34, Try.ntmps34
  go_wp2
  go_ret
  exact ⟨by kernel_rfl, rfl⟩

theorem ltc_size : (ByteArray.mk Txt.ltc.toArray).size = 123 := by kernel_rfl

theorem da (a b : ByteArray) : (a ++ b).data.toList = a.data.toList ++ b.data.toList := by
  simp [ByteArray.data_append]

theorem doomL_plain (l : List UInt8) : doomL l false = Txt.doomA ++ l ++ Txt.doomB := by simp [doomL]
theorem doomL_typed (l : List UInt8) : doomL l true = Txt.doomA ++ l ++ Txt.doomB ++ Txt.typ := by simp [doomL]

set_option maxRecDepth 100000 in
set_option maxHeartbeats 400000 in
theorem delStmt_plain (st ty : ByteArray) (x s : Int) (w : World) (h1 : st.size ≤ 1048576) (h3 : (ty.toList.isEmpty) = true)  :
    Calls Try.prog 40 #[.agg #[.string st, .string ty, .int .u64 x, .int .i64 s, .pointer none]] w fun e w' => (∃ g : ByteArray, e = .returned (.string g) ∧ g.data.toList = delL st.data.toList false) ∧ Below w.heap.size w w' := by
  have hl := ltc_size
  generalize hX : ByteArray.mk Txt.ltc.toArray = X at hl
  have HX : Hid (ByteArray.mk Txt.ltc.toArray = X) := hX
  clear hX
  go_enter Try.func40, Try.ntmps40
  go_wp2_with (go_at_call 34; refine (lastTaken_any _).mono ?_; rintro e w' ⟨rfl, rfl⟩; rw [HX.out])
  go_ret
  refine ⟨⟨_, rfl, ?_⟩, (Below.refl _ _).alloc (Nat.le_refl _) _⟩
  rw [← HX.out]
  simp only [da, delL, doomL_plain]
  kernel_rfl

set_option maxRecDepth 100000 in
set_option maxHeartbeats 400000 in
theorem delStmt_typed (st ty : ByteArray) (x s : Int) (w : World) (h1 : st.size ≤ 1048576) (h3 : (ty.toList.isEmpty) = false)  :
    Calls Try.prog 40 #[.agg #[.string st, .string ty, .int .u64 x, .int .i64 s, .pointer none]] w fun e w' => (∃ g : ByteArray, e = .returned (.string g) ∧ g.data.toList = delL st.data.toList true) ∧ Below w.heap.size w w' := by
  have hl := ltc_size
  generalize hX : ByteArray.mk Txt.ltc.toArray = X at hl
  have HX : Hid (ByteArray.mk Txt.ltc.toArray = X) := hX
  clear hX
  go_enter Try.func40, Try.ntmps40
  go_wp2_with (go_at_call 34; refine (lastTaken_any _).mono ?_; rintro e w' ⟨rfl, rfl⟩; rw [HX.out])
  go_ret
  refine ⟨⟨_, rfl, ?_⟩, (Below.refl _ _).alloc (Nat.le_refl _) _⟩
  rw [← HX.out]
  simp only [da, delL, doomL_typed]
  kernel_rfl

theorem delStmt_any (st ty : ByteArray) (x s : Int) (w : World) (h1 : st.size ≤ 1048576) :
    Calls Try.prog 40 #[.agg #[.string st, .string ty, .int .u64 x, .int .i64 s, .pointer none]] w fun e w' => (∃ g : ByteArray, e = .returned (.string g) ∧ g.data.toList = delL st.data.toList (!ty.toList.isEmpty)) ∧ Below w.heap.size w w' := by
  cases h : ty.toList.isEmpty
  · exact delStmt_typed st ty x s w h1 h
  · exact delStmt_plain st ty x s w h1 h

set_option maxHeartbeats 400000 in
/-- pgstore.ZZdeleteStatement. -/
theorem zzDel_any (st ty : ByteArray) (x s : Int) (w : World) (h1 : st.size ≤ 1048576) :
    Calls Try.prog 28 #[.string st, .string ty, .agg #[.int .u64 x, .int .i64 s, .pointer none]] w fun e w' => (∃ g : ByteArray, e = .returned (.string g) ∧ g.data.toList = delL st.data.toList (!ty.toList.isEmpty)) ∧ Below w.heap.size w w' := by
  go_enter Try.func28, Try.ntmps28
  go_wp2_with fail
  refine (delStmt_any st ty x s _ h1).mono ?_
  rintro e w1 ⟨⟨g, rfl, hg⟩, hb⟩
  have HG : Hid (g.data.toList = delL st.data.toList (!ty.toList.isEmpty)) := hg
  clear hg
  go_wp2
  go_ret
  exact ⟨⟨g, rfl, HG.out⟩, ((Below.refl _ _).alloc (Nat.le_refl _) _).trans (hb.mono (by simp))⟩

end Go.Proofs.Qxb6605653a
