import Derived.Test.Qxb6605758aRows
import Derived.WalkKit
import Derived.WalkSpells
import Derived.WalkLawsBesides
import Derived.BigQuiet
namespace Go.Proofs.Qxb6605758a
open Go.RowKit

theorem bcell {W w1 : World} (hb : Below W.heap.size W w1) : (∀ b o, b < W.heap.size → w1.cell? ⟨b, o, none⟩ = W.cell? ⟨b, o, none⟩) ∧ (∀ b o, b < W.heap.size → w1.frozen? ⟨b, o, none⟩ = W.frozen? ⟨b, o, none⟩) :=
  ⟨fun b o h => hb.cell (p := ⟨b, o, none⟩) h, fun b o h => hb.frozen (p := ⟨b, o, none⟩) h⟩

theorem method_pos (a : Addr) (w : World) : (method 158 28 (.pointer (some a)) "Pos").run Try.prog w = .ok (23, .pointer (some a)) w := by kernel_rfl

set_option maxHeartbeats 1000000 in
/-- (*String).Pos -/
theorem stringPos_any (b : Nat) (c d : Int) (w : World) (h0 : w.cell? ⟨b, 0, none⟩ = some (.int .i64 c)) (h1 : w.cell? ⟨b, 1, none⟩ = some (.int .i64 d)) :
    Calls Try.prog 23 #[.pointer (some ⟨b, 0, none⟩)] w fun e w' => e = .returned (.agg #[.int .i64 c, .int .i64 d]) ∧ Below w.heap.size w w' := by
  have hb := World.block_lt_of_cell? _ _ h0
  go_enter Try.func23, Try.ntmps23
  go_wp2
  refine bodyPost_ret (v := .agg #[.int .i64 c, .int .i64 d]) (by simp [results, Try.results23, go_sem]) rfl ⟨rfl, ?_⟩
  exact (Below.refl _ _).alloc (Nat.le_refl _) _

set_option maxHeartbeats 1000000 in
/-- (*Arg).Pos, a name is given. -/
theorem argPos_named (g : Nat) (s : ByteArray) (a b : Int) (w : World) (hs : s.toList.isEmpty = false) (h0 : w.cell? ⟨g, 0, none⟩ = some (.string s)) (h1 : w.cell? ⟨g, 1, none⟩ = some (.int .i64 a)) (h2 : w.cell? ⟨g, 2, none⟩ = some (.int .i64 b)) :
    Calls Try.prog 6 #[.pointer (some ⟨g, 0, none⟩)] w fun e w' => e = .returned (.agg #[.int .i64 a, .int .i64 b]) ∧ Below w.heap.size w w' := by
  have hb := World.block_lt_of_cell? _ _ h0
  go_enter Try.func6, Try.ntmps6
  go_wp2
  refine bodyPost_ret (v := .agg #[.int .i64 a, .int .i64 b]) (by simp [results, Try.results6, go_sem]) rfl ⟨rfl, ?_⟩
  exact (Below.refl _ _).alloc (Nat.le_refl _) _

set_option maxHeartbeats 1000000 in
/-- (*Arg).Pos, no name. -/
theorem argPos_plain (g b : Nat) (s : ByteArray) (c d : Int) (w : World) (hs : s.toList.isEmpty = true) (h0 : w.cell? ⟨g, 0, none⟩ = some (.string s)) (h3 : w.cell? ⟨g, 3, none⟩ = some (.iface 28 (.pointer (some ⟨b, 0, none⟩))))
    (k0 : w.cell? ⟨b, 0, none⟩ = some (.int .i64 c)) (k1 : w.cell? ⟨b, 1, none⟩ = some (.int .i64 d)) :
    Calls Try.prog 6 #[.pointer (some ⟨g, 0, none⟩)] w fun e w' => e = .returned (.agg #[.int .i64 c, .int .i64 d]) ∧ Below w.heap.size w w' := by
  have hg := World.block_lt_of_cell? _ _ h0
  have hb := World.block_lt_of_cell? _ _ k0
  have hm := method_pos
  go_enter Try.func6, Try.ntmps6
  go_wp2_with fail
  refine (stringPos_any b c d _ ((((Below.refl w.heap.size w).alloc (Nat.le_refl _) _).cell (p := ⟨b, 0, none⟩) hb).trans k0) ((((Below.refl w.heap.size w).alloc (Nat.le_refl _) _).cell (p := ⟨b, 1, none⟩) hb).trans k1)).mono ?_
  rintro e w1 ⟨rfl, hb1⟩
  have hz : w.heap.size < w1.heap.size := by have := hb1.size; simp at this; omega
  obtain ⟨hc1, hf1⟩ := bcell hb1
  go_wp2_with fail
  refine bodyPost_ret (v := .agg #[.int .i64 c, .int .i64 d]) (by simp [results, Try.results6, go_sem, hc1]) rfl ⟨rfl, ?_⟩
  exact ((((Below.refl _ _).alloc (Nat.le_refl _) _).trans (hb1.mono (by simp))).setCell (by simp) _).setCell (by simp) _

/-- What ZZargPos answers. -/
def pick2 (s : ByteArray) (x y : Int) : Int := if s.toList.isEmpty then y else x

set_option maxHeartbeats 1000000 in
theorem zzArgPos_any (s : ByteArray) (a b c d : Int) (w : World) :
    Calls Try.prog 5 #[.string s, .int .i64 a, .int .i64 b, .int .i64 c, .int .i64 d] w fun e w' => e = .returned (.tuple #[.int .i64 (pick2 s a c), .int .i64 (pick2 s b d)]) ∧ Below w.heap.size w w' := by
  cases hs : s.toList.isEmpty
  · have e1 : pick2 s a c = a := by simp [pick2, hs]
    have e2 : pick2 s b d = b := by simp [pick2, hs]
    rw [e1, e2]
    clear e1 e2
    go_enter Try.func5, Try.ntmps5
    go_wp2_with fail
    refine (argPos_named _ s a b _ hs (by simp) (by simp) (by simp)).mono ?_
    rintro e w1 ⟨rfl, hb1⟩
    go_wp2_with fail
    go_quiet (fail)
    go_wp2_with fail
    go_ret2
    exact ⟨rfl, below_drewN (((((Below.refl w.heap.size w).alloc (Nat.le_refl _) _).alloc (by simp) _).trans (hb1.mono (by simp; omega))).alloc (by have := hb1.size; simp at this; omega) _) nq⟩
  · have e1 : pick2 s a c = c := by simp [pick2, hs]
    have e2 : pick2 s b d = d := by simp [pick2, hs]
    rw [e1, e2]
    clear e1 e2
    go_enter Try.func5, Try.ntmps5
    go_wp2_with fail
    refine (argPos_plain _ w.heap.size s c d _ hs (by simp) (by simp) (by simp) (by simp)).mono ?_
    rintro e w1 ⟨rfl, hb1⟩
    go_wp2_with fail
    go_quiet (fail)
    go_wp2_with fail
    go_ret2
    exact ⟨rfl, below_drewN (((((Below.refl w.heap.size w).alloc (Nat.le_refl _) _).alloc (by simp) _).trans (hb1.mono (by simp; omega))).alloc (by have := hb1.size; simp at this; omega) _) nq⟩

theorem pick_empty (x y : Int) : pick2 ⟨#[]⟩ x y = y := by
  unfold pick2
  rw [show (ByteArray.mk #[]).toList.isEmpty = true from by kernel_rfl]
  rfl

theorem ret_bool {a b : Bool} (h : a = b) : Ending.returned (.bool a) = .returned (.bool b) := by rw [h]

set_option maxHeartbeats 400000 in
theorem bytes4 (s : ByteArray) (a b c d e f : Int) (w : World) (h1 : s.size ≤ maxLen) :
    Calls Try.prog 4 #[.string s, .int .i64 a, .int .i64 b, .int .i64 c, .int .i64 d, .int .i64 e, .int .i64 f] w fun en w' => en = .returned (.bool (decide (s.size ≤ 1048576))) ∧ w' = w := by
  unfold maxLen at h1
  by_cases g1 : s.size ≤ 1048576
  · go_enter Try.func4, Try.ntmps4
    go_wp2
    go_ret
    exact ⟨ret_bool (by simp; omega), rfl⟩
  · go_enter Try.func4, Try.ntmps4
    go_wp2
    go_ret
    exact ⟨ret_bool (by simp; omega), rfl⟩

theorem bchain {A B C : World} (h : Below A.heap.size A B) (k : Below B.heap.size B C) : Below A.heap.size A C := h.trans (k.mono h.size)

set_option maxHeartbeats 2000000 in
theorem top3 (s : ByteArray) (a b c d e f : Int) (w : World) (h1 : s.size ≤ maxLen) :
    Calls Try.prog 3 #[.string s, .int .i64 a, .int .i64 b, .int .i64 c, .int .i64 d, .int .i64 e, .int .i64 f] w fun en w' => en = .returned (.bool true) ∧ Below w.heap.size w w' := by
  by_cases g1 : s.size ≤ 1048576
  · have hd : decide (s.size ≤ 1048576) = true := by simp; omega
    go_enter Try.func3, Try.ntmps3
    go_wp2_with fail
    refine (bytes4 s a b c d e f _ h1).mono ?_
    rintro en w' ⟨rfl, rfl⟩
    rw [hd]
    go_wp2_with fail
    refine (zzArgPos_any s a b c d _).mono ?_
    rintro en w1 ⟨rfl, hb1⟩
    go_wp2_with fail
    refine (zzArgPos_any s a b e f _).mono ?_
    rintro en w2 ⟨rfl, hb2⟩
    go_wp2_with fail
    refine (zzArgPos_any ⟨#[]⟩ a b c d _).mono ?_
    rintro en w3 ⟨rfl, hb3⟩
    have hB : Hid (Below w'.heap.size w' w3) := bchain (bchain hb1 hb2) hb3
    clear hb1 hb2 hb3
    have p1 : pick2 ⟨#[]⟩ a c = c := pick_empty a c
    have p2 : pick2 ⟨#[]⟩ b d = d := pick_empty b d
    rw [p1, p2]
    clear p1 p2
    cases hs : s.toList.isEmpty
    · have q1 : ∀ x y, pick2 s x y = x := fun x y => by simp [pick2, hs]
      rw [q1, q1, q1, q1]
      clear q1
      by_cases ac : a = c
      · subst ac
        by_cases bd : b = d
        · subst bd
          go_wp2_with fail
          go_ret
          exact ⟨rfl, hB.out⟩
        · have hbd : (b == d) = false := by simp [bd]
          go_wp2_with fail
          go_ret
          exact ⟨rfl, hB.out⟩
      · have hac : (a == c) = false := by simp [ac]
        go_wp2_with fail
        go_ret
        exact ⟨rfl, hB.out⟩
    · have q1 : ∀ x y, pick2 s x y = y := fun x y => by simp [pick2, hs]
      rw [q1, q1, q1, q1]
      clear q1
      by_cases ac : c = e
      · subst ac
        by_cases bd : d = f
        · subst bd
          go_wp2_with fail
          go_ret
          exact ⟨rfl, hB.out⟩
        · have hbd : (d == f) = false := by simp [bd]
          go_wp2_with fail
          go_ret
          exact ⟨rfl, hB.out⟩
      · have hac : (c == e) = false := by simp [ac]
        go_wp2_with fail
        go_ret
        exact ⟨rfl, hB.out⟩
  · have hd : decide (s.size ≤ 1048576) = false := by simp; omega
    go_enter Try.func3, Try.ntmps3
    go_wp2_with fail
    refine (bytes4 s a b c d e f _ h1).mono ?_
    rintro en w' ⟨rfl, rfl⟩
    rw [hd]
    go_wp2_with fail
    go_ret
    exact ⟨rfl, Below.refl _ _⟩

end Go.Proofs.Qxb6605758a
