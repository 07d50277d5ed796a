import Derived.Test.Qxb6605653aUnseen
namespace Go.Proofs.Qxb6605653a
open Go.RowKit

set_option maxHeartbeats 1000000 in
theorem zzUnseen_any (p : Nat) (xs : List Rd) (q : Rd) (w : World) (hn : xs.length ≤ 1048576) (h : Wk w p xs) (hok : ∀ r ∈ xs, r.ok) :
    Calls Try.prog 18 #[.pointer (some ⟨p, 0, none⟩), q.timed] w fun e w' => e = .returned (.tuple #[.agg #[.int .u64 (unT xs q.o % 1000000000), .int .i64 (unT xs q.o / 1000000000), .pointer none], .int .i64 (unS xs q.o)]) ∧ Below w.heap.size w w' ∧ w.heap.size < w'.heap.size := by
  have hk : ∀ w', Below w.heap.size w w' → Wk w' p xs := by
    obtain ⟨g, cap, h0, h1⟩ := h
    intro w' hb
    exact ⟨g, cap, (hb.cell (p := ⟨p, 5, none⟩) (World.block_lt_of_cell? _ _ h0)).trans h0, fun k r hr j u hu => (hb.cell (p := ⟨g, k * 10 + j, none⟩) (World.block_lt_of_cell? _ _ (h1 k r hr j u hu))).trans (h1 k r hr j u hu)⟩
  have HK : Hid (∀ w', Below w.heap.size w w' → Wk w' p xs) := hk
  have HO : Hid (∀ r ∈ xs, r.ok) := hok
  clear h hk hok
  unfold Rd.timed
  obtain ⟨qq, qo, qx, qb, ql, qa⟩ := q
  go_enter Try.func18, Try.ntmps18
  go_wp2_with fail
  refine (unseen_any p xs ⟨qq, qo, qx, qb, ql, qa⟩ _ hn (HK.out _ (((Below.refl _ _).alloc (Nat.le_refl _) _).alloc (by simp) _)) HO.out).mono ?_
  rintro e w1 ⟨rfl, hb1⟩
  have hz1 : w.heap.size + 1 < w1.heap.size := by have := hb1.size; simp at this; omega
  obtain ⟨hc1, hf1⟩ := bcell hb1
  go_wp2_with fail
  refine bodyPost_ret (v := .tuple #[.agg #[.int .u64 (unT xs qo % 1000000000), .int .i64 (unT xs qo / 1000000000), .pointer none], .int .i64 (unS xs qo)]) (by simp [results, Try.results18, go_sem, hc1]) rfl ⟨rfl, ?_, by simp [World.setCell]; omega⟩
  exact (((((((Below.refl _ _).alloc (Nat.le_refl _) _).alloc (by simp) _).trans (hb1.mono (by simp; omega))).setCell (by simp) _).setCell (by simp) _).setCell (by simp) _)

end Go.Proofs.Qxb6605653a
