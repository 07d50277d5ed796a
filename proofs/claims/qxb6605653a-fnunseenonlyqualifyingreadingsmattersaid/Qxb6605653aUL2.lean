import Derived.Test.Qxb6605653aUL
namespace Go.Proofs.Qxb6605653a
open Go.RowKit

set_option maxHeartbeats 1000000 in
theorem copy_cap (ao : Option Addr) (xs : List Rd) (cap : Nat) (w : World) (hn : xs.length ≤ 1048576) (h : Rds w ao xs) :
    Calls Try.prog 17 #[.slice ao xs.length cap] w fun e w' => ∃ ao' cap', e = .returned (.slice ao' xs.length cap') ∧ Rds w' ao' xs ∧ Below w.heap.size w w' ∧ xs.length ≤ cap' := by
  have hnil := fun (w : World) (a : Option Addr) (l c : Nat) => Lib.run_eql_slice_nil (P := Try.prog) w 27 29 a l c 0 0 Try.underlying27
  cases ao with
  | none =>
    have hx : xs = [] := by rcases h with h | ⟨b, off, h, _⟩; exact h; cases h
    subst hx
    go_enter Try.func17, Try.ntmps17
    go_wp2
    go_ret
    exact ⟨none, 0, rfl, .inl rfl, Below.refl _ _, Nat.le_refl _⟩
  | some a =>
    obtain ⟨i0, hi, hz0, hz1, hz2⟩ := info_parts Try.info29
    go_enter Try.func17, Try.ntmps17
    go_wp2_with (at_make; refine wpList_make_full _ rfl _ _ 27 rfl w.heap.size 29 i0 _ 6 Try.underlying27 hi hz0 hz1 .i64 .i64 _ _ xs.length rfl rfl rfl rfl (by rw [hz2]; omega) (by unfold maxLen; omega) (Nat.le_refl _) ?_; intro w1 hown hgr)
    have hI := CopyInv.start (xs := xs) hown hgr
    clear hown hgr hi hz0 hz1 hz2
    go_loopw [4] (fun i wr => ∃ k : Nat, k ≤ xs.length ∧ i = .int .i64 k ∧ CopyInv w wr w.heap.size xs.length k xs) (fun i _ => xs.length - (intOf i).toNat)
    case atStart => exact ⟨0, Nat.zero_le _, rfl, hI⟩
    case round =>
      obtain ⟨k, hk, rfl, hI'⟩ := hrel
      clear hI
      by_cases hlt : k < xs.length
      · obtain ⟨b, off, r, ha, hr, c0, c1, c2, c3, c4, c5⟩ := (h.keep hI'.1).at hlt
        cases ha
        have hfz := hI'.2.2.1
        obtain ⟨u0, d0⟩ := Option.isSome_iff_exists.1 (hI'.2.1 (k * 6) (by omega))
        obtain ⟨u1, d1⟩ := Option.isSome_iff_exists.1 (hI'.2.1 (k * 6 + 1) (by omega))
        obtain ⟨u2, d2⟩ := Option.isSome_iff_exists.1 (hI'.2.1 (k * 6 + 2) (by omega))
        obtain ⟨u3, d3⟩ := Option.isSome_iff_exists.1 (hI'.2.1 (k * 6 + 3) (by omega))
        obtain ⟨u4, d4⟩ := Option.isSome_iff_exists.1 (hI'.2.1 (k * 6 + 4) (by omega))
        obtain ⟨u5, d5⟩ := Option.isSome_iff_exists.1 (hI'.2.1 (k * 6 + 5) (by omega))
        have hN : Hid (CopyInv w (wr.setCells w.heap.size (k * 6) r.vals) w.heap.size xs.length (k + 1) xs) := hI'.step hlt rfl hr
        clear hI' hr h
        go_wp2
        go_roundw
        case rel => exact ⟨k + 1, by omega, by go_num, hN.out⟩
        case measure => simp [intOf]; omega
      · have e : k = xs.length := by omega
        subst e
        have hP : Rds wr (some ⟨w.heap.size, 0, none⟩) xs := .inr ⟨_, _, rfl, by have := hI'.2.2.2.1; simpa using this⟩
        have HP : Hid (Rds wr (some ⟨w.heap.size, 0, none⟩) xs) := hP
        have HB : Hid (Below w.heap.size w wr) := hI'.1
        clear hP hI' h
        go_wp2
        go_ret
        exact ⟨some ⟨w.heap.size, 0, none⟩, xs.length, rfl, HP.out, HB.out, Nat.le_refl _⟩

/-- buildWalks, the length by a name of its own. -/
theorem build_n (ao : Option Addr) (xs : List Rd) (n cap : Nat) (w : World) (hl : xs.length = n) (hn : n ≤ 1048576) (h : Rds w ao xs) (hok : ∀ r ∈ xs, r.ok) :
    Calls Try.prog 19 #[.slice ao n cap] w fun e w' => ∃ p, e = .returned (.pointer (some ⟨p, 0, none⟩)) ∧ Wk w' p xs ∧ Below w.heap.size w w' ∧ w.heap.size < w'.heap.size := by
  subst hl
  exact build_any ao xs cap w hn h hok

theorem lat_le {xs : List Rd} {o : Int} : ∀ {n j : Nat}, lat xs o n = j → ∃ r, xs[j]? = some r ∧ r.x ≤ o
  | 0, j, h => by simp [lat] at h
  | n + 1, j, h => by
    unfold lat at h
    split at h
    · rename_i r hr
      by_cases hx : r.x ≤ o
      · rw [if_pos hx] at h
        have : n = j := by omega
        subst this
        exact ⟨r, hr, hx⟩
      · rw [if_neg hx] at h
        exact lat_le h
    · exact lat_le h

theorem seqT_congr {xs ys : List Rd} {f : Int} : ∀ k : Nat, (∀ i, i < k → xs[i]? = ys[i]?) → seqT xs f k = seqT ys f k
  | 0, _ => rfl
  | k + 1, h => by
    unfold seqT
    rw [h k (by omega), seqT_congr k (fun i hi => h i (by omega))]

theorem take_get (xs : List Rd) (j i : Nat) (h : i < j) : (xs.take j)[i]? = xs[i]? := by
  rw [List.getElem?_take, if_pos h]

/-- The readings behind the latest qualifying one do not matter: none qualifies. -/
theorem un_nil (o : Int) : unT [] o = 0 ∧ unS [] o = 0 := ⟨unT_none rfl, unS_none rfl⟩

/-- .. one qualifies. -/
theorem un_take {xs : List Rd} {o : Int} {j : Nat} (hj : lat xs o xs.length = j) : unT (xs.take (j + 1)) o = unT xs o ∧ unS (xs.take (j + 1)) o = unS xs o := by
  obtain ⟨r, hr, hx⟩ := lat_le hj
  have hjl : j < xs.length := (List.getElem?_eq_some_iff.1 hr).1
  have hlen : (xs.take (j + 1)).length = j + 1 := by rw [List.length_take]; omega
  have hr' : (xs.take (j + 1))[j]? = some r := by rw [take_get xs (j + 1) j (by omega)]; exact hr
  have hl : lat (xs.take (j + 1)) o (xs.take (j + 1)).length = j := by rw [hlen]; exact lat_yes hr' hx
  have hT : unT (xs.take (j + 1)) o = unT xs o := by rw [unT_some hl hr', unT_some hj hr]
  refine ⟨hT, ?_⟩
  rw [unS_some hl, unS_some hj, hT]
  exact seqT_congr _ (fun i hi => take_get xs (j + 1) i hi)

theorem Rds.take {w : World} {ao : Option Addr} {xs : List Rd} (h : Rds w ao xs) (j : Nat) : Rds w ao (xs.take j) := by
  rcases h with rfl | ⟨b, off, ha, h⟩
  · exact .inl (by simp)
  · refine .inr ⟨b, off, ha, fun k r hr => h k r ?_⟩
    rw [List.getElem?_take] at hr
    by_cases e : k < j
    · rw [if_pos e] at hr; exact hr
    · rw [if_neg e] at hr; cases hr

/-! One cell held, and all that was there. -/
theorem keep1 {W w1 w' : World} {s k : Nat} {v0 : Value} (hb : Below w1.heap.size w1 w') (h : w1.cell? ⟨s, k, none⟩ = some v0 ∧ Below W.heap.size W w1) : w'.cell? ⟨s, k, none⟩ = some v0 ∧ Below W.heap.size W w' :=
  ⟨(hb.cell (p := ⟨s, k, none⟩) (World.block_lt_of_cell? _ _ h.1)).trans h.1, h.2.trans (hb.mono h.2.size)⟩

theorem keep1_set3 {W w3 : World} {s k d : Nat} {v0 u0 u1 u2 : Value} (hs : s < W.heap.size) (hd : W.heap.size ≤ d) (h : w3.cell? ⟨s, k, none⟩ = some v0 ∧ Below W.heap.size W w3) :
    (((w3.setCell ⟨d, 0, none⟩ u0).setCell ⟨d, 1, none⟩ u1).setCell ⟨d, 2, none⟩ u2).cell? ⟨s, k, none⟩ = some v0 ∧ Below W.heap.size W (((w3.setCell ⟨d, 0, none⟩ u0).setCell ⟨d, 1, none⟩ u1).setCell ⟨d, 2, none⟩ u2) := by
  have hsd : d ≠ s := by omega
  exact ⟨by simp [World.cell?_setCell_far, hsd, h.1], ((h.2.setCell hd _).setCell hd _).setCell hd _⟩

theorem keep1_swap {W v : World} {o o' : Obj} {s k : Nat} {v0 : Value} (hs : s < W.heap.size) (hz : W.heap.size < v.heap.size) (h : (v.alloc o).cell? ⟨s, k, none⟩ = some v0 ∧ Below W.heap.size W (v.alloc o)) :
    (v.alloc o').cell? ⟨s, k, none⟩ = some v0 ∧ Below W.heap.size W (v.alloc o') := by
  obtain ⟨h0, h6⟩ := h
  refine ⟨(World.cell?_of_block (by rw [Below.heap_alloc v o' s (by omega), Below.heap_alloc v o s (by omega)])).trans h0, ⟨h6.os, h6.tape, h6.output, by simp; omega, fun b hb => ?_⟩⟩
  rw [Below.heap_alloc v o' b (by omega), ← Below.heap_alloc v o b (by omega)]
  exact h6.block b hb

theorem below1_of {W w' : World} {s k : Nat} {v0 : Value} (h : w'.cell? ⟨s, k, none⟩ = some v0 ∧ Below W.heap.size W w') : Below W.heap.size W w' := h.2

theorem rds1_of {W w' : World} {s k : Nat} {v0 : Value} {ao : Option Addr} {xs : List Rd} (hr : Rds W ao xs) (h : w'.cell? ⟨s, k, none⟩ = some v0 ∧ Below W.heap.size W w') : Rds w' ao xs := hr.keep h.2

end Go.Proofs.Qxb6605653a
