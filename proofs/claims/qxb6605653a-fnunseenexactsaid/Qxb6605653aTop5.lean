import Derived.Test.Qxb6605653aZun
import Derived.Test.Qxb6605653aCopy
import Derived.Deep.DeepCutAuto
namespace Go.Proofs.Qxb6605653a
open Go.RowKit

set_option maxHeartbeats 400000 in
theorem bytes15 (ao : Option Addr) (n cap : Nat) (q : Rd) (w : World) (hn : n ≤ maxLen) :
    Calls Try.prog 15 #[.slice ao n cap, q.plain] w fun e w' => e = .returned (.bool (decide (n ≤ 1048576))) ∧ Below w.heap.size w w' := by
  unfold maxLen at hn
  unfold Rd.plain
  by_cases g1 : n ≤ 1048576
  · go_enter Try.func15, Try.ntmps15
    go_wp2
    go_ret
    exact ⟨ret_bool (by simp; omega), (Below.refl _ _).alloc (Nat.le_refl _) _⟩
  · go_enter Try.func15, Try.ntmps15
    go_wp2
    go_ret
    exact ⟨ret_bool (by simp; omega), (Below.refl _ _).alloc (Nat.le_refl _) _⟩

theorem bchain {A B C : World} (h : Below A.heap.size A B) (k : Below B.heap.size B C) : Below A.heap.size A C := h.trans (k.mono h.size)

theorem keep6_set3 {W w3 : World} {s d : Nat} {v0 v1 v2 v3 v4 v5 u0 u1 u2 : Value} (hs : s < W.heap.size) (hd : W.heap.size ≤ d)
    (h : (w3).cell? ⟨s, 0, none⟩ = some v0 ∧ (w3).cell? ⟨s, 1, none⟩ = some v1 ∧ (w3).cell? ⟨s, 2, none⟩ = some v2 ∧ (w3).cell? ⟨s, 3, none⟩ = some v3 ∧ (w3).cell? ⟨s, 4, none⟩ = some v4 ∧ (w3).cell? ⟨s, 5, none⟩ = some v5 ∧ Below W.heap.size W w3) :
    ((((w3.setCell ⟨d, 0, none⟩ u0).setCell ⟨d, 1, none⟩ u1).setCell ⟨d, 2, none⟩ u2)).cell? ⟨s, 0, none⟩ = some v0 ∧ ((((w3.setCell ⟨d, 0, none⟩ u0).setCell ⟨d, 1, none⟩ u1).setCell ⟨d, 2, none⟩ u2)).cell? ⟨s, 1, none⟩ = some v1 ∧ ((((w3.setCell ⟨d, 0, none⟩ u0).setCell ⟨d, 1, none⟩ u1).setCell ⟨d, 2, none⟩ u2)).cell? ⟨s, 2, none⟩ = some v2 ∧ ((((w3.setCell ⟨d, 0, none⟩ u0).setCell ⟨d, 1, none⟩ u1).setCell ⟨d, 2, none⟩ u2)).cell? ⟨s, 3, none⟩ = some v3 ∧ ((((w3.setCell ⟨d, 0, none⟩ u0).setCell ⟨d, 1, none⟩ u1).setCell ⟨d, 2, none⟩ u2)).cell? ⟨s, 4, none⟩ = some v4 ∧ ((((w3.setCell ⟨d, 0, none⟩ u0).setCell ⟨d, 1, none⟩ u1).setCell ⟨d, 2, none⟩ u2)).cell? ⟨s, 5, none⟩ = some v5 ∧ Below W.heap.size W (((w3.setCell ⟨d, 0, none⟩ u0).setCell ⟨d, 1, none⟩ u1).setCell ⟨d, 2, none⟩ u2) := by
  obtain ⟨h0, h1, h2, h3, h4, h5, h6⟩ := h
  have hsd : d ≠ s := by omega
  refine ⟨?_, ?_, ?_, ?_, ?_, ?_, ?_⟩
  · simp [World.cell?_setCell_far, hsd, h0]
  · simp [World.cell?_setCell_far, hsd, h1]
  · simp [World.cell?_setCell_far, hsd, h2]
  · simp [World.cell?_setCell_far, hsd, h3]
  · simp [World.cell?_setCell_far, hsd, h4]
  · simp [World.cell?_setCell_far, hsd, h5]
  · exact ((h6.setCell hd _).setCell hd _).setCell hd _

theorem keep6_swap {W v : World} {o o' : Obj} {s : Nat} {v0 v1 v2 v3 v4 v5 : Value} (hs : s < W.heap.size) (hz : W.heap.size < v.heap.size)
    (h : (v.alloc o).cell? ⟨s, 0, none⟩ = some v0 ∧ (v.alloc o).cell? ⟨s, 1, none⟩ = some v1 ∧ (v.alloc o).cell? ⟨s, 2, none⟩ = some v2 ∧ (v.alloc o).cell? ⟨s, 3, none⟩ = some v3 ∧ (v.alloc o).cell? ⟨s, 4, none⟩ = some v4 ∧ (v.alloc o).cell? ⟨s, 5, none⟩ = some v5 ∧ Below W.heap.size W (v.alloc o)) : (v.alloc o').cell? ⟨s, 0, none⟩ = some v0 ∧ (v.alloc o').cell? ⟨s, 1, none⟩ = some v1 ∧ (v.alloc o').cell? ⟨s, 2, none⟩ = some v2 ∧ (v.alloc o').cell? ⟨s, 3, none⟩ = some v3 ∧ (v.alloc o').cell? ⟨s, 4, none⟩ = some v4 ∧ (v.alloc o').cell? ⟨s, 5, none⟩ = some v5 ∧ Below W.heap.size W (v.alloc o') := by
  obtain ⟨h0, h1, h2, h3, h4, h5, h6⟩ := h
  have k : ∀ j, (v.alloc o').cell? ⟨s, j, none⟩ = (v.alloc o).cell? ⟨s, j, none⟩ := fun j => World.cell?_of_block (by rw [Below.heap_alloc v o' s (by omega), Below.heap_alloc v o s (by omega)])
  refine ⟨(k 0).trans h0, (k 1).trans h1, (k 2).trans h2, (k 3).trans h3, (k 4).trans h4, (k 5).trans h5, ⟨h6.os, h6.tape, h6.output, by simp; omega, fun b hb => ?_⟩⟩
  rw [Below.heap_alloc v o' b (by omega), ← Below.heap_alloc v o b (by omega)]
  exact h6.block b hb

theorem below_of {W w' : World} {s : Nat} {v0 v1 v2 v3 v4 v5 : Value} (h : w'.cell? ⟨s, 0, none⟩ = some v0 ∧ w'.cell? ⟨s, 1, none⟩ = some v1 ∧ w'.cell? ⟨s, 2, none⟩ = some v2 ∧ w'.cell? ⟨s, 3, none⟩ = some v3 ∧ w'.cell? ⟨s, 4, none⟩ = some v4 ∧ w'.cell? ⟨s, 5, none⟩ = some v5 ∧ Below W.heap.size W w') : Below W.heap.size W w' := h.2.2.2.2.2.2

theorem frozen_new (w : World) (C : Array Value) (t : TypeId) (o : Nat) : (w.alloc (.cells C t)).frozen? ⟨w.heap.size, o, none⟩ = false := by
  rw [World.frozen?_alloc_mark w C t 0 0 o]; simp

theorem UnI.of_new {w w2 w5 : World} {f : Int} (hW : Below w.heap.size w w2) (hH : Below w2.heap.size w2 (w5.alloc (.cells #[.int .u64 (f % 1000000000), .int .i64 (f / 1000000000), .pointer none] 36))) (hB : w.heap.size ≤ w5.heap.size) :
    UnI w (w5.alloc (.cells #[.int .u64 (f % 1000000000), .int .i64 (f / 1000000000), .pointer none] 36)) w5.heap.size f :=
  ⟨bchain hW hH, by simp, by simp, by simp, fun o => frozen_new _ _ _ o, hB⟩

theorem UnI.of_set {w w2 w5 : World} {B : Nat} {f : Int} (hW : Below w.heap.size w w2)
    (hH : Below w2.heap.size w2 (((w5.setCell ⟨B, 0, none⟩ (.int .u64 (f % 1000000000))).setCell ⟨B, 1, none⟩ (.int .i64 (f / 1000000000))).setCell ⟨B, 2, none⟩ (.pointer none))) (hB : w.heap.size ≤ B)
    (c0 : (w5.cell? ⟨B, 0, none⟩).isSome = true) (c1 : (w5.cell? ⟨B, 1, none⟩).isSome = true) (c2 : (w5.cell? ⟨B, 2, none⟩).isSome = true) (hf : ∀ o, w5.frozen? ⟨B, o, none⟩ = false) :
    UnI w (((w5.setCell ⟨B, 0, none⟩ (.int .u64 (f % 1000000000))).setCell ⟨B, 1, none⟩ (.int .i64 (f / 1000000000))).setCell ⟨B, 2, none⟩ (.pointer none)) B f := by
  have hi := World.cell?_setCells_in B [.int .u64 (f % 1000000000), .int .i64 (f / 1000000000), .pointer none] 0 w5 (fun j hj => by
    match j, hj with
    | 0, _ => exact c0
    | 1, _ => exact c1
    | 2, _ => exact c2)
  exact ⟨bchain hW hH, hi 0 (by simp), hi 1 (by simp), hi 2 (by simp), fun o => by simp [hf], hB⟩

theorem eq34 (w : World) : Sem.run Try.prog (Op.equalIn 9999 34 (.pointer none) (.pointer none)) w = .ok true w := by kernel_rfl

theorem keep3 {w w1 w' : World} {B : Nat} {f : Int} {v0 v1 v2 : Value} (hb : Below w1.heap.size w1 w')
    (h : w1.cell? ⟨B, 0, none⟩ = some v0 ∧ w1.cell? ⟨B, 1, none⟩ = some v1 ∧ w1.cell? ⟨B, 2, none⟩ = some v2 ∧ UnI w w1 B f) : w'.cell? ⟨B, 0, none⟩ = some v0 ∧ w'.cell? ⟨B, 1, none⟩ = some v1 ∧ w'.cell? ⟨B, 2, none⟩ = some v2 ∧ UnI w w' B f := by
  obtain ⟨h0, h1, h2, h3⟩ := h
  have k : ∀ {x y : Nat} {v : Value}, w1.cell? ⟨x, y, none⟩ = some v → w'.cell? ⟨x, y, none⟩ = some v := fun {x y v} hv => (hb.cell (p := ⟨x, y, none⟩) (World.block_lt_of_cell? _ _ hv)).trans hv
  exact ⟨k h0, k h1, k h2, h3.keep hb⟩

theorem dom_at {xs : List Rd} : ∀ {n k : Nat} {r : Rd}, Dom xs n → k < n → xs[k]? = some r → -9223372035854775808 ≤ r.b
  | n + 1, k, r, h, hk, hr => by
    by_cases e : k = n
    · subst e; exact h.2 r hr
    · exact dom_at h.1 (by omega) hr

theorem rds_of {W w' : World} {s : Nat} {v0 v1 v2 v3 v4 v5 : Value} {ao : Option Addr} {xs : List Rd} (hr : Rds W ao xs) (h : w'.cell? ⟨s, 0, none⟩ = some v0 ∧ w'.cell? ⟨s, 1, none⟩ = some v1 ∧ w'.cell? ⟨s, 2, none⟩ = some v2 ∧ w'.cell? ⟨s, 3, none⟩ = some v3 ∧ w'.cell? ⟨s, 4, none⟩ = some v4 ∧ w'.cell? ⟨s, 5, none⟩ = some v5 ∧ Below W.heap.size W w') : Rds w' ao xs := hr.keep h.2.2.2.2.2.2

theorem Wk.later {w : World} {p : Nat} {xs : List Rd} (h : Wk w p xs) : ∀ w', Below w.heap.size w w' → Wk w' p xs := by
  obtain ⟨g, cap, h0, h1⟩ := h
  intro w' hb
  exact ⟨g, cap, (hb.cell (p := ⟨p, 5, none⟩) (World.block_lt_of_cell? _ _ h0)).trans h0, fun k r hr j u hu => (hb.cell (p := ⟨g, k * 10 + j, none⟩) (World.block_lt_of_cell? _ _ (h1 k r hr j u hu))).trans (h1 k r hr j u hu)⟩

set_option maxRecDepth 20000 in
set_option linter.unusedSimpArgs false in
set_option maxHeartbeats 4000000 in
theorem top5 (ao : Option Addr) (xs : List Rd) (cap : Nat) (q : Rd) (w : World) (hlen : xs.length ≤ maxLen) (hx : Rds w ao xs) (hxs : ∀ r ∈ xs, r.ok) (hq : q.ok) :
    Calls Try.prog 5 #[.slice ao xs.length cap, q.plain] w fun e w' => e = .returned (.bool true) ∧ Below w.heap.size w w' := by
  have HX : Hid (Rds w ao xs) := hx
  have HO : Hid (∀ r ∈ xs, r.ok) := hxs
  have HQ : Hid q.ok := hq
  clear hx hxs hq
  obtain ⟨qq, qo, qx, qb, ql, qa⟩ := q
  unfold Rd.plain
  by_cases hbig : xs.length ≤ 1048576
  · have hd : decide (xs.length ≤ 1048576) = true := by simp; omega
    go_enter Try.func5, Try.ntmps5
    go_wp2_with fail
    refine (bytes15 ao xs.length cap ⟨qq, qo, qx, qb, ql, qa⟩ _ hlen).mono ?_
    rintro e w1 ⟨rfl, hb1⟩
    rw [hd]
    have hb1' : Below w.heap.size w w1 := ((Below.refl _ _).alloc (Nat.le_refl _) _).trans (hb1.mono (by simp))
    obtain ⟨hc1, hf1⟩ := bcell hb1
    by_cases hlim : 21845 < xs.length
    · go_wp2_with fail
      go_ret
      exact ⟨rfl, hb1'⟩
    have HX1 : Hid (Rds w1 ao xs) := HX.out.keep hb1'
    go_wp2_with fail
    refine (inDomain_any ao xs cap _ hbig HX1.out).mono ?_
    rintro e w1' ⟨rfl | ⟨rfl, hdom⟩, m1, rfl⟩
    · go_wp2_with fail
      go_ret
      exact ⟨rfl, below_drewN hb1' m1⟩
    have HD : Hid (Dom xs xs.length) := hdom
    clear hdom
    go_wp2_with fail
    refine (copy_any ao xs cap _ hbig (show Rds (w1.drewN m1) ao xs from HX1.out.keep (below_drewN (Below.refl _ _) m1))).mono ?_
    rintro e w2 ⟨ao', cap', rfl, hx2, hb2⟩
    have hS := keep6 (W := w) (s := w.heap.size) (v0 := .int .i64 qq) (v1 := .int .i64 qo) (v2 := .int .i64 qx) (v3 := .int .i64 qb) (v4 := .int .i64 ql) (v5 := .int .i64 qa) hb2 ⟨by simp [hc1], by simp [hc1], by simp [hc1], by simp [hc1], by simp [hc1], by simp [hc1], below_drewN hb1' m1⟩
    obtain ⟨k0, k1, k2, k3, k4, k5, k6⟩ := hS
    have hB0 : w.heap.size < w2.heap.size := World.block_lt_of_cell? _ _ k0
    have HW : Hid (Below w.heap.size w w2) := k6
    have HR2 : Hid (Rds w2 ao' xs) := hx2
    clear hx2 hb2 hc1 hf1 hb1 hb1' HX1 HX k6
    go_upto_region 8 with fail
    go_cut [5, 6] (fun s5 s6 wx => ∃ B, s5 = .pointer (some ⟨B, 0, none⟩) ∧ s6 = .int .i64 (unS xs qo) ∧ UnI w wx B (unT xs qo) ∧ wx.cell? ⟨w.heap.size, 1, none⟩ = some (.int .i64 qo) ∧ Rds wx ao' xs)
    case first =>
      have hSd := keep6 (W := w2) (show Below w2.heap.size w2 w2.drew from (Below.refl _ _).drew) ⟨k0, k1, k2, k3, k4, k5, Below.refl _ _⟩
      have K1 : Hid (w2.cell? ⟨w.heap.size, 1, none⟩ = some (.int .i64 qo)) := k1
      clear k0 k1 k2 k3 k4 k5
      go_region_held (fun w' => w'.cell? ⟨w.heap.size, 0, none⟩ = some (.int .i64 qq) ∧ w'.cell? ⟨w.heap.size, 1, none⟩ = some (.int .i64 qo) ∧ w'.cell? ⟨w.heap.size, 2, none⟩ = some (.int .i64 qx) ∧ w'.cell? ⟨w.heap.size, 3, none⟩ = some (.int .i64 qb) ∧ w'.cell? ⟨w.heap.size, 4, none⟩ = some (.int .i64 ql) ∧ w'.cell? ⟨w.heap.size, 5, none⟩ = some (.int .i64 qa) ∧ Below w2.heap.size w2 w')
        (first
          | exact hSd
          | (with_reducible exact keep6 (by assumption) (by assumption))
          | (with_reducible exact keep6 ((Below.refl _ _).alloc (Nat.le_refl _) _) (by assumption))
          | (with_reducible exact keep6_set3 hB0 (by omega) (by assumption))
          | (with_reducible exact keep6_swap hB0 (by assumption) (by assumption)))
        (first
          | (go_at_call 19; refine (build_any ao' xs cap' _ hbig (rds_of HR2.out (by assumption)) HO.out).mono ?_; rintro e w3 ⟨p, rfl, hW3, hb3, hz3⟩; have zA : w2.heap.size < w3.heap.size := (by first | omega | (simp at hz3; omega)); have hK3 := (show Hid (∀ w', Below w3.heap.size w3 w' → Wk w' p xs) from hW3.later); clear hW3; obtain ⟨hc3, hf3⟩ := bcell hb3)
          | (go_at_call 20; refine (toReading_any qq qo qx qb ql qa _ HQ.out.1.1 HQ.out.1.2 HQ.out.2.1 HQ.out.2.2).mono ?_; rintro e w4 ⟨rfl, hb4, hz4⟩; have zB : w3.heap.size < w4.heap.size := (by first | omega | (simp at hz4; omega)); have zC : w2.heap.size < w4.heap.size := (by omega); have hK4 : Hid (∀ w', Below w4.heap.size w4 w' → Wk w' p xs) := (by first | exact (fun w' h => hK3.out w' (bchain hb4 h)) | exact (fun w' h => hK3.out w' (bchain (((Below.refl _ _).alloc (Nat.le_refl _) _).trans (hb4.mono (by simp))) h))); obtain ⟨hc4, hf4⟩ := bcell hb4; unfold Rd.timed)
          | (go_at_call 18; refine (zzUnseen_any p xs ⟨qq, qo, qx, qb, ql, qa⟩ _ hbig (hK4.out _ (by first | exact Below.refl _ _ | exact (Below.refl _ _).alloc (Nat.le_refl _) _)) HO.out).mono ?_; rintro e w5 ⟨rfl, hb5, hz5⟩; have zD : w4.heap.size < w5.heap.size := (by first | omega | (simp at hz5; omega)); have zE : w3.heap.size < w5.heap.size := (by omega); have zF : w2.heap.size < w5.heap.size := (by omega); obtain ⟨hc5, hf5⟩ := bcell hb5))
      all_goals
        have hH := below_of (W := w2) (by assumption)
        have HH : Hid (Below w2.heap.size w2 _) := hH
        go_wp2_with fail
        go_meet
        refine ⟨_, rfl, rfl, ?_, (HH.out.cell (p := ⟨w.heap.size, 1, none⟩) hB0).trans K1.out, HR2.out.keep HH.out⟩
        first
          | (with_reducible refine UnI.of_new HW.out HH.out ?_)
            omega
          | (with_reducible refine UnI.of_set HW.out HH.out ?_ ?_ ?_ ?_ ?_)
            · omega
            · simp [hc5, hc4, hc3, zA, zB, zC]
            · simp [hc5, hc4, hc3, zA, zB, zC]
            · simp [hc5, hc4, hc3, zA, zB, zC]
            · intro o
              simp [hf5, hf4, hf3, zA, zB, zC, frozen_new]
    case rest =>
      obtain ⟨B, rfl, rfl, hU, hqo, hR⟩ := hcut
      clear k0 k1 k2 k3 k4 k5 HR2 HW hB0
      have HU : Hid (UnI w wc B (unT xs qo)) := hU
      have HR : Hid (Rds wc ao' xs) := hR
      clear hU hR
      go_wp2_with fail
      refine (latest_any ao' xs cap' qo wc hbig HR.out).mono ?_
      rintro e w6 ⟨rfl, rfl⟩
      have hbd := lat_bd xs qo xs.length
      by_cases hneg : lat xs qo xs.length = -1
      · rw [hneg]
        have hU := HU.out
        rw [unT_none hneg] at hU
        have HUS : Hid (unS xs qo = 0) := unS_none hneg
        rw [HUS.out]
        clear hbd HU
        obtain ⟨b0, b1, b2, b3, b4, b5⟩ := hU
        have hU0 : UnI w w6 B 0 := ⟨b0, b1, b2, b3, b4, b5⟩
        simp only [Int.zero_emod, Int.zero_ediv] at b1 b2
        have hSd := keep3 (show Below w6.heap.size w6 w6.drew from (Below.refl _ _).drew) ⟨b1, b2, b3, hU0⟩
        clear hU0 b0 b1 b2 b3 b4 b5 hneg
        have hpe := eq34
        go_wp2_with fail
        go_region_held (fun w' => w'.cell? ⟨B, 0, none⟩ = some (.int .u64 0) ∧ w'.cell? ⟨B, 1, none⟩ = some (.int .i64 0) ∧ w'.cell? ⟨B, 2, none⟩ = some (.pointer none) ∧ UnI w w' B 0)
          (first | exact hSd | (with_reducible exact keep3 (by assumption) (by assumption)))
          (first | (go_at_call 22; refine (timeAt_any 0 _ (by omega) (by omega)).mono ?_; rintro e w7 ⟨rfl, hb7⟩; unfold tmv))
        rename_i hh
        have HB : Hid (Below w.heap.size w w7) := hh.2.2.2.1
        clear hh
        go_wp2_with fail
        go_ret
        exact ⟨rfl, HB.out⟩
      · obtain ⟨j, hj⟩ : ∃ j : Nat, lat xs qo xs.length = j := ⟨(lat xs qo xs.length).toNat, by omega⟩
        have hjl : j < xs.length := by omega
        obtain ⟨b, off, r, ha, hr, c0, c1, c2, c3, c4, c5⟩ := HR.out.at hjl
        have hb0 := dom_at HD.out hjl hr
        have hb1 := (HO.out r (List.mem_of_getElem? hr)).1.2
        have hU := HU.out
        have hT := unT_some hj hr
        obtain ⟨f, hf⟩ : ∃ f, r.b - 1000000000 = f := ⟨_, rfl⟩
        have hTf : unT xs qo = f := by rw [hT]; omega
        have HS : Hid (unS xs qo = seqT xs f (j + 1)) := by have := unS_some hj; rw [hTf] at this; exact this
        rw [hTf] at hU
        rw [hj]
        have hf0 : -9223372036854775808 ≤ f := by omega
        have hf1 : f ≤ 9223372036854775807 := by omega
        have HF : Hid (r.b - 1000000000 = f) := hf
        subst ha
        clear hbd HU hneg hj hr hT hTf hf
        go_wp2_with fail
        rw [HF.out]
        go_loop [9, 10] (fun wn i => ∃ k : Nat, k ≤ j + 1 ∧ i = .int .i64 k ∧ wn = .int .i64 (seqT xs f k)) (fun _ i => j + 1 - (intOf i).toNat)
        case atStart => exact ⟨0, Nat.zero_le _, rfl, rfl⟩
        case round =>
          obtain ⟨k, hk, rfl, rfl⟩ := hrel
          clear c0 c1 c2 c3 c4 c5
          by_cases hkj : k < j + 1
          · obtain ⟨b', off', rk, ha', hrk, d0, d1, d2, d3, d4, d5⟩ := HR.out.at (show k < xs.length by omega)
            cases ha'
            have HRK : Hid (xs[k]? = some rk) := hrk
            clear hrk
            by_cases hak : rk.a < f
            · go_wp2_with fail
              go_round
              case rel => exact ⟨k + 1, by omega, by go_num, by rw [seqT_yes HRK.out hak]⟩
              case measure => simp [intOf]; omega
            · go_wp2_with fail
              go_round
              case rel => exact ⟨k + 1, by omega, by go_num, by rw [seqT_no HRK.out hak]⟩
              case measure => simp [intOf]; omega
          · have e : k = j + 1 := by omega
            subst e
            rw [HS.out]
            generalize seqT xs f (j + 1) = sq
            obtain ⟨b0, b1, b2, b3, b4, b5⟩ := hU
            have hSd := keep3 (show Below w6.heap.size w6 w6.drew from (Below.refl _ _).drew) ⟨b1, b2, b3, (⟨b0, b1, b2, b3, b4, b5⟩ : UnI w w6 B f)⟩
            clear b0 b1 b2 b3 b4 b5
            have hpe := eq34
            go_wp2_with fail
            go_region_held (fun w' => w'.cell? ⟨B, 0, none⟩ = some (.int .u64 (f % 1000000000)) ∧ w'.cell? ⟨B, 1, none⟩ = some (.int .i64 (f / 1000000000)) ∧ w'.cell? ⟨B, 2, none⟩ = some (.pointer none) ∧ UnI w w' B f)
              (first | exact hSd | (with_reducible exact keep3 (by assumption) (by assumption)))
              (first | (go_at_call 22; refine (timeAt_any f _ hf0 hf1).mono ?_; rintro e w7 ⟨rfl, hb7⟩; unfold tmv))
            rename_i hh
            have HB : Hid (Below w.heap.size w w7) := hh.2.2.2.1
            clear hh
            go_wp2_with fail
            go_ret
            exact ⟨rfl, HB.out⟩
  · have hd : decide (xs.length ≤ 1048576) = false := by simp; omega
    go_enter Try.func5, Try.ntmps5
    go_wp2_with fail
    refine (bytes15 ao xs.length cap ⟨qq, qo, qx, qb, ql, qa⟩ _ hlen).mono ?_
    rintro e w1 ⟨rfl, hb1⟩
    rw [hd]
    go_wp2_with fail
    go_ret
    exact ⟨rfl, ((Below.refl _ _).alloc (Nat.le_refl _) _).trans (hb1.mono (by simp))⟩

end Go.Proofs.Qxb6605653a
