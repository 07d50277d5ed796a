import Derived.Test.Qxb6605653aUL
namespace Go.Proofs.Qxb6605653a
open Go.RowKit

set_option maxHeartbeats 400000 in
theorem bytes24 (ao : Option Addr) (n cap : Nat) (q : Rd) (w : World) (hn : n ≤ maxLen) :
    Calls Try.prog 24 #[.slice ao n cap, q.plain] w fun e w' => e = .returned (.bool (decide (n ≤ 1048576))) ∧ Below w.heap.size w w' := by
  unfold maxLen at hn
  unfold Rd.plain
  by_cases g1 : n ≤ 1048576
  · go_enter Try.func24, Try.ntmps24
    go_wp2
    go_ret
    exact ⟨ret_bool (by simp; omega), (Below.refl _ _).alloc (Nat.le_refl _) _⟩
  · go_enter Try.func24, Try.ntmps24
    go_wp2
    go_ret
    exact ⟨ret_bool (by simp; omega), (Below.refl _ _).alloc (Nat.le_refl _) _⟩

set_option maxRecDepth 20000 in
set_option linter.unusedSimpArgs false in
set_option maxHeartbeats 4000000 in
theorem top7 (ao : Option Addr) (xs : List Rd) (cap : Nat) (q : Rd) (w : World) (hlen : xs.length ≤ maxLen) (hx : Rds w ao xs) (hxs : ∀ r ∈ xs, r.ok) (hq : q.ok) :
    Calls Try.prog 7 #[.slice ao xs.length cap, q.plain] w fun e w' => e = .returned (.bool true) ∧ Below w.heap.size w w' := by
  have HX : Hid (Rds w ao xs) := hx
  have HO : Hid (∀ r ∈ xs, r.ok) := hxs
  have HQ : Hid q.ok := hq
  clear hx hxs hq
  obtain ⟨qq, qo, qx, qb, ql, qa⟩ := q
  unfold Rd.plain
  by_cases hbig : xs.length ≤ 1048576
  · have hd : decide (xs.length ≤ 1048576) = true := by simp; omega
    go_enter Try.func7, Try.ntmps7
    go_wp2_with fail
    refine (bytes24 ao xs.length cap ⟨qq, qo, qx, qb, ql, qa⟩ _ hlen).mono ?_
    rintro e w1 ⟨rfl, hb1⟩
    rw [hd]
    have hb1' : Below w.heap.size w w1 := ((Below.refl _ _).alloc (Nat.le_refl _) _).trans (hb1.mono (by simp))
    obtain ⟨hc1, hf1⟩ := bcell hb1
    by_cases hlim : 21845 < xs.length
    · go_wp2_with fail
      go_ret
      exact ⟨rfl, hb1'⟩
    have HX1 : Hid (Rds w1 ao xs) := HX.out.keep hb1'
    go_wp2_with fail
    refine (inDomain_any ao xs cap _ hbig HX1.out).mono ?_
    rintro e w1' ⟨rfl | ⟨rfl, hdom⟩, m1, rfl⟩
    · go_wp2_with fail
      go_ret
      exact ⟨rfl, below_drewN hb1' m1⟩
    clear hdom
    go_wp2_with fail
    refine (latest_any ao xs cap qo _ hbig (show Rds (w1.drewN m1) ao xs from HX1.out.keep (below_drewN (Below.refl _ _) m1))).mono ?_
    rintro e w1' ⟨rfl, rfl⟩
    have hbd := lat_bd xs qo xs.length
    have hgo : ∃ kv : Int, lat xs qo xs.length = kv ∧ ((kv = -1 ∧ unT xs qo = 0 ∧ unS xs qo = 0) ∨ (0 ≤ kv ∧ kv < xs.length ∧ ∃ r : Rd, xs[kv.toNat]? = some r ∧ unT xs qo = r.b + -1000000000)) := by
      by_cases hneg : lat xs qo xs.length = -1
      · exact ⟨_, hneg, .inl ⟨rfl, unT_none hneg, unS_none hneg⟩⟩
      · obtain ⟨j, hj⟩ : ∃ j : Nat, lat xs qo xs.length = j := ⟨(lat xs qo xs.length).toNat, by omega⟩
        have hjl : j < xs.length := by omega
        obtain ⟨r, hr⟩ : ∃ r, xs[j]? = some r := ⟨xs[j], List.getElem?_eq_getElem hjl⟩
        exact ⟨j, hj, .inr ⟨by omega, by omega, r, by rw [Int.toNat_natCast]; exact hr, unT_some hj hr⟩⟩
    obtain ⟨kv, hkv, hcase⟩ := hgo
    rw [hkv]
    clear hbd hkv
    rcases hcase with ⟨rfl, hT, hS0⟩ | ⟨hk0, hk1, r, hr, hT⟩
    · have HT : Hid (unT xs qo = 0) := hT
      have HS0 : Hid (unS xs qo = 0) := hS0
      clear hT hS0
      go_wp2_with fail
      refine (copy_any ao xs cap _ hbig (show Rds (w1.drewN m1) ao xs from HX1.out.keep (below_drewN (Below.refl _ _) m1))).mono ?_
      rintro e w2 ⟨ao', cap', rfl, hx2, hb2⟩
      have hS := keep6 (W := w) (s := w.heap.size) (v0 := .int .i64 qq) (v1 := .int .i64 qo) (v2 := .int .i64 qx) (v3 := .int .i64 qb) (v4 := .int .i64 ql) (v5 := .int .i64 qa) hb2 ⟨by simp [hc1], by simp [hc1], by simp [hc1], by simp [hc1], by simp [hc1], by simp [hc1], below_drewN hb1' m1⟩
      obtain ⟨k0, k1, k2, k3, k4, k5, k6⟩ := hS
      have hB0 : w.heap.size < w2.heap.size := World.block_lt_of_cell? _ _ k0
      have HW : Hid (Below w.heap.size w w2) := k6
      have HR2 : Hid (Rds w2 ao' xs) := hx2
      clear hx2 hb2 hc1 hf1 hb1 hb1' HX1 HX k6
      go_upto_region 11 with fail
      go_cut [6, 7] (fun s6 s7 wx => ∃ B, s6 = .pointer (some ⟨B, 0, none⟩) ∧ s7 = .int .i64 (unS xs qo) ∧ UnI w wx B (unT xs qo))
      case first =>
        have hSd := keep6 (W := w2) (show Below w2.heap.size w2 w2.drew from (Below.refl _ _).drew) ⟨k0, k1, k2, k3, k4, k5, Below.refl _ _⟩
        clear k0 k1 k2 k3 k4 k5
        go_region_held (fun w' => w'.cell? ⟨w.heap.size, 0, none⟩ = some (.int .i64 qq) ∧ w'.cell? ⟨w.heap.size, 1, none⟩ = some (.int .i64 qo) ∧ w'.cell? ⟨w.heap.size, 2, none⟩ = some (.int .i64 qx) ∧ w'.cell? ⟨w.heap.size, 3, none⟩ = some (.int .i64 qb) ∧ w'.cell? ⟨w.heap.size, 4, none⟩ = some (.int .i64 ql) ∧ w'.cell? ⟨w.heap.size, 5, none⟩ = some (.int .i64 qa) ∧ Below w2.heap.size w2 w')
          (first
            | exact hSd
            | (with_reducible exact keep6 (by assumption) (by assumption))
            | (with_reducible exact keep6 ((Below.refl _ _).alloc (Nat.le_refl _) _) (by assumption))
            | (with_reducible exact keep6_set3 hB0 (by omega) (by assumption))
            | (with_reducible exact keep6_swap hB0 (by assumption) (by assumption)))
          (first
            | (go_at_call 19; refine (build_any ao' xs cap' _ hbig (rds_of HR2.out (by assumption)) HO.out).mono ?_; rintro e w3 ⟨p, rfl, hW3, hb3, hz3⟩; have zA : w2.heap.size < w3.heap.size := (by first | omega | (simp at hz3; omega)); have hK3 := (show Hid (∀ w', Below w3.heap.size w3 w' → Wk w' p xs) from hW3.later); clear hW3; obtain ⟨hc3, hf3⟩ := bcell hb3)
            | (go_at_call 20; refine (toReading_any qq qo qx qb ql qa _ HQ.out.1.1 HQ.out.1.2 HQ.out.2.1 HQ.out.2.2).mono ?_; rintro e w4 ⟨rfl, hb4, hz4⟩; have zB : w3.heap.size < w4.heap.size := (by first | omega | (simp at hz4; omega)); have zC : w2.heap.size < w4.heap.size := (by omega); have hK4 : Hid (∀ w', Below w4.heap.size w4 w' → Wk w' p xs) := (by first | exact (fun w' h => hK3.out w' (bchain hb4 h)) | exact (fun w' h => hK3.out w' (bchain (((Below.refl _ _).alloc (Nat.le_refl _) _).trans (hb4.mono (by simp))) h))); obtain ⟨hc4, hf4⟩ := bcell hb4; unfold Rd.timed)
            | (go_at_call 18; refine (zzUnseen_any p xs ⟨qq, qo, qx, qb, ql, qa⟩ _ hbig (hK4.out _ (by first | exact Below.refl _ _ | exact (Below.refl _ _).alloc (Nat.le_refl _) _)) HO.out).mono ?_; rintro e w5 ⟨rfl, hb5, hz5⟩; have zD : w4.heap.size < w5.heap.size := (by first | omega | (simp at hz5; omega)); have zE : w3.heap.size < w5.heap.size := (by omega); have zF : w2.heap.size < w5.heap.size := (by omega); obtain ⟨hc5, hf5⟩ := bcell hb5))
        all_goals
          have hH := below_of (W := w2) (by assumption)
          have HH : Hid (Below w2.heap.size w2 _) := hH
          go_wp2_with fail
          go_meet
          refine ⟨_, rfl, rfl, ?_⟩
          first
            | (with_reducible refine UnI.of_new HW.out HH.out ?_)
              omega
            | (with_reducible refine UnI.of_set HW.out HH.out ?_ ?_ ?_ ?_ ?_)
              · omega
              · simp [hc5, hc4, hc3, zA, zB, zC]
              · simp [hc5, hc4, hc3, zA, zB, zC]
              · simp [hc5, hc4, hc3, zA, zB, zC]
              · intro o
                simp [hf5, hf4, hf3, zA, zB, zC, frozen_new]
      case rest =>
        obtain ⟨B, rfl, rfl, hU⟩ := hcut
        clear k0 k1 k2 k3 k4 k5 HR2 HW hB0
        obtain ⟨b0, b1, b2, b3, b4, b5⟩ := hU
        have HB : Hid (Below w.heap.size w wc) := b0
        clear b0 b4 b5
        go_wp2_with fail
        refine (newPos_any (unT xs qo) (unS xs qo) _).mono ?_
        rintro e w8 ⟨rfl, hb8⟩
        go_wp2_with fail
        refine (front_any (unT xs qo) (unS xs qo) _).mono ?_
        rintro e w9 ⟨rfl, hb9⟩
        have HB9 : Hid (Below w.heap.size w w9) := bchain (bchain HB.out hb8) hb9
        clear hb8 hb9 b1 b2 b3
        have hdec : decide (unT xs qo = 0 ∧ unS xs qo = 0) = true := by simp [HT.out, HS0.out]
        rw [hdec]
        clear hdec
        go_wp2_with fail
        go_ret
        exact ⟨rfl, HB9.out⟩
    · obtain ⟨j, rfl⟩ := Int.eq_ofNat_of_zero_le hk0
      rw [Int.toNat_natCast] at hr
      obtain ⟨b, off, r', ha, hr', _, _, _, c3, _, _⟩ := (show Rds (w1.drewN m1) ao xs from HX1.out.keep (below_drewN (Below.refl _ _) m1)).at (show j < xs.length by omega)
      rw [hr] at hr'
      cases hr'
      subst ha
      clear hr
      by_cases hsl : r.b = 1000000000
      · have hsl' : (r.b == 1000000000) = true := by simp [hsl]
        clear hsl
        go_wp2_with fail
        go_ret
        exact ⟨rfl, below_drewN hb1' m1⟩
      have hsl' : (r.b == 1000000000) = false := by simp [hsl]
      have HT : Hid (¬ unT xs qo = 0) := (show ¬ unT xs qo = 0 by rw [hT]; omega)
      clear hsl hT
      go_wp2_with fail
      refine (copy_any (some ⟨b, off, none⟩) xs cap _ hbig (show Rds (w1.drewN m1) (some ⟨b, off, none⟩) xs from HX1.out.keep (below_drewN (Below.refl _ _) m1))).mono ?_
      rintro e w2 ⟨ao', cap', rfl, hx2, hb2⟩
      have hS := keep6 (W := w) (s := w.heap.size) (v0 := .int .i64 qq) (v1 := .int .i64 qo) (v2 := .int .i64 qx) (v3 := .int .i64 qb) (v4 := .int .i64 ql) (v5 := .int .i64 qa) hb2 ⟨by simp [hc1], by simp [hc1], by simp [hc1], by simp [hc1], by simp [hc1], by simp [hc1], below_drewN hb1' m1⟩
      obtain ⟨k0, k1, k2, k3, k4, k5, k6⟩ := hS
      have hB0 : w.heap.size < w2.heap.size := World.block_lt_of_cell? _ _ k0
      have HW : Hid (Below w.heap.size w w2) := k6
      have HR2 : Hid (Rds w2 ao' xs) := hx2
      clear hx2 hb2 hc1 hf1 hb1 hb1' HX1 HX k6
      go_upto_region 11 with fail
      go_cut [6, 7] (fun s6 s7 wx => ∃ B, s6 = .pointer (some ⟨B, 0, none⟩) ∧ s7 = .int .i64 (unS xs qo) ∧ UnI w wx B (unT xs qo))
      case first =>
        have hSd := keep6 (W := w2) (show Below w2.heap.size w2 w2.drew from (Below.refl _ _).drew) ⟨k0, k1, k2, k3, k4, k5, Below.refl _ _⟩
        clear k0 k1 k2 k3 k4 k5
        go_region_held (fun w' => w'.cell? ⟨w.heap.size, 0, none⟩ = some (.int .i64 qq) ∧ w'.cell? ⟨w.heap.size, 1, none⟩ = some (.int .i64 qo) ∧ w'.cell? ⟨w.heap.size, 2, none⟩ = some (.int .i64 qx) ∧ w'.cell? ⟨w.heap.size, 3, none⟩ = some (.int .i64 qb) ∧ w'.cell? ⟨w.heap.size, 4, none⟩ = some (.int .i64 ql) ∧ w'.cell? ⟨w.heap.size, 5, none⟩ = some (.int .i64 qa) ∧ Below w2.heap.size w2 w')
          (first
            | exact hSd
            | (with_reducible exact keep6 (by assumption) (by assumption))
            | (with_reducible exact keep6 ((Below.refl _ _).alloc (Nat.le_refl _) _) (by assumption))
            | (with_reducible exact keep6_set3 hB0 (by omega) (by assumption))
            | (with_reducible exact keep6_swap hB0 (by assumption) (by assumption)))
          (first
            | (go_at_call 19; refine (build_any ao' xs cap' _ hbig (rds_of HR2.out (by assumption)) HO.out).mono ?_; rintro e w3 ⟨p, rfl, hW3, hb3, hz3⟩; have zA : w2.heap.size < w3.heap.size := (by first | omega | (simp at hz3; omega)); have hK3 := (show Hid (∀ w', Below w3.heap.size w3 w' → Wk w' p xs) from hW3.later); clear hW3; obtain ⟨hc3, hf3⟩ := bcell hb3)
            | (go_at_call 20; refine (toReading_any qq qo qx qb ql qa _ HQ.out.1.1 HQ.out.1.2 HQ.out.2.1 HQ.out.2.2).mono ?_; rintro e w4 ⟨rfl, hb4, hz4⟩; have zB : w3.heap.size < w4.heap.size := (by first | omega | (simp at hz4; omega)); have zC : w2.heap.size < w4.heap.size := (by omega); have hK4 : Hid (∀ w', Below w4.heap.size w4 w' → Wk w' p xs) := (by first | exact (fun w' h => hK3.out w' (bchain hb4 h)) | exact (fun w' h => hK3.out w' (bchain (((Below.refl _ _).alloc (Nat.le_refl _) _).trans (hb4.mono (by simp))) h))); obtain ⟨hc4, hf4⟩ := bcell hb4; unfold Rd.timed)
            | (go_at_call 18; refine (zzUnseen_any p xs ⟨qq, qo, qx, qb, ql, qa⟩ _ hbig (hK4.out _ (by first | exact Below.refl _ _ | exact (Below.refl _ _).alloc (Nat.le_refl _) _)) HO.out).mono ?_; rintro e w5 ⟨rfl, hb5, hz5⟩; have zD : w4.heap.size < w5.heap.size := (by first | omega | (simp at hz5; omega)); have zE : w3.heap.size < w5.heap.size := (by omega); have zF : w2.heap.size < w5.heap.size := (by omega); obtain ⟨hc5, hf5⟩ := bcell hb5))
        all_goals
          have hH := below_of (W := w2) (by assumption)
          have HH : Hid (Below w2.heap.size w2 _) := hH
          go_wp2_with fail
          go_meet
          refine ⟨_, rfl, rfl, ?_⟩
          first
            | (with_reducible refine UnI.of_new HW.out HH.out ?_)
              omega
            | (with_reducible refine UnI.of_set HW.out HH.out ?_ ?_ ?_ ?_ ?_)
              · omega
              · simp [hc5, hc4, hc3, zA, zB, zC]
              · simp [hc5, hc4, hc3, zA, zB, zC]
              · simp [hc5, hc4, hc3, zA, zB, zC]
              · intro o
                simp [hf5, hf4, hf3, zA, zB, zC, frozen_new]
      case rest =>
        obtain ⟨B, rfl, rfl, hU⟩ := hcut
        clear k0 k1 k2 k3 k4 k5 HR2 HW hB0
        obtain ⟨b0, b1, b2, b3, b4, b5⟩ := hU
        have HB : Hid (Below w.heap.size w wc) := b0
        clear b0 b4 b5
        go_wp2_with fail
        refine (newPos_any (unT xs qo) (unS xs qo) _).mono ?_
        rintro e w8 ⟨rfl, hb8⟩
        go_wp2_with fail
        refine (front_any (unT xs qo) (unS xs qo) _).mono ?_
        rintro e w9 ⟨rfl, hb9⟩
        have HB9 : Hid (Below w.heap.size w w9) := bchain (bchain HB.out hb8) hb9
        clear hb8 hb9 b1 b2 b3
        have hdec : decide (unT xs qo = 0 ∧ unS xs qo = 0) = false := by simp [HT.out]
        rw [hdec]
        clear hdec
        have hj0 : decide ((j : Int) < 0) = false := by simp
        go_wp2_with fail
        go_ret
        exact ⟨rfl, HB9.out⟩
  · have hd : decide (xs.length ≤ 1048576) = false := by simp; omega
    go_enter Try.func7, Try.ntmps7
    go_wp2_with fail
    refine (bytes24 ao xs.length cap ⟨qq, qo, qx, qb, ql, qa⟩ _ hlen).mono ?_
    rintro e w1 ⟨rfl, hb1⟩
    rw [hd]
    go_wp2_with fail
    go_ret
    exact ⟨rfl, ((Below.refl _ _).alloc (Nat.le_refl _) _).trans (hb1.mono (by simp))⟩

end Go.Proofs.Qxb6605653a
