import Derived.Test.Qxb6605653aUL2
namespace Go.Proofs.Qxb6605653a
open Go.RowKit

theorem keep4 {w w1 w' : World} {s k B : Nat} {f : Int} {u v0 v1 v2 : Value} (hb : Below w1.heap.size w1 w')
    (h : w1.cell? ⟨s, k, none⟩ = some u ∧ w1.cell? ⟨B, 0, none⟩ = some v0 ∧ w1.cell? ⟨B, 1, none⟩ = some v1 ∧ w1.cell? ⟨B, 2, none⟩ = some v2 ∧ UnI w w1 B f) : w'.cell? ⟨s, k, none⟩ = some u ∧ w'.cell? ⟨B, 0, none⟩ = some v0 ∧ w'.cell? ⟨B, 1, none⟩ = some v1 ∧ w'.cell? ⟨B, 2, none⟩ = some v2 ∧ UnI w w' B f :=
  ⟨(hb.cell (p := ⟨s, k, none⟩) (World.block_lt_of_cell? _ _ h.1)).trans h.1, keep3 hb h.2⟩

set_option maxHeartbeats 400000 in
theorem bytes23 (ao : Option Addr) (n cap : Nat) (q : Rd) (w : World) (hn : n ≤ maxLen) :
    Calls Try.prog 23 #[.slice ao n cap, q.plain] w fun e w' => e = .returned (.bool (decide (n ≤ 1048576))) ∧ Below w.heap.size w w' := by
  unfold maxLen at hn
  unfold Rd.plain
  by_cases g1 : n ≤ 1048576
  · go_enter Try.func23, Try.ntmps23
    go_wp2
    go_ret
    exact ⟨ret_bool (by simp; omega), (Below.refl _ _).alloc (Nat.le_refl _) _⟩
  · go_enter Try.func23, Try.ntmps23
    go_wp2
    go_ret
    exact ⟨ret_bool (by simp; omega), (Below.refl _ _).alloc (Nat.le_refl _) _⟩

set_option maxRecDepth 20000 in
set_option linter.unusedSimpArgs false in
set_option maxHeartbeats 8000000 in
theorem top6 (ao : Option Addr) (xs : List Rd) (cap : Nat) (q : Rd) (w : World) (hlen : xs.length ≤ maxLen) (hx : Rds w ao xs) (hxs : ∀ r ∈ xs, r.ok) (hq : q.ok) :
    Calls Try.prog 6 #[.slice ao xs.length cap, q.plain] w fun e w' => e = .returned (.bool true) ∧ Below w.heap.size w w' := by
  have HX : Hid (Rds w ao xs) := hx
  have HO : Hid (∀ r ∈ xs, r.ok) := hxs
  have HQ : Hid q.ok := hq
  clear hx hxs hq
  obtain ⟨qq, qo, qx, qb, ql, qa⟩ := q
  unfold Rd.plain
  by_cases hbig : xs.length ≤ 1048576
  · have hd : decide (xs.length ≤ 1048576) = true := by simp; omega
    go_enter Try.func6, Try.ntmps6
    go_wp2_with fail
    refine (bytes23 ao xs.length cap ⟨qq, qo, qx, qb, ql, qa⟩ _ hlen).mono ?_
    rintro e w1 ⟨rfl, hb1⟩
    rw [hd]
    have hb1' : Below w.heap.size w w1 := ((Below.refl _ _).alloc (Nat.le_refl _) _).trans (hb1.mono (by simp))
    obtain ⟨hc1, hf1⟩ := bcell hb1
    by_cases hlim : 21845 < xs.length
    · go_wp2_with fail
      go_ret
      exact ⟨rfl, hb1'⟩
    have HX1 : Hid (Rds w1 ao xs) := HX.out.keep hb1'
    go_wp2_with fail
    refine (inDomain_any ao xs cap _ hbig HX1.out).mono ?_
    rintro e w1' ⟨rfl | ⟨rfl, hdom⟩, m1, rfl⟩
    · go_wp2_with fail
      go_ret
      exact ⟨rfl, below_drewN hb1' m1⟩
    have HD : Hid (Dom xs xs.length) := hdom
    clear hdom
    go_wp2_with fail
    refine (copy_cap ao xs cap _ hbig (show Rds (w1.drewN m1) ao xs from HX1.out.keep (below_drewN (Below.refl _ _) m1))).mono ?_
    rintro e w2 ⟨ao', cap', rfl, hx2, hb2, hcap⟩
    have hS := keep6 (W := w) (s := w.heap.size) (v0 := .int .i64 qq) (v1 := .int .i64 qo) (v2 := .int .i64 qx) (v3 := .int .i64 qb) (v4 := .int .i64 ql) (v5 := .int .i64 qa) hb2 ⟨by simp [hc1], by simp [hc1], by simp [hc1], by simp [hc1], by simp [hc1], by simp [hc1], below_drewN hb1' m1⟩
    obtain ⟨k0, k1, k2, k3, k4, k5, k6⟩ := hS
    have hB0 : w.heap.size < w2.heap.size := World.block_lt_of_cell? _ _ k0
    have HW : Hid (Below w.heap.size w w2) := k6
    have HR2 : Hid (Rds w2 ao' xs) := hx2
    clear hx2 hb2 hc1 hf1 hb1 hb1' HX1 HX k6
    go_wp2_with fail
    refine (latest_any ao' xs cap' qo w2 hbig HR2.out).mono ?_
    rintro e w2' ⟨rfl, hw⟩
    subst w2'
    have hlb := lat_bd xs qo xs.length
    generalize hlv : lat xs qo xs.length = lv at hlb
    have HLV : Hid (lat xs qo xs.length = lv) := hlv
    clear hlv
    go_upto_region 9 with fail
    go_cut [6, 7] (fun s6 s7 wx => ∃ B, s6 = .pointer (some ⟨B, 0, none⟩) ∧ s7 = .int .i64 (unS xs qo) ∧ UnI w wx B (unT xs qo) ∧ wx.cell? ⟨w.heap.size, 1, none⟩ = some (.int .i64 qo) ∧ Rds wx ao' xs)
    case first =>
      have hSd := keep6 (W := w2) (show Below w2.heap.size w2 w2.drew from (Below.refl _ _).drew) ⟨k0, k1, k2, k3, k4, k5, Below.refl _ _⟩
      have K1 : Hid (w2.cell? ⟨w.heap.size, 1, none⟩ = some (.int .i64 qo)) := k1
      clear k0 k1 k2 k3 k4 k5
      go_region_held (fun w' => w'.cell? ⟨w.heap.size, 0, none⟩ = some (.int .i64 qq) ∧ w'.cell? ⟨w.heap.size, 1, none⟩ = some (.int .i64 qo) ∧ w'.cell? ⟨w.heap.size, 2, none⟩ = some (.int .i64 qx) ∧ w'.cell? ⟨w.heap.size, 3, none⟩ = some (.int .i64 qb) ∧ w'.cell? ⟨w.heap.size, 4, none⟩ = some (.int .i64 ql) ∧ w'.cell? ⟨w.heap.size, 5, none⟩ = some (.int .i64 qa) ∧ Below w2.heap.size w2 w')
        (first
          | exact hSd
          | (with_reducible exact keep6 (by assumption) (by assumption))
          | (with_reducible exact keep6 ((Below.refl _ _).alloc (Nat.le_refl _) _) (by assumption))
          | (with_reducible exact keep6_set3 hB0 (by omega) (by assumption))
          | (with_reducible exact keep6_swap hB0 (by assumption) (by assumption)))
        (first
          | (go_at_call 19; refine (build_any ao' xs cap' _ hbig (rds_of HR2.out (by assumption)) HO.out).mono ?_; rintro e w3 ⟨p, rfl, hW3, hb3, hz3⟩; have zA : w2.heap.size < w3.heap.size := (by first | omega | (simp at hz3; omega)); have hK3 := (show Hid (∀ w', Below w3.heap.size w3 w' → Wk w' p xs) from hW3.later); clear hW3; obtain ⟨hc3, hf3⟩ := bcell hb3)
          | (go_at_call 20; refine (toReading_any qq qo qx qb ql qa _ HQ.out.1.1 HQ.out.1.2 HQ.out.2.1 HQ.out.2.2).mono ?_; rintro e w4 ⟨rfl, hb4, hz4⟩; have zB : w3.heap.size < w4.heap.size := (by first | omega | (simp at hz4; omega)); have zC : w2.heap.size < w4.heap.size := (by omega); have hK4 : Hid (∀ w', Below w4.heap.size w4 w' → Wk w' p xs) := (by first | exact (fun w' h => hK3.out w' (bchain hb4 h)) | exact (fun w' h => hK3.out w' (bchain (((Below.refl _ _).alloc (Nat.le_refl _) _).trans (hb4.mono (by simp))) h))); obtain ⟨hc4, hf4⟩ := bcell hb4; unfold Rd.timed)
          | (go_at_call 18; refine (zzUnseen_any p xs ⟨qq, qo, qx, qb, ql, qa⟩ _ hbig (hK4.out _ (by first | exact Below.refl _ _ | exact (Below.refl _ _).alloc (Nat.le_refl _) _)) HO.out).mono ?_; rintro e w5 ⟨rfl, hb5, hz5⟩; have zD : w4.heap.size < w5.heap.size := (by first | omega | (simp at hz5; omega)); have zE : w3.heap.size < w5.heap.size := (by omega); have zF : w2.heap.size < w5.heap.size := (by omega); obtain ⟨hc5, hf5⟩ := bcell hb5))
      all_goals
        have hH := below_of (W := w2) (by assumption)
        have HH : Hid (Below w2.heap.size w2 _) := hH
        go_wp2_with fail
        go_meet
        refine ⟨_, rfl, rfl, ?_, (HH.out.cell (p := ⟨w.heap.size, 1, none⟩) hB0).trans K1.out, HR2.out.keep HH.out⟩
        first
          | (with_reducible refine UnI.of_new HW.out HH.out ?_)
            omega
          | (with_reducible refine UnI.of_set HW.out HH.out ?_ ?_ ?_ ?_ ?_)
            · omega
            · simp [hc5, hc4, hc3, zA, zB, zC]
            · simp [hc5, hc4, hc3, zA, zB, zC]
            · simp [hc5, hc4, hc3, zA, zB, zC]
            · intro o
              simp [hf5, hf4, hf3, zA, zB, zC, frozen_new]
    case rest =>
      obtain ⟨B, rfl, rfl, hU, hqo, hR⟩ := hcut
      clear k0 k1 k2 k3 k4 k5 HR2 HW hB0
      have HU : Hid (UnI w wc B (unT xs qo)) := hU
      have HR : Hid (Rds wc ao' xs) := hR
      have HQO : Hid (wc.cell? ⟨w.heap.size, 1, none⟩ = some (.int .i64 qo)) := hqo
      have hBc : w.heap.size < wc.heap.size := World.block_lt_of_cell? _ _ hqo
      clear hU hR hqo
      by_cases hneg : lv = -1
      · subst hneg
        have HT : Hid (unT xs qo = 0) := unT_none HLV.out
        have HS0 : Hid (unS xs qo = 0) := unS_none HLV.out
        have HTy : Hid (unT [] qo = 0) := (un_nil qo).1
        have HSy : Hid (unS [] qo = 0) := (un_nil qo).2
        have hysl : ([] : List Rd).length ≤ 1048576 := Nat.zero_le _
        clear hlb
        have i3 : IntKind.i64.wrap (-1 + 1) = 0 := by rw [IntKind.wrap_i64]; rfl
        have i4 : IntKind.i64.wrap 0 = 0 := by rw [IntKind.wrap_i64]; rfl
        have i5 : (0 : Int) ≤ (cap' : Int) := by omega
        by_cases hcz : cap' = 0
        · subst hcz
          go_upto_region 10 with fail
          go_cut [8, 9] (fun s8 s9 wx => ∃ B2, s8 = .pointer (some ⟨B2, 0, none⟩) ∧ s9 = .int .i64 (unS [] qo) ∧ UnI wc wx B2 (unT [] qo))
          case first =>
            have hSd := keep1 (W := wc) (show Below wc.heap.size wc wc.drew from (Below.refl _ _).drew) ⟨HQO.out, Below.refl _ _⟩
            go_region_held (fun w' => w'.cell? ⟨w.heap.size, 1, none⟩ = some (.int .i64 qo) ∧ Below wc.heap.size wc w')
              (first
                | exact hSd
                | (with_reducible exact keep1 (by assumption) (by assumption))
                | (with_reducible exact keep1 ((Below.refl _ _).alloc (Nat.le_refl _) _) (by assumption))
                | (with_reducible exact keep1_set3 hBc (by omega) (by assumption))
                | (with_reducible exact keep1_swap hBc (by assumption) (by assumption)))
              (first
                | (go_at_call 19; refine (build_n _ [] 0 _ _ rfl (by omega) (.inl rfl) (by simp)).mono ?_; rintro e w3 ⟨p, rfl, hW3, hb3, hz3⟩; have zA : wc.heap.size < w3.heap.size := (by first | omega | (simp at hz3; omega)); have hK3 := (show Hid (∀ w', Below w3.heap.size w3 w' → Wk w' p []) from hW3.later); clear hW3; obtain ⟨hc3, hf3⟩ := bcell hb3)
                | (go_at_call 20; refine (toReading_any 0 qo 0 0 0 0 _ (by omega) (by omega) (by omega) (by omega)).mono ?_; rintro e w4 ⟨rfl, hb4, hz4⟩; have zB : w3.heap.size < w4.heap.size := (by first | omega | (simp at hz4; omega)); have zC : wc.heap.size < w4.heap.size := (by omega); have hK4 : Hid (∀ w', Below w4.heap.size w4 w' → Wk w' p []) := (by first | exact (fun w' h => hK3.out w' (bchain hb4 h)) | exact (fun w' h => hK3.out w' (bchain (((Below.refl _ _).alloc (Nat.le_refl _) _).trans (hb4.mono (by simp))) h))); obtain ⟨hc4, hf4⟩ := bcell hb4; unfold Rd.timed)
                | (go_at_call 18; refine (zzUnseen_any p [] ⟨0, qo, 0, 0, 0, 0⟩ _ hysl (hK4.out _ (by first | exact Below.refl _ _ | exact (Below.refl _ _).alloc (Nat.le_refl _) _)) (by simp)).mono ?_; rintro e w5 ⟨rfl, hb5, hz5⟩; have zD : w4.heap.size < w5.heap.size := (by first | omega | (simp at hz5; omega)); have zE : w3.heap.size < w5.heap.size := (by omega); have zF : wc.heap.size < w5.heap.size := (by omega); obtain ⟨hc5, hf5⟩ := bcell hb5))
            all_goals
              have hH := below1_of (W := wc) (by assumption)
              have HH : Hid (Below wc.heap.size wc _) := hH
              go_wp2_with fail
              go_meet
              refine ⟨_, rfl, rfl, ?_⟩
              first
                | (with_reducible refine UnI.of_new (Below.refl _ _) HH.out ?_)
                  omega
                | (with_reducible refine UnI.of_set (Below.refl _ _) HH.out ?_ ?_ ?_ ?_ ?_)
                  · omega
                  · simp [hc5, hc4, hc3, zA, zB, zC]
                  · simp [hc5, hc4, hc3, zA, zB, zC]
                  · simp [hc5, hc4, hc3, zA, zB, zC]
                  · intro o
                    simp [hf5, hf4, hf3, zA, zB, zC, frozen_new]
          case rest =>
            obtain ⟨B2, rfl, rfl, hU2⟩ := hcut
            have hU1 := HU.out.keep hU2.1
            rw [HT.out] at hU1
            rw [HTy.out] at hU2
            rw [HS0.out, HSy.out]
            obtain ⟨d0, d1, d2, d3, d4, d5⟩ := hU2
            obtain ⟨b0, b1, b2, b3, b4, b5⟩ := hU1
            have hUU : UnI w _ B 0 := ⟨b0, b1, b2, b3, b4, b5⟩
            simp only [Int.zero_emod, Int.zero_ediv] at b1 b2 d1 d2
            have hpe := eq34
            have HUU : Hid (UnI w _ B 0) := hUU
            clear d0 d4 d5 b0 b4 b5 hUU
            go_wp2_with fail
            have hSd := keep3 (show Below (World.heap _).size _ (World.drew _) from (Below.refl _ _).drew) ⟨b1, b2, b3, HUU.out⟩
            clear b1 b2 b3 d1 d2 d3 HUU HU
            go_region_held (fun w' => w'.cell? ⟨B, 0, none⟩ = some (.int .u64 0) ∧ w'.cell? ⟨B, 1, none⟩ = some (.int .i64 0) ∧ w'.cell? ⟨B, 2, none⟩ = some (.pointer none) ∧ UnI w w' B 0)
              (first | exact hSd | (with_reducible exact keep3 (by assumption) (by assumption)))
              (first | (go_at_call 22; refine (timeAt_any 0 _ (by omega) (by omega)).mono ?_; rintro e w7 ⟨rfl, hb7⟩; unfold tmv))
            rename_i hh
            have HB : Hid (Below w.heap.size w w7) := hh.2.2.2.1
            clear hh
            go_wp2_with fail
            go_ret
            exact ⟨rfl, HB.out⟩
        · skip
          go_upto_region 10 with fail
          go_cut [8, 9] (fun s8 s9 wx => ∃ B2, s8 = .pointer (some ⟨B2, 0, none⟩) ∧ s9 = .int .i64 (unS [] qo) ∧ UnI wc wx B2 (unT [] qo))
          case first =>
            have hSd := keep1 (W := wc) (show Below wc.heap.size wc wc.drew from (Below.refl _ _).drew) ⟨HQO.out, Below.refl _ _⟩
            go_region_held (fun w' => w'.cell? ⟨w.heap.size, 1, none⟩ = some (.int .i64 qo) ∧ Below wc.heap.size wc w')
              (first
                | exact hSd
                | (with_reducible exact keep1 (by assumption) (by assumption))
                | (with_reducible exact keep1 ((Below.refl _ _).alloc (Nat.le_refl _) _) (by assumption))
                | (with_reducible exact keep1_set3 hBc (by omega) (by assumption))
                | (with_reducible exact keep1_swap hBc (by assumption) (by assumption)))
              (first
                | (go_at_call 19; refine (build_n _ [] 0 _ _ rfl (by omega) (.inl rfl) (by simp)).mono ?_; rintro e w3 ⟨p, rfl, hW3, hb3, hz3⟩; have zA : wc.heap.size < w3.heap.size := (by first | omega | (simp at hz3; omega)); have hK3 := (show Hid (∀ w', Below w3.heap.size w3 w' → Wk w' p []) from hW3.later); clear hW3; obtain ⟨hc3, hf3⟩ := bcell hb3)
                | (go_at_call 20; refine (toReading_any 0 qo 0 0 0 0 _ (by omega) (by omega) (by omega) (by omega)).mono ?_; rintro e w4 ⟨rfl, hb4, hz4⟩; have zB : w3.heap.size < w4.heap.size := (by first | omega | (simp at hz4; omega)); have zC : wc.heap.size < w4.heap.size := (by omega); have hK4 : Hid (∀ w', Below w4.heap.size w4 w' → Wk w' p []) := (by first | exact (fun w' h => hK3.out w' (bchain hb4 h)) | exact (fun w' h => hK3.out w' (bchain (((Below.refl _ _).alloc (Nat.le_refl _) _).trans (hb4.mono (by simp))) h))); obtain ⟨hc4, hf4⟩ := bcell hb4; unfold Rd.timed)
                | (go_at_call 18; refine (zzUnseen_any p [] ⟨0, qo, 0, 0, 0, 0⟩ _ hysl (hK4.out _ (by first | exact Below.refl _ _ | exact (Below.refl _ _).alloc (Nat.le_refl _) _)) (by simp)).mono ?_; rintro e w5 ⟨rfl, hb5, hz5⟩; have zD : w4.heap.size < w5.heap.size := (by first | omega | (simp at hz5; omega)); have zE : w3.heap.size < w5.heap.size := (by omega); have zF : wc.heap.size < w5.heap.size := (by omega); obtain ⟨hc5, hf5⟩ := bcell hb5))
            all_goals
              have hH := below1_of (W := wc) (by assumption)
              have HH : Hid (Below wc.heap.size wc _) := hH
              go_wp2_with fail
              go_meet
              refine ⟨_, rfl, rfl, ?_⟩
              first
                | (with_reducible refine UnI.of_new (Below.refl _ _) HH.out ?_)
                  omega
                | (with_reducible refine UnI.of_set (Below.refl _ _) HH.out ?_ ?_ ?_ ?_ ?_)
                  · omega
                  · simp [hc5, hc4, hc3, zA, zB, zC]
                  · simp [hc5, hc4, hc3, zA, zB, zC]
                  · simp [hc5, hc4, hc3, zA, zB, zC]
                  · intro o
                    simp [hf5, hf4, hf3, zA, zB, zC, frozen_new]
          case rest =>
            obtain ⟨B2, rfl, rfl, hU2⟩ := hcut
            have hU1 := HU.out.keep hU2.1
            rw [HT.out] at hU1
            rw [HTy.out] at hU2
            rw [HS0.out, HSy.out]
            obtain ⟨d0, d1, d2, d3, d4, d5⟩ := hU2
            obtain ⟨b0, b1, b2, b3, b4, b5⟩ := hU1
            have hUU : UnI w _ B 0 := ⟨b0, b1, b2, b3, b4, b5⟩
            simp only [Int.zero_emod, Int.zero_ediv] at b1 b2 d1 d2
            have hpe := eq34
            have HUU : Hid (UnI w _ B 0) := hUU
            clear d0 d4 d5 b0 b4 b5 hUU
            go_wp2_with fail
            have hSd := keep3 (show Below (World.heap _).size _ (World.drew _) from (Below.refl _ _).drew) ⟨b1, b2, b3, HUU.out⟩
            clear b1 b2 b3 d1 d2 d3 HUU HU
            go_region_held (fun w' => w'.cell? ⟨B, 0, none⟩ = some (.int .u64 0) ∧ w'.cell? ⟨B, 1, none⟩ = some (.int .i64 0) ∧ w'.cell? ⟨B, 2, none⟩ = some (.pointer none) ∧ UnI w w' B 0)
              (first | exact hSd | (with_reducible exact keep3 (by assumption) (by assumption)))
              (first | (go_at_call 22; refine (timeAt_any 0 _ (by omega) (by omega)).mono ?_; rintro e w7 ⟨rfl, hb7⟩; unfold tmv))
            rename_i hh
            have HB : Hid (Below w.heap.size w w7) := hh.2.2.2.1
            clear hh
            go_wp2_with fail
            go_ret
            exact ⟨rfl, HB.out⟩
      · obtain ⟨j, rfl⟩ : ∃ j : Nat, lv = j := ⟨lv.toNat, by omega⟩
        have hjl : j < xs.length := by omega
        obtain ⟨r, hr⟩ : ∃ r, xs[j]? = some r := ⟨xs[j], List.getElem?_eq_getElem hjl⟩
        have HRj : Hid (xs[j]? = some r) := hr
        have hb0 := dom_at HD.out hjl hr
        have hb1 := (HO.out r (List.mem_of_getElem? hr)).1.2
        obtain ⟨f, hf⟩ : ∃ f, r.b - 1000000000 = f := ⟨_, rfl⟩
        have HF : Hid (r.b - 1000000000 = f) := hf
        have HT : Hid (unT xs qo = f) := (show unT xs qo = f by rw [unT_some HLV.out hr]; omega)
        have HTy : Hid (unT (xs.take (j + 1)) qo = f) := (un_take HLV.out).1.trans HT.out
        have HSy : Hid (unS (xs.take (j + 1)) qo = unS xs qo) := (un_take HLV.out).2
        have hf0 : -9223372036854775808 ≤ f := by omega
        have hf1 : f ≤ 9223372036854775807 := by omega
        have hyl : (xs.take (j + 1)).length = j + 1 := by rw [List.length_take]; omega
        have hysl : (xs.take (j + 1)).length ≤ 1048576 := by omega
        obtain ⟨bb, oo, _, ha, _⟩ := HR.out.at hjl
        have HA : Hid (ao' = some ⟨bb, oo, none⟩) := ha
        subst ha
        have i0 : (0 : Int) ≤ (j : Int) + 1 := by omega
        have i1 : (j : Int) + 1 ≤ (cap' : Int) := by omega
        have i2 : ((j : Int) + 1).toNat = j + 1 := by omega
        have i3 : IntKind.i64.wrap ((j : Int) + 1) = (j : Int) + 1 := by rw [IntKind.wrap_i64]; omega
        have i4 : ¬ cap' = 0 := by omega
        have HYL : Hid ((xs.take (j + 1)).length = j + 1) := hyl
        clear hlb hr hf hyl
        go_upto_region 10 with fail
        go_cut [8, 9] (fun s8 s9 wx => ∃ B2, s8 = .pointer (some ⟨B2, 0, none⟩) ∧ s9 = .int .i64 (unS (xs.take (j + 1)) qo) ∧ UnI wc wx B2 (unT (xs.take (j + 1)) qo))
        case first =>
          have hSd := keep1 (W := wc) (show Below wc.heap.size wc wc.drew from (Below.refl _ _).drew) ⟨HQO.out, Below.refl _ _⟩
          go_region_held (fun w' => w'.cell? ⟨w.heap.size, 1, none⟩ = some (.int .i64 qo) ∧ Below wc.heap.size wc w')
            (first
              | exact hSd
              | (with_reducible exact keep1 (by assumption) (by assumption))
              | (with_reducible exact keep1 ((Below.refl _ _).alloc (Nat.le_refl _) _) (by assumption))
              | (with_reducible exact keep1_set3 hBc (by omega) (by assumption))
              | (with_reducible exact keep1_swap hBc (by assumption) (by assumption)))
            (first
              | (go_at_call 19; refine (build_n _ (xs.take (j + 1)) (j + 1) _ _ HYL.out (by omega) (rds1_of (HR.out.take (j + 1)) (by assumption)) (fun r hr => HO.out r (List.mem_of_mem_take hr))).mono ?_; rintro e w3 ⟨p, rfl, hW3, hb3, hz3⟩; have zA : wc.heap.size < w3.heap.size := (by first | omega | (simp at hz3; omega)); have hK3 := (show Hid (∀ w', Below w3.heap.size w3 w' → Wk w' p (xs.take (j + 1))) from hW3.later); clear hW3; obtain ⟨hc3, hf3⟩ := bcell hb3)
              | (go_at_call 20; refine (toReading_any 0 qo 0 0 0 0 _ (by omega) (by omega) (by omega) (by omega)).mono ?_; rintro e w4 ⟨rfl, hb4, hz4⟩; have zB : w3.heap.size < w4.heap.size := (by first | omega | (simp at hz4; omega)); have zC : wc.heap.size < w4.heap.size := (by omega); have hK4 : Hid (∀ w', Below w4.heap.size w4 w' → Wk w' p (xs.take (j + 1))) := (by first | exact (fun w' h => hK3.out w' (bchain hb4 h)) | exact (fun w' h => hK3.out w' (bchain (((Below.refl _ _).alloc (Nat.le_refl _) _).trans (hb4.mono (by simp))) h))); obtain ⟨hc4, hf4⟩ := bcell hb4; unfold Rd.timed)
              | (go_at_call 18; refine (zzUnseen_any p (xs.take (j + 1)) ⟨0, qo, 0, 0, 0, 0⟩ _ hysl (hK4.out _ (by first | exact Below.refl _ _ | exact (Below.refl _ _).alloc (Nat.le_refl _) _)) (fun r hr => HO.out r (List.mem_of_mem_take hr))).mono ?_; rintro e w5 ⟨rfl, hb5, hz5⟩; have zD : w4.heap.size < w5.heap.size := (by first | omega | (simp at hz5; omega)); have zE : w3.heap.size < w5.heap.size := (by omega); have zF : wc.heap.size < w5.heap.size := (by omega); obtain ⟨hc5, hf5⟩ := bcell hb5))
          all_goals
            have hH := below1_of (W := wc) (by assumption)
            have HH : Hid (Below wc.heap.size wc _) := hH
            go_wp2_with fail
            go_meet
            refine ⟨_, rfl, rfl, ?_⟩
            first
              | (with_reducible refine UnI.of_new (Below.refl _ _) HH.out ?_)
                omega
              | (with_reducible refine UnI.of_set (Below.refl _ _) HH.out ?_ ?_ ?_ ?_ ?_)
                · omega
                · simp [hc5, hc4, hc3, zA, zB, zC]
                · simp [hc5, hc4, hc3, zA, zB, zC]
                · simp [hc5, hc4, hc3, zA, zB, zC]
                · intro o
                  simp [hf5, hf4, hf3, zA, zB, zC, frozen_new]
        case rest =>
          clear i0 i1 i2 i3 i4
          obtain ⟨B2, rfl, rfl, hU2⟩ := hcut
          have hU1 := HU.out.keep hU2.1
          rw [HT.out] at hU1
          rw [HTy.out] at hU2
          rw [HSy.out]
          generalize unS xs qo = sq
          obtain ⟨d0, d1, d2, d3, d4, d5⟩ := hU2
          obtain ⟨b0, b1, b2, b3, b4, b5⟩ := hU1
          have hR3 := HR.out.keep d0
          obtain ⟨b', off', r', ha', hr', _, _, _, c3, _, _⟩ := hR3.at hjl
          rw [HRj.out] at hr'
          cases hr'
          have ha'' := ha'.symm.trans HA.out
          cases ha''
          have hpe := eq34
          have HUU : Hid (UnI w _ B f) := ⟨b0, b1, b2, b3, b4, b5⟩
          have C3 := c3
          clear d0 d4 d5 b0 b4 b5
          go_wp2_with fail
          have hSd := keep4 (show Below (World.heap _).size _ (World.drew _) from (Below.refl _ _).drew) ⟨C3, b1, b2, b3, HUU.out⟩
          clear b1 b2 b3 d1 d2 d3 HUU HU c3 C3
          have hwf : IntKind.i64.wrap (r.b - 1000000000) = f := by rw [IntKind.wrap_i64]; have := HF.out; omega
          go_region_held (fun w' => w'.cell? ⟨bb, oo + j * 6 + 3, none⟩ = some (.int .i64 r.b) ∧ w'.cell? ⟨B, 0, none⟩ = some (.int .u64 (f % 1000000000)) ∧ w'.cell? ⟨B, 1, none⟩ = some (.int .i64 (f / 1000000000)) ∧ w'.cell? ⟨B, 2, none⟩ = some (.pointer none) ∧ UnI w w' B f)
            (first | exact hSd | (with_reducible exact keep4 (by assumption) (by assumption)))
            (first | (go_at_call 22; refine (timeAt_any f _ hf0 hf1).mono ?_; rintro e w7 ⟨rfl, hb7⟩; unfold tmv))
          rename_i hh
          have HB : Hid (Below w.heap.size w w7) := hh.2.2.2.2.1
          clear hh
          go_wp2_with fail
          go_ret
          exact ⟨rfl, HB.out⟩
  · have hd : decide (xs.length ≤ 1048576) = false := by simp; omega
    go_enter Try.func6, Try.ntmps6
    go_wp2_with fail
    refine (bytes23 ao xs.length cap ⟨qq, qo, qx, qb, ql, qa⟩ _ hlen).mono ?_
    rintro e w1 ⟨rfl, hb1⟩
    rw [hd]
    go_wp2_with fail
    go_ret
    exact ⟨rfl, ((Below.refl _ _).alloc (Nat.le_refl _) _).trans (hb1.mono (by simp))⟩

end Go.Proofs.Qxb6605653a
