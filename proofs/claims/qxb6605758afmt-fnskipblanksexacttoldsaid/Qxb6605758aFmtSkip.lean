import Derived.Test.Qxb6605758aFmtRun
namespace Go.Proofs.Qxb6605758aFmt
open Go.RowKit Go.Stop

/-- Behind skipBlanks. -/
def SkipPost (w w' : World) (p : Nat) (ao : Option Addr) (cap : Nat) (zs : List Int) (off : Nat) (lc : Int × Int) (pv : Value) (cs : Bool) (e : Ending) : Prop :=
  ∃ j, (Run zs off j none ∧ e = .returned (.bool (decide (off < j))) ∧ Sk w w' p ao cap zs off j lc pv cs) ∨
    ∃ i pv', Run zs off j (some i) ∧ off ≤ i ∧ e = .returned (.bool true) ∧ Sk w w' p ao cap zs off j lc pv' true ∧ OneProb w' p pv' (plT zs off i lc).1 (plT zs off i lc).2

theorem Sk.set {w wr : World} {p : Nat} {ao : Option Addr} {cap : Nat} {zs : List Int} {off cu : Nat} {lc : Int × Int} {pv : Value} {cs : Bool} (h : Sk w wr p ao cap zs off cu lc pv cs) (c : Bool) : Sk w (wr.setCell ⟨p, 6, none⟩ (.bool c)) p ao cap zs off cu lc pv c :=
  ⟨h.1, h.2.1, h.2.2.1.set.2.2.2.2 c, h.2.2.2.setCell (p := ⟨p, 6, none⟩) (Nat.le_refl p) _⟩

set_option maxRecDepth 20000 in
set_option maxHeartbeats 4000000 in
theorem skipBlanks_any (F : Interp) (p : Nat) (ao : Option Addr) (cap : Nat) (zs : List Int) (off : Nat) (line col : Int) (pv : Value) (cs : Bool) (w : World) (hF : F.answers w.tape) (hz : zs.length ≤ 1048576) (ho : off ≤ zs.length)
    (hpv : ∀ e i, Run zs off e (some i) → pv = .slice none 0 0) (h : Lx w p ao cap zs off line col pv cs) :
    Calls Tryf.prog 21 #[.pointer (some ⟨p, 0, none⟩)] w fun e w' => SkipPost w w' p ao cap zs off (line, col) pv cs e := by
  have hp : p < w.heap.size := World.block_lt_of_cell? _ _ h.1
  have H0 : Hid (Sk w w p ao cap zs off off (line, col) pv cs) := ⟨Nat.le_refl _, ho, by rw [plT_self]; exact h, Below.refl _ _⟩
  have HPV : Hid (∀ e i, Run zs off e (some i) → pv = .slice none 0 0) := hpv
  have h1 := h.2.1
  clear h hpv
  go_enter Tryf.func21, Tryf.ntmps21
  go_wp2_with fail
  clear h1
  go_loopw [] (fun wr => ∃ cu, (∀ e u, Run zs cu e u → Run zs off e u) ∧ Sk w wr p ao cap zs off cu (line, col) pv cs) (fun wr => zs.length - offAt p wr)
  case atStart => exact ⟨off, fun _ _ r => r, H0.out⟩
  case round =>
    obtain ⟨cu, hr, hS⟩ := hrel
    have HR : Hid (∀ e u, Run zs cu e u → Run zs off e u) := hr
    have HS : Hid (Sk w wr p ao cap zs off cu (line, col) pv cs) := hS
    have HM : Hid (offAt p wr = cu) := offAt_of hS.2.2.1
    clear hr hS H0
    go_wp2_with fail
    refine (peek_any p ao cap zs cu 0 _ _ pv cs _ hz HS.out.2.1 (by omega) HS.out.2.2.1).mono ?_
    rintro e w1 ⟨rfl, m1, rfl⟩
    rw [Nat.add_zero]
    have HS1 : Hid (Sk w (wr.drewN m1) p ao cap zs off cu (line, col) pv cs) := HS.out.drewN m1
    clear HS
    generalize hw1 : wr.drewN m1 = w1 at HS1
    clear hw1 m1
    generalize hc : ch zs cu = c
    have HC : Hid (ch zs cu = c) := hc
    clear hc
    by_cases hbl : Bl c
    · have hlt : cu < zs.length := lt_of_ch (by rw [HC.out]; unfold Bl at hbl; omega)
      have HB : Hid (Bl (ch zs cu)) := by rw [HC.out]; exact hbl
      rcases hbl with rfl | rfl | rfl | rfl
      all_goals
        go_wp2_with fail
        refine (advance_any p ao cap zs cu _ _ pv cs _ hz hlt HS1.out.2.2.1).mono ?_
        rintro e w3 ⟨rfl, hl, hO⟩
        have HN : Hid (Sk w w3 p ao cap zs off (cu + 1) (line, col) pv cs) := HS1.out.adv hlt hl hO
        have HM3 : Hid (offAt p w3 = cu + 1) := offAt_of hl
        clear hl hO
        go_wp2_with fail
        go_roundw
        case rel => exact ⟨cu + 1, fun e u r => HR.out e u (.blank _ _ _ HB.out r), HN.out⟩
        case measure =>
          rw [HM3.out, HM.out]
          omega
    · have e32 : (c == 32) = false := by unfold Bl at hbl; simp; omega
      have e9 : (c == 9) = false := by unfold Bl at hbl; simp; omega
      have e13 : (c == 13) = false := by unfold Bl at hbl; simp; omega
      have e12 : (c == 12) = false := by unfold Bl at hbl; simp; omega
      have HBl : Hid (¬ Bl (ch zs cu)) := by rw [HC.out]; exact hbl
      clear hbl
      by_cases h47 : c = 47
      · subst h47
        go_wp2_with fail
        refine (peek_any p ao cap zs cu 1 _ _ pv cs _ hz HS1.out.2.1 (by omega) HS1.out.2.2.1).mono ?_
        rintro e w2 ⟨rfl, m2, rfl⟩
        have HS2 : Hid (Sk w (w1.drewN m2) p ao cap zs off cu (line, col) pv cs) := HS1.out.drewN m2
        clear HS1
        generalize hw2 : w1.drewN m2 = w2 at HS2
        clear hw2 m2
        generalize hd : ch zs (cu + 1) = d
        have HD : Hid (ch zs (cu + 1) = d) := hd
        clear hd
        have hlt : cu < zs.length := lt_of_ch (by rw [HC.out]; decide)
        by_cases hd47 : d = 47
        · subst hd47
          go_wp2_with fail
          refine (skipLine_any p ao cap zs cu _ _ pv cs _ hz HS2.out.2.1 HS2.out.2.2.1).mono ?_
          rintro e w3 ⟨rfl, n, hL, hA⟩
          have HL : Hid (Lined zs cu n) := hL
          have HN : Hid (Sk w w3 p ao cap zs off (cu + n) (line, col) pv cs) := HS2.out.skip hL.1 hA
          have HM3 : Hid (offAt p w3 = cu + n) := offAt_of hA.1
          have hn : 0 < n := by
            rcases Nat.eq_zero_or_pos n with h0 | h0
            · subst h0
              have h1 := hL.2.2
              rw [Nat.add_zero, HC.out] at h1
              omega
            · exact h0
          clear hL hA
          go_wp2_with fail
          go_roundw
          case rel => exact ⟨cu + n, fun e u r => HR.out e u (.line _ _ _ _ HC.out HD.out HL.out r), HN.out⟩
          case measure =>
            rw [HM3.out, HM.out]
            omega
        · have e47 : (d == 47) = false := by simp [hd47]
          go_wp2_with fail
          refine (peek_any p ao cap zs cu 1 _ _ pv cs _ hz HS2.out.2.1 (by omega) HS2.out.2.2.1).mono ?_
          rintro e w3 ⟨rfl, m3, rfl⟩
          rw [HD.out]
          have HS3 : Hid (Sk w (w2.drewN m3) p ao cap zs off cu (line, col) pv cs) := HS2.out.drewN m3
          clear HS2
          generalize hw3 : w2.drewN m3 = w3 at HS3
          clear hw3 m3
          by_cases hd42 : d = 42
          · subst hd42
            go_wp2_with fail
            have hp3 : p < w3.heap.size := World.block_lt_of_cell? _ _ HS3.out.2.2.1.1
            refine (pos_any p ao cap zs cu _ _ pv cs _ HS3.out.2.2.1).mono ?_
            rintro e w4 ⟨rfl, hb4⟩
            have HS4 : Hid (Sk w w4 p ao cap zs off cu (line, col) pv cs) := HS3.out.keep (hb4.mono hp3)
            have hp4 : p < w4.heap.size := Nat.lt_of_lt_of_le hp3 hb4.size
            have HS4c : Hid (off ≤ cu) := HS4.out.1
            clear hb4 HS3 hp3
            unfold posv
            generalize hql : (plT zs off cu (line, col)).1 = ql
            generalize hqc : (plT zs off cu (line, col)).2 = qc
            have HQL : Hid ((plT zs off cu (line, col)).1 = ql) := hql
            have HQC : Hid ((plT zs off cu (line, col)).2 = qc) := hqc
            clear hql hqc
            go_wp2_with fail
            have hne4 : w4.heap.size ≠ p := by omega
            have hlt1 : cu + 1 < zs.length := lt_of_ch (by rw [HD.out]; decide)
            refine (advance_any p ao cap zs cu _ _ pv cs _ hz hlt (HS4.out.keep ((Below.refl _ _).alloc hp4 _)).2.2.1).mono ?_
            rintro e w5 ⟨rfl, hl5, hO5⟩
            have HS5 : Hid (Sk w w5 p ao cap zs off (cu + 1) (line, col) pv cs) := (HS4.out.keep ((Below.refl _ _).alloc hp4 _)).adv hlt hl5 hO5
            have A5 : Hid (w5.cell? ⟨w4.heap.size, 0, none⟩ = some (.int .i64 ql) ∧ w5.cell? ⟨w4.heap.size, 1, none⟩ = some (.int .i64 qc)) := ⟨(hO5.2.2 ⟨w4.heap.size, 0, none⟩ hne4).trans (by simp), (hO5.2.2 ⟨w4.heap.size, 1, none⟩ hne4).trans (by simp)⟩
            clear hl5 hO5 HS4
            generalize w4.heap.size = q at A5 hne4
            go_wp2_with fail
            refine (advance_any p ao cap zs (cu + 1) _ _ pv cs _ hz hlt1 HS5.out.2.2.1).mono ?_
            rintro e w6 ⟨rfl, hl6, hO6⟩
            have HS6 : Hid (Sk w w6 p ao cap zs off (cu + 2) (line, col) pv cs) := HS5.out.adv hlt1 hl6 hO6
            have A6 : Hid (w6.cell? ⟨q, 0, none⟩ = some (.int .i64 ql) ∧ w6.cell? ⟨q, 1, none⟩ = some (.int .i64 qc)) := ⟨(hO6.2.2 ⟨q, 0, none⟩ hne4).trans A5.out.1, (hO6.2.2 ⟨q, 1, none⟩ hne4).trans A5.out.2⟩
            clear hl6 hO6 HS5 A5
            go_wp2_with fail
            go_loopw [] (fun wq => ∃ j, cu + 2 ≤ j ∧ Open2 zs cu j ∧ Sk w wq p ao cap zs off j (line, col) pv cs ∧ wq.cell? ⟨q, 0, none⟩ = some (.int .i64 ql) ∧ wq.cell? ⟨q, 1, none⟩ = some (.int .i64 qc)) (fun wq => zs.length - offAt p wq)
            case atStart => exact ⟨cu + 2, Nat.le_refl _, fun k h1 h2 => by omega, HS6.out, A6.out.1, A6.out.2⟩
            case round =>
              obtain ⟨j, hj, hO, hS, a0, a1⟩ := hrel
              clear HS6 A6
              have HO : Hid (Open2 zs cu j) := hO
              have HSj : Hid (Sk w wr p ao cap zs off j (line, col) pv cs) := hS
              have HMj : Hid (offAt p wr = j) := offAt_of hS.2.2.1
              have AJ : Hid (wr.cell? ⟨q, 0, none⟩ = some (.int .i64 ql) ∧ wr.cell? ⟨q, 1, none⟩ = some (.int .i64 qc)) := ⟨a0, a1⟩
              clear hO hS a0 a1
              go_wp2_with fail
              refine (peek_any p ao cap zs j 0 _ _ pv cs _ hz HSj.out.2.1 (by omega) HSj.out.2.2.1).mono ?_
              rintro e w7 ⟨rfl, m7, rfl⟩
              rw [Nat.add_zero]
              have HS7 : Hid (Sk w (wr.drewN m7) p ao cap zs off j (line, col) pv cs) := HSj.out.drewN m7
              have A7 : Hid ((wr.drewN m7).cell? ⟨q, 0, none⟩ = some (.int .i64 ql) ∧ (wr.drewN m7).cell? ⟨q, 1, none⟩ = some (.int .i64 qc)) := AJ.out
              clear HSj AJ
              generalize hw7 : wr.drewN m7 = w7 at HS7 A7
              clear hw7 m7
              generalize hf : ch zs j = f
              have HF : Hid (ch zs j = f) := hf
              clear hf
              by_cases hf42 : f = 42
              · subst hf42
                have hltj : j < zs.length := lt_of_ch (by rw [HF.out]; decide)
                go_wp2_with fail
                refine (peek_any p ao cap zs j 1 _ _ pv cs _ hz HS7.out.2.1 (by omega) HS7.out.2.2.1).mono ?_
                rintro e w8 ⟨rfl, m8, rfl⟩
                have HS8 : Hid (Sk w (w7.drewN m8) p ao cap zs off j (line, col) pv cs) := HS7.out.drewN m8
                have A8 : Hid ((w7.drewN m8).cell? ⟨q, 0, none⟩ = some (.int .i64 ql) ∧ (w7.drewN m8).cell? ⟨q, 1, none⟩ = some (.int .i64 qc)) := A7.out
                clear HS7 A7
                generalize hw8 : w7.drewN m8 = w8 at HS8 A8
                clear hw8 m8
                generalize hg : ch zs (j + 1) = g
                have HG : Hid (ch zs (j + 1) = g) := hg
                clear hg
                by_cases hg47 : g = 47
                · subst hg47
                  have hltj1 : j + 1 < zs.length := lt_of_ch (by rw [HG.out]; decide)
                  go_wp2_with fail
                  refine (advance_any p ao cap zs j _ _ pv cs _ hz hltj HS8.out.2.2.1).mono ?_
                  rintro e w9 ⟨rfl, hl9, hO9⟩
                  have HS9 : Hid (Sk w w9 p ao cap zs off (j + 1) (line, col) pv cs) := HS8.out.adv hltj hl9 hO9
                  clear hl9 hO9 HS8 A8
                  go_wp2_with fail
                  refine (advance_any p ao cap zs (j + 1) _ _ pv cs _ hz hltj1 HS9.out.2.2.1).mono ?_
                  rintro e w10 ⟨rfl, hl10, hO10⟩
                  have HN : Hid (Sk w w10 p ao cap zs off (j + 2) (line, col) pv cs) := HS9.out.adv hltj1 hl10 hO10
                  have HM3 : Hid (offAt p w10 = j + 2) := offAt_of hl10
                  clear hl10 hO10 HS9
                  go_wp2_with fail
                  go_roundw
                  case rel => exact ⟨j + 2, fun e u r => HR.out e u (.closed _ j _ _ HC.out HD.out hj HO.out HF.out HG.out r), HN.out⟩
                  case measure =>
                    rw [HM3.out, HM.out]
                    omega
                · have e47g : (g == 47) = false := by simp [hg47]
                  go_wp2_with fail
                  refine (peek_any p ao cap zs j 0 _ _ pv cs _ hz HS8.out.2.1 (by omega) HS8.out.2.2.1).mono ?_
                  rintro e w9 ⟨rfl, m9, rfl⟩
                  rw [Nat.add_zero, HF.out]
                  go_wp2_with fail
                  refine (advance_any p ao cap zs j _ _ pv cs _ hz hltj (HS8.out.drewN m9).2.2.1).mono ?_
                  rintro e w10 ⟨rfl, hl10, hO10⟩
                  have HN : Hid (Sk w w10 p ao cap zs off (j + 1) (line, col) pv cs) := (HS8.out.drewN m9).adv hltj hl10 hO10
                  have HM3 : Hid (offAt p w10 = j + 1) := offAt_of hl10
                  have AN : Hid (w10.cell? ⟨q, 0, none⟩ = some (.int .i64 ql) ∧ w10.cell? ⟨q, 1, none⟩ = some (.int .i64 qc)) := ⟨(hO10.2.2 ⟨q, 0, none⟩ hne4).trans A8.out.1, (hO10.2.2 ⟨q, 1, none⟩ hne4).trans A8.out.2⟩
                  clear hl10 hO10 HS8 A8
                  go_wp2_with fail
                  go_roundw
                  case rel =>
                    refine ⟨j + 1, by omega, fun k h1 h2 => ?_, HN.out, AN.out.1, AN.out.2⟩
                    by_cases hk : k < j
                    · exact HO.out k h1 hk
                    · have : k = j := by omega
                      subst this
                      rw [HF.out, HG.out]
                      exact ⟨by decide, fun hh => hg47 hh.2⟩
                  case measure =>
                    rw [HM3.out, HMj.out]
                    omega
              · have e42 : (f == 42) = false := by simp [hf42]
                go_wp2_with fail
                refine (peek_any p ao cap zs j 0 _ _ pv cs _ hz HS7.out.2.1 (by omega) HS7.out.2.2.1).mono ?_
                rintro e w8 ⟨rfl, m8, rfl⟩
                rw [Nat.add_zero, HF.out]
                have HS8 : Hid (Sk w (w7.drewN m8) p ao cap zs off j (line, col) pv cs) := HS7.out.drewN m8
                have A8 : Hid ((w7.drewN m8).cell? ⟨q, 0, none⟩ = some (.int .i64 ql) ∧ (w7.drewN m8).cell? ⟨q, 1, none⟩ = some (.int .i64 qc)) := A7.out
                clear HS7 A7
                generalize hw8 : w7.drewN m8 = w8 at HS8 A8
                clear hw8 m8
                by_cases hf1 : f = -1
                · subst hf1
                  have HRU : Hid (Run zs off j (some cu)) := HR.out _ _ (.unclosed _ _ HC.out HD.out hj HO.out HF.out)
                  have hpn := HPV.out _ _ HRU.out
                  subst hpn
                  have a8 := A8.out
                  obtain ⟨a80, a81⟩ := a8
                  have hF8 : F.answers w8.tape := by rw [HS8.out.2.2.2.tape]; exact hF
                  go_wp2_with fail
                  refine (errorf_any F p ao cap zs j _ _ ql qc cs _ hF8 HS8.out.2.2.1).mono ?_
                  rintro e w9 ⟨rfl, ⟨pv', hl9, hP9⟩, hB9⟩
                  have HS9 : Hid (Sk w w9 p ao cap zs off j (line, col) pv' cs) := ⟨HS8.out.1, HS8.out.2.1, hl9, HS8.out.2.2.2.trans hB9⟩
                  have HP : Hid (OneProb (w9.setCell ⟨p, 6, none⟩ (.bool true)) p pv' (plT zs off cu (line, col)).1 (plT zs off cu (line, col)).2) := by
                    obtain ⟨g, cp, hg, hv, g0, g1⟩ := hP9
                    rw [HQL.out, HQC.out]
                    exact ⟨g, cp, hg, hv, (World.cell?_setCell_far _ _ _ _ (by show p ≠ g; omega)).trans g0, (World.cell?_setCell_far _ _ _ _ (by show p ≠ g; omega)).trans g1⟩
                  have c6 := hl9.2.2.2.2.2.1
                  have cf := hl9.2.2.2.2.2.2.1 6
                  have hle : off ≤ cu := HS4c.out
                  clear hl9 hP9 hB9 HS8 A8 a80 a81
                  go_wp2
                  go_ret
                  exact ⟨j, .inr ⟨cu, pv', HRU.out, hle, rfl, HS9.out.set true, HP.out⟩⟩
                · have e1 : (f == -1) = false := by simp [hf1]
                  have hltj : j < zs.length := lt_of_ch (by rw [HF.out]; exact hf1)
                  go_wp2_with fail
                  refine (advance_any p ao cap zs j _ _ pv cs _ hz hltj HS8.out.2.2.1).mono ?_
                  rintro e w10 ⟨rfl, hl10, hO10⟩
                  have HN : Hid (Sk w w10 p ao cap zs off (j + 1) (line, col) pv cs) := HS8.out.adv hltj hl10 hO10
                  have HM3 : Hid (offAt p w10 = j + 1) := offAt_of hl10
                  have AN : Hid (w10.cell? ⟨q, 0, none⟩ = some (.int .i64 ql) ∧ w10.cell? ⟨q, 1, none⟩ = some (.int .i64 qc)) := ⟨(hO10.2.2 ⟨q, 0, none⟩ hne4).trans A8.out.1, (hO10.2.2 ⟨q, 1, none⟩ hne4).trans A8.out.2⟩
                  clear hl10 hO10 HS8 A8
                  go_wp2_with fail
                  go_roundw
                  case rel =>
                    refine ⟨j + 1, by omega, fun k h1 h2 => ?_, HN.out, AN.out.1, AN.out.2⟩
                    by_cases hk : k < j
                    · exact HO.out k h1 hk
                    · have : k = j := by omega
                      subst this
                      rw [HF.out]
                      exact ⟨hf1, fun hh => hf42 hh.1⟩
                  case measure =>
                    rw [HM3.out, HMj.out]
                    omega
          · have e42 : (d == 42) = false := by simp [hd42]
            have HSt : Hid (Stop zs cu) := ⟨HBl.out, fun hh => by rcases hh.2 with h' | h' <;> rw [HD.out] at h' <;> contradiction⟩
            have c1 := HS3.out.2.2.1.2.1
            go_wp2
            go_ret
            exact ⟨cu, .inl ⟨HR.out _ _ (.stop _ HSt.out), rfl, HS3.out⟩⟩
      · have e47 : (c == 47) = false := by simp [h47]
        have HSt : Hid (Stop zs cu) := ⟨HBl.out, fun hh => h47 (HC.out.symm.trans hh.1)⟩
        have c1 := HS1.out.2.2.1.2.1
        go_wp2
        go_ret
        exact ⟨cu, .inl ⟨HR.out _ _ (.stop _ HSt.out), rfl, HS1.out⟩⟩

end Go.Proofs.Qxb6605758aFmt
