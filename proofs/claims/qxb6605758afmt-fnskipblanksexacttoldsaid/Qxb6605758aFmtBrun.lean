import Derived.Test.Qxb6605758aFmtSpec
namespace Go.Proofs.Qxb6605758aFmt
open Go.RowKit

/-- The second result of zzBlankRun. -/
def uv (u : Option Nat) : Int := match u with
  | some k => k
  | none => -1

theorem nl_lined {zs : List Int} {off i en r : Nat} (hE : IsEnd zs off en) (ho : off ≤ i) (h : ch zs i = 47) (h' : ch zs (i + 1) = 47) (hn : IsNl zs (i + 2) en r) : Lined zs i (r - i) := by
  obtain ⟨h1, h2, h3, h4⟩ := hn
  have e : i + (r - i) = r := by omega
  refine ⟨by rw [e]; have := hE.2.1; omega, fun k hk1 hk2 => ?_, ?_⟩
  · rw [e] at hk2
    refine ⟨?_, hE.2.2.1 k (by omega) (by omega)⟩
    by_cases hk : k < i + 2
    · have : k = i ∨ k = i + 1 := by omega
      rcases this with rfl | rfl
      · rw [h]; decide
      · rw [h']; decide
    · exact h3 k (by omega) hk2
  · rw [e]
    rcases h4 with rfl | h4
    · exact .inr hE.2.2.2
    · exact .inl h4

theorem cl_open {zs : List Int} {off i en j : Nat} (hE : IsEnd zs off en) (ho : off ≤ i) (hj : j ≤ en) (h : ∀ k, i + 2 ≤ k → k < j → ¬ (ch zs k = 42 ∧ ch zs (k + 1) = 47)) : Open2 zs i j :=
  fun k hk1 hk2 => ⟨hE.2.2.1 k (by omega) (by omega), h k hk1 hk2⟩

theorem cl_none {zs : List Int} {off i en : Nat} (hE : IsEnd zs off en) (ho : off ≤ i) (h : ∀ k, i + 2 ≤ k → k + 1 < en → ¬ (ch zs k = 42 ∧ ch zs (k + 1) = 47)) : Open2 zs i en :=
  cl_open hE ho (Nat.le_refl _) fun k hk1 hk2 hh => by
    by_cases hk : k + 1 < en
    · exact h k hk1 hk hh
    · have e : k + 1 = en := by omega
      have := hh.2
      rw [e, hE.2.2.2] at this
      cases this

set_option maxRecDepth 20000 in
set_option maxHeartbeats 2000000 in
theorem blankRun_any (ao : Option Addr) (zs : List Int) (cap off en : Nat) (w : World) (hz : zs.length ≤ 1048576) (hE : IsEnd zs off en) (h : Runes w ao zs) :
    Calls Tryf.prog 8 #[.slice ao zs.length cap, .int .i64 off, .int .i64 en] w fun e w' => (∃ (i : Nat) (u : Option Nat), e = .returned (.tuple #[.int .i64 i, .int .i64 (uv u)]) ∧ Run zs off i u) ∧ w' = w := by
  have HE : Hid (IsEnd zs off en) := hE
  have hoe : off ≤ en := hE.1
  have hen : en ≤ zs.length := hE.2.1
  have HX : Hid (Runes w ao zs) := h
  clear hE h
  go_enter Tryf.func8, Tryf.ntmps8
  go_wp2_with fail
  go_loop [8] (fun v => ∃ i : Nat, off ≤ i ∧ i ≤ en ∧ v = .int .i64 i ∧ ∀ e u, Run zs i e u → Run zs off e u) (fun v => en - (intOf v).toNat)
  case atStart => exact ⟨off, Nat.le_refl _, hoe, rfl, fun _ _ r => r⟩
  case round =>
    obtain ⟨i, hi0, hi, rfl, hr⟩ := hrel
    have HR : Hid (∀ e u, Run zs i e u → Run zs off e u) := hr
    clear hr
    have i3 : IntKind.i64.wrap ((i : Int) + 1) = (i : Int) + 1 := by rw [IntKind.wrap_i64]; omega
    have i5 : IntKind.i64.wrap ((i : Int) + 2) = (i : Int) + 2 := by rw [IntKind.wrap_i64]; omega
    by_cases hlt : i < en
    · have hlt' : i < zs.length := by omega
      obtain ⟨b, o, c, ha, hc', hc⟩ := HX.out.at hlt'
      have HC : Hid (ch zs i = c) := ch_of hc'
      clear hc'
      by_cases hbl : Bl c
      · have HB : Hid (Bl (ch zs i)) := by rw [HC.out]; exact hbl
        subst ha
        rcases hbl with rfl | rfl | rfl | rfl
        all_goals
          go_wp2_with fail
          go_round
          case rel => exact ⟨i + 1, by omega, by omega, by go_num, fun e u r => HR.out e u (.blank _ _ _ HB.out r)⟩
          case measure => simp [intOf]; omega
      · have HBl : Hid (¬ Bl (ch zs i)) := by rw [HC.out]; exact hbl
        unfold Bl at hbl
        have e32 : (c == 32) = false := by simp; omega
        have e9 : (c == 9) = false := by simp; omega
        have e13 : (c == 13) = false := by simp; omega
        have e12 : (c == 12) = false := by simp; omega
        clear hbl
        by_cases h47 : c = 47
        · subst h47
          by_cases hlt1 : i + 1 < en
          · have hlt1' : i + 1 < zs.length := by omega
            obtain ⟨b', o', d, ha', hd', hcd⟩ := HX.out.at hlt1'
            rw [ha] at ha'
            cases ha'
            have HD : Hid (ch zs (i + 1) = d) := ch_of hd'
            clear hd'
            have i0 : (0 : Int) ≤ (i : Int) + 1 := by omega
            have i1 : (i : Int) + 1 < (zs.length : Int) := by omega
            have i2 : ((i : Int) + 1).toNat = i + 1 := by omega
            have i4 : ¬ ((en : Int) ≤ (i : Int) + 1) := by omega
            by_cases hd47 : d = 47
            · subst hd47
              subst ha
              go_wp2_with fail
              refine (firstNl_any _ zs cap (i + 2) en w hz (by omega) hen HX.out).mono ?_
              rintro e w' ⟨⟨r, rfl, hn⟩, hw⟩
              subst w'
              have hr1 := hn.1
              have hr2 := hn.2.1
              have HL : Hid (Lined zs i (r - i)) := nl_lined HE.out hi0 HC.out HD.out hn
              clear hn
              go_wp2_with fail
              go_round
              case rel =>
                refine ⟨r, by omega, hr2, rfl, fun e u rr => HR.out e u (.line _ (r - i) _ _ HC.out HD.out HL.out ?_)⟩
                rw [show i + (r - i) = r by omega]
                exact rr
              case measure => simp [intOf]; omega
            · have e47 : (d == 47) = false := by simp [hd47]
              by_cases hd42 : d = 42
              · subst hd42
                subst ha
                go_wp2_with fail
                refine (firstCl_any _ zs cap (i + 2) en w hz (by omega) hen HX.out).mono ?_
                rintro e w' ⟨⟨v, rfl, hv⟩, hw⟩
                subst w'
                rcases hv with ⟨j, rfl, hj1, hj2, hj3, hj4, hj5⟩ | ⟨rfl, hv⟩
                · have HO : Hid (Open2 zs i j) := cl_open HE.out hi0 (by omega) hj5
                  have i6 : IntKind.i64.wrap ((j : Int) + 2) = (j : Int) + 2 := by rw [IntKind.wrap_i64]; omega
                  have HJ : Hid (ch zs j = 42 ∧ ch zs (j + 1) = 47) := ⟨hj3, hj4⟩
                  clear hj3 hj4 hj5
                  have i7 : ¬ ((j : Int) < 0) := by omega
                  go_wp2_with fail
                  go_round
                  case rel => exact ⟨j + 2, by omega, by omega, by go_num, fun e u rr => HR.out e u (.closed _ j _ _ HC.out HD.out hj1 HO.out HJ.out.1 HJ.out.2 rr)⟩
                  case measure => simp [intOf]; omega
                · have HO : Hid (Open2 zs i en) := cl_none HE.out hi0 hv
                  clear hv
                  go_wp2
                  go_ret2
                  exact ⟨⟨en, some i, rfl, HR.out _ _ (.unclosed _ _ HC.out HD.out (by omega) HO.out HE.out.2.2.2)⟩, rfl⟩
              · have e42 : (d != 42) = true := by simp [hd42]
                have HSt : Hid (Stop zs i) := ⟨HBl.out, fun hh => by rcases hh.2 with h' | h' <;> rw [HD.out] at h' <;> contradiction⟩
                subst ha
                go_wp2
                go_ret2
                exact ⟨⟨i, none, rfl, HR.out _ _ (.stop _ HSt.out)⟩, rfl⟩
          · have e1 : i + 1 = en := by omega
            have HSt : Hid (Stop zs i) := ⟨HBl.out, fun hh => by
              rw [e1, HE.out.2.2.2] at hh
              rcases hh.2 with h' | h' <;> cases h'⟩
            have i4 : (en : Int) ≤ (i : Int) + 1 := by omega
            subst ha
            go_wp2
            go_ret2
            exact ⟨⟨i, none, rfl, HR.out _ _ (.stop _ HSt.out)⟩, rfl⟩
        · have e47 : (c != 47) = true := by simp [h47]
          have HSt : Hid (Stop zs i) := ⟨HBl.out, fun hh => h47 (HC.out.symm.trans hh.1)⟩
          subst ha
          go_wp2
          go_ret2
          exact ⟨⟨i, none, rfl, HR.out _ _ (.stop _ HSt.out)⟩, rfl⟩
    · have e : i = en := by omega
      subst e
      have HSt : Hid (Stop zs i) := ⟨by rw [HE.out.2.2.2]; unfold Bl; omega, by rw [HE.out.2.2.2]; omega⟩
      go_wp2
      go_ret2
      exact ⟨⟨i, none, rfl, HR.out _ _ (.stop _ HSt.out)⟩, rfl⟩

end Go.Proofs.Qxb6605758aFmt
