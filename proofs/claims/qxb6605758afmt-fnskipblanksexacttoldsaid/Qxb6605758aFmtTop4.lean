import Derived.Test.Qxb6605758aFmtSm
namespace Go.Proofs.Qxb6605758aFmt
open Go.RowKit Go.Stop

theorem Run.stops {zs : List Int} {i e : Nat} {u : Option Nat} (r : Run zs i e u) : Stop zs e ∧ ∀ k, u = some k → i ≤ k ∧ k + 2 ≤ e ∧ ch zs e = -1 := by
  refine Run.ind (P := fun i e u => Stop zs e ∧ ∀ k, u = some k → i ≤ k ∧ k + 2 ≤ e ∧ ch zs e = -1) ?_ ?_ ?_ ?_ ?_ r
  · exact fun i h => ⟨h, fun k hk => by cases hk⟩
  · exact fun i e u h ih => ⟨ih.1, fun k hk => by obtain ⟨h1, h2, h3⟩ := ih.2 k hk; exact ⟨by omega, h2, h3⟩⟩
  · exact fun i n e u h h' hl ih => ⟨ih.1, fun k hk => by obtain ⟨h1, h2, h3⟩ := ih.2 k hk; exact ⟨by omega, h2, h3⟩⟩
  · exact fun i j e u h h' hj ho hc hc' ih => ⟨ih.1, fun k hk => by obtain ⟨h1, h2, h3⟩ := ih.2 k hk; exact ⟨by omega, h2, h3⟩⟩
  · intro i j h h' hj ho hc
    refine ⟨⟨?_, ?_⟩, fun k hk => ?_⟩
    · rw [hc]; unfold Bl; omega
    · rw [hc]; omega
    · cases hk; exact ⟨Nat.le_refl _, hj, hc⟩

theorem Runes.lt {w : World} {ao : Option Addr} {zs : List Int} (h : Runes w ao zs) : ∀ a, ao = some a → a.block < w.heap.size ∨ zs = [] := by
  intro a ha
  rcases Nat.eq_zero_or_pos zs.length with h0 | h0
  · exact .inr (List.eq_nil_of_length_eq_zero h0)
  · obtain ⟨b, off, z, ha', _, hc⟩ := h.at h0
    rw [ha] at ha'; cases ha'
    exact .inl (World.block_lt_of_cell? _ _ hc)

/-- What the law wants of the first call. -/
def First (w w' : World) (p : Nat) (ao : Option Addr) (cap : Nat) (zs : List Int) (off j : Nat) (lc : Int × Int) (pb : Option Addr) (np pk : Nat) (cs : Bool) : Prop :=
  Sk w w' p ao cap zs off j lc (.slice pb np pk) cs ∧ Stop zs j ∧ ((np = 0 ∧ cs = false) ∨ (np = 1 ∧ cs = true ∧ ch zs j = -1))

theorem first_of {w w' : World} {p : Nat} {ao : Option Addr} {cap : Nat} {zs : List Int} {off : Nat} {lc : Int × Int} {e : Ending} (h : SkipPost w w' p ao cap zs off lc (.slice none 0 0) false e) :
    ∃ j pb np pk cs, e = .returned (.bool (decide (off < j))) ∧ First w w' p ao cap zs off j lc pb np pk cs := by
  obtain ⟨j, ⟨hr, rfl, hs⟩ | ⟨i, pv', hr, hi, rfl, hs, g, cp, hg, rfl, _, _⟩⟩ := h
  · exact ⟨j, none, 0, 0, false, rfl, hs, hr.stops.1, .inl ⟨rfl, rfl⟩⟩
  · obtain ⟨h1, h2, h3⟩ := hr.stops.2 i rfl
    exact ⟨j, _, 1, cp, true, by rw [show decide (off < j) = true by simp; omega], hs, hr.stops.1, .inr ⟨rfl, rfl, h3⟩⟩

theorem again_any (F : Interp) (p : Nat) (ao : Option Addr) (cap : Nat) (zs : List Int) (off : Nat) (line col : Int) (pv : Value) (cs : Bool) (w : World) (hF : F.answers w.tape) (hz : zs.length ≤ 1048576) (ho : off ≤ zs.length)
    (hs : Stop zs off) (h : Lx w p ao cap zs off line col pv cs) :
    Calls Tryf.prog 11 #[.pointer (some ⟨p, 0, none⟩)] w fun e w' => e = .returned (.bool false) ∧ Lx w' p ao cap zs off line col pv cs ∧ Below p w w' := by
  refine (zzskip_any F p ao cap zs off line col pv cs w hF hz ho (fun e i r => by cases (r.of_stop hs).2) h).mono ?_
  rintro e w1 ⟨j, ⟨hr, rfl, hk⟩ | ⟨i, pv', hr, hi, rfl, hk, hP⟩⟩
  · obtain ⟨rfl, _⟩ := hr.of_stop hs
    have h3 := hk.2.2.1
    rw [plT_self] at h3
    exact ⟨by simp, h3, hk.2.2.2⟩
  · cases (hr.of_stop hs).2

set_option maxRecDepth 20000 in
set_option maxHeartbeats 4000000 in
theorem top4 (F : Interp) (ao : Option Addr) (zs : List Int) (cap : Nat) (o line col : Int) (w : World) (hF : F.answers w.tape) (hx : Runes w ao zs) :
    Calls Tryf.prog 4 #[.slice ao zs.length cap, .int .i64 o, .int .i64 line, .int .i64 col] w fun e w' => e = .returned (.bool true) ∧ Below w.heap.size w w' := by
  have HX : Hid (Runes w ao zs) := hx
  clear hx
  go_enter Tryf.func4, Tryf.ntmps4
  go_wp2_with fail
  refine (bytes18 ao zs.length cap _ _ _ w).mono ?_
  rintro e w0 ⟨rfl, hw⟩
  subst w0
  by_cases hbig : zs.length ≤ 1048576
  · have hd : decide (zs.length ≤ 1048576) = true := by simp [hbig]
    rw [hd]
    by_cases hlim : 262144 < zs.length
    · go_wp2_with fail
      go_ret
      exact ⟨rfl, Below.refl _ _⟩
    by_cases hneg : o < 0
    · go_wp2_with fail
      go_ret
      exact ⟨rfl, Below.refl _ _⟩
    by_cases hup : (zs.length : Int) < o
    · go_wp2_with fail
      go_ret
      exact ⟨rfl, Below.refl _ _⟩
    obtain ⟨off, rfl⟩ := Int.eq_ofNat_of_zero_le (show 0 ≤ o by omega)
    have ho : off ≤ zs.length := by omega
    clear hneg hup
    have hup : ¬ (zs.length < off) := by omega
    go_wp2_with fail
    refine (clone_any ao zs cap w hbig HX.out HX.out.lt).mono ?_
    rintro e w1 ⟨ao', cap', rfl, hR1, hb1, ha1⟩
    have HR1 : Hid (Runes w1 ao' zs) := hR1
    have HB1 : Hid (Below w.heap.size w w1) := hb1
    have HA1 : Hid (∀ a, ao' = some a → a.block < w1.heap.size) := ha1
    clear hR1 hb1 ha1
    go_wp2_with fail
    refine (newLexer_any ao' zs cap' off line col w1 HR1.out HA1.out).mono ?_
    rintro e w2 ⟨rfl, hL2, hb2⟩
    have HB2 : Hid (Below w.heap.size w w2) := HB1.out.trans (hb2.mono HB1.out.size)
    have HL2 : Hid (Lx w2 w1.heap.size ao' cap' zs off line col (.slice none 0 0) false) := hL2
    have HP : Hid (w.heap.size ≤ w1.heap.size) := HB1.out.size
    clear hb2 hL2 HB1 HA1 HR1 HX
    generalize w1.heap.size = p at HL2 HP
    have hF2 : F.answers w2.tape := by rw [HB2.out.tape]; exact hF
    go_wp2_with fail
    refine (zzskip_any F p ao' cap' zs off line col _ false w2 hF2 hbig ho (fun _ _ _ => rfl) HL2.out).mono ?_
    intro e w3 hpost
    obtain ⟨j, pb, np, pk, cs, rfl, hS3, hst, hnp⟩ := first_of hpost
    clear hpost
    have hoj : off ≤ j := hS3.1
    have hjl : j ≤ zs.length := hS3.2.1
    have HL3 : Hid (Lx w3 p ao' cap' zs j (plT zs off j (line, col)).1 (plT zs off j (line, col)).2 (.slice pb np pk) cs) := hS3.2.2.1
    have HB3 : Hid (Below w.heap.size w w3) := HB2.out.trans (hS3.2.2.2.mono HP.out)
    have HST : Hid (Stop zs j) := hst
    have hF3 : F.answers w3.tape := by rw [HB3.out.tape]; exact hF
    clear hS3 HL2 HB2 hF2 hst
    generalize (plT zs off j (line, col)).1 = jl at HL3
    generalize (plT zs off j (line, col)).2 = jc at HL3
    have hj1 : ¬ (j < off) := by omega
    have hj2 : ¬ (zs.length < j) := by omega
    go_wp2_with fail
    refine (off_any p ao' cap' zs j jl jc _ cs w3 HL3.out).mono ?_
    rintro e w4 ⟨rfl, hw⟩
    subst w4
    by_cases hend : j = zs.length
    · have hl1 : ¬ (j < zs.length) := by omega
      rcases hnp with ⟨rfl, rfl⟩ | ⟨rfl, rfl, hch⟩
      · go_wp2_with fail
        refine (line_any p _ cap' zs j jl jc _ _ w3 HL3.out).mono ?_
        rintro e w4 ⟨rfl, hw⟩
        subst w4
        go_wp2_with fail
        refine (col_any p _ cap' zs j jl jc _ _ w3 HL3.out).mono ?_
        rintro e w4 ⟨rfl, hw⟩
        subst w4
        go_wp2_with fail
        refine (count_any p _ cap' zs j jl jc _ w3 _ _ _ HL3.out).mono ?_
        rintro e w4 ⟨rfl, hw⟩
        subst w4
        go_wp2_with fail
        refine (cut_any p _ cap' zs j jl jc _ _ w3 HL3.out).mono ?_
        rintro e w4 ⟨rfl, hw⟩
        subst w4
        go_wp2_with fail
        refine (again_any F p _ cap' zs j jl jc _ _ w3 hF3 hbig hjl HST.out HL3.out).mono ?_
        rintro e w5 ⟨rfl, hL5, hb5⟩
        have HL5 : Hid (Lx w5 p _ cap' zs j jl jc _ _) := hL5
        have HB5 : Hid (Below w.heap.size w w5) := HB3.out.trans (hb5.mono HP.out)
        clear hL5 hb5
        go_wp2_with fail
        refine (off_any p _ cap' zs j jl jc _ _ w5 HL5.out).mono ?_
        rintro e w4 ⟨rfl, hw⟩
        subst w4
        go_wp2_with fail
        refine (line_any p _ cap' zs j jl jc _ _ w5 HL5.out).mono ?_
        rintro e w4 ⟨rfl, hw⟩
        subst w4
        go_wp2_with fail
        refine (col_any p _ cap' zs j jl jc _ _ w5 HL5.out).mono ?_
        rintro e w4 ⟨rfl, hw⟩
        subst w4
        go_wp2_with fail
        refine (count_any p _ cap' zs j jl jc _ w5 _ _ _ HL5.out).mono ?_
        rintro e w4 ⟨rfl, hw⟩
        subst w4
        go_wp2_with fail
        refine (cut_any p _ cap' zs j jl jc _ _ w5 HL5.out).mono ?_
        rintro e w4 ⟨rfl, hw⟩
        subst w4
        go_wp2
        go_ret
        exact ⟨rfl, HB5.out⟩
      · go_wp2_with fail
        refine (line_any p _ cap' zs j jl jc _ _ w3 HL3.out).mono ?_
        rintro e w4 ⟨rfl, hw⟩
        subst w4
        go_wp2_with fail
        refine (col_any p _ cap' zs j jl jc _ _ w3 HL3.out).mono ?_
        rintro e w4 ⟨rfl, hw⟩
        subst w4
        go_wp2_with fail
        refine (count_any p _ cap' zs j jl jc _ w3 _ _ _ HL3.out).mono ?_
        rintro e w4 ⟨rfl, hw⟩
        subst w4
        go_wp2_with fail
        refine (cut_any p _ cap' zs j jl jc _ _ w3 HL3.out).mono ?_
        rintro e w4 ⟨rfl, hw⟩
        subst w4
        go_wp2_with fail
        refine (again_any F p _ cap' zs j jl jc _ _ w3 hF3 hbig hjl HST.out HL3.out).mono ?_
        rintro e w5 ⟨rfl, hL5, hb5⟩
        have HL5 : Hid (Lx w5 p _ cap' zs j jl jc _ _) := hL5
        have HB5 : Hid (Below w.heap.size w w5) := HB3.out.trans (hb5.mono HP.out)
        clear hL5 hb5
        go_wp2_with fail
        refine (off_any p _ cap' zs j jl jc _ _ w5 HL5.out).mono ?_
        rintro e w4 ⟨rfl, hw⟩
        subst w4
        go_wp2_with fail
        refine (line_any p _ cap' zs j jl jc _ _ w5 HL5.out).mono ?_
        rintro e w4 ⟨rfl, hw⟩
        subst w4
        go_wp2_with fail
        refine (col_any p _ cap' zs j jl jc _ _ w5 HL5.out).mono ?_
        rintro e w4 ⟨rfl, hw⟩
        subst w4
        go_wp2_with fail
        refine (count_any p _ cap' zs j jl jc _ w5 _ _ _ HL5.out).mono ?_
        rintro e w4 ⟨rfl, hw⟩
        subst w4
        go_wp2_with fail
        refine (cut_any p _ cap' zs j jl jc _ _ w5 HL5.out).mono ?_
        rintro e w4 ⟨rfl, hw⟩
        subst w4
        go_wp2
        go_ret
        exact ⟨rfl, HB5.out⟩
    · have hlt : j < zs.length := by omega
      obtain ⟨b, bo, z, ha, hz, hc⟩ := HL3.out.2.2.2.2.2.2.2.1.at hlt
      have HZ : Hid (ch zs j = z) := ch_of hz
      clear hz
      subst ha
      by_cases hz1 : z = -1
      · subst hz1
        rcases hnp with ⟨rfl, rfl⟩ | ⟨rfl, rfl, hch⟩
        · go_wp2_with fail
          refine (line_any p _ cap' zs j jl jc _ _ w3 HL3.out).mono ?_
          rintro e w4 ⟨rfl, hw⟩
          subst w4
          go_wp2_with fail
          refine (col_any p _ cap' zs j jl jc _ _ w3 HL3.out).mono ?_
          rintro e w4 ⟨rfl, hw⟩
          subst w4
          go_wp2_with fail
          refine (count_any p _ cap' zs j jl jc _ w3 _ _ _ HL3.out).mono ?_
          rintro e w4 ⟨rfl, hw⟩
          subst w4
          go_wp2_with fail
          refine (cut_any p _ cap' zs j jl jc _ _ w3 HL3.out).mono ?_
          rintro e w4 ⟨rfl, hw⟩
          subst w4
          go_wp2_with fail
          refine (again_any F p _ cap' zs j jl jc _ _ w3 hF3 hbig hjl HST.out HL3.out).mono ?_
          rintro e w5 ⟨rfl, hL5, hb5⟩
          have HL5 : Hid (Lx w5 p _ cap' zs j jl jc _ _) := hL5
          have HB5 : Hid (Below w.heap.size w w5) := HB3.out.trans (hb5.mono HP.out)
          clear hL5 hb5
          go_wp2_with fail
          refine (off_any p _ cap' zs j jl jc _ _ w5 HL5.out).mono ?_
          rintro e w4 ⟨rfl, hw⟩
          subst w4
          go_wp2_with fail
          refine (line_any p _ cap' zs j jl jc _ _ w5 HL5.out).mono ?_
          rintro e w4 ⟨rfl, hw⟩
          subst w4
          go_wp2_with fail
          refine (col_any p _ cap' zs j jl jc _ _ w5 HL5.out).mono ?_
          rintro e w4 ⟨rfl, hw⟩
          subst w4
          go_wp2_with fail
          refine (count_any p _ cap' zs j jl jc _ w5 _ _ _ HL5.out).mono ?_
          rintro e w4 ⟨rfl, hw⟩
          subst w4
          go_wp2_with fail
          refine (cut_any p _ cap' zs j jl jc _ _ w5 HL5.out).mono ?_
          rintro e w4 ⟨rfl, hw⟩
          subst w4
          go_wp2
          go_ret
          exact ⟨rfl, HB5.out⟩
        · go_wp2_with fail
          refine (line_any p _ cap' zs j jl jc _ _ w3 HL3.out).mono ?_
          rintro e w4 ⟨rfl, hw⟩
          subst w4
          go_wp2_with fail
          refine (col_any p _ cap' zs j jl jc _ _ w3 HL3.out).mono ?_
          rintro e w4 ⟨rfl, hw⟩
          subst w4
          go_wp2_with fail
          refine (count_any p _ cap' zs j jl jc _ w3 _ _ _ HL3.out).mono ?_
          rintro e w4 ⟨rfl, hw⟩
          subst w4
          go_wp2_with fail
          refine (cut_any p _ cap' zs j jl jc _ _ w3 HL3.out).mono ?_
          rintro e w4 ⟨rfl, hw⟩
          subst w4
          go_wp2_with fail
          refine (again_any F p _ cap' zs j jl jc _ _ w3 hF3 hbig hjl HST.out HL3.out).mono ?_
          rintro e w5 ⟨rfl, hL5, hb5⟩
          have HL5 : Hid (Lx w5 p _ cap' zs j jl jc _ _) := hL5
          have HB5 : Hid (Below w.heap.size w w5) := HB3.out.trans (hb5.mono HP.out)
          clear hL5 hb5
          go_wp2_with fail
          refine (off_any p _ cap' zs j jl jc _ _ w5 HL5.out).mono ?_
          rintro e w4 ⟨rfl, hw⟩
          subst w4
          go_wp2_with fail
          refine (line_any p _ cap' zs j jl jc _ _ w5 HL5.out).mono ?_
          rintro e w4 ⟨rfl, hw⟩
          subst w4
          go_wp2_with fail
          refine (col_any p _ cap' zs j jl jc _ _ w5 HL5.out).mono ?_
          rintro e w4 ⟨rfl, hw⟩
          subst w4
          go_wp2_with fail
          refine (count_any p _ cap' zs j jl jc _ w5 _ _ _ HL5.out).mono ?_
          rintro e w4 ⟨rfl, hw⟩
          subst w4
          go_wp2_with fail
          refine (cut_any p _ cap' zs j jl jc _ _ w5 HL5.out).mono ?_
          rintro e w4 ⟨rfl, hw⟩
          subst w4
          go_wp2
          go_ret
          exact ⟨rfl, HB5.out⟩
      · have ez : (z != -1) = true := by simp [hz1]
        have ez' : (z == -1) = false := by simp [hz1]
        rcases hnp with ⟨rfl, rfl⟩ | ⟨rfl, rfl, hch⟩
        · have hbl := HST.out.1
          rw [HZ.out] at hbl
          unfold Bl at hbl
          have e32 : (z == 32) = false := by simp; omega
          have e9 : (z == 9) = false := by simp; omega
          have e13 : (z == 13) = false := by simp; omega
          have e12 : (z == 12) = false := by simp; omega
          clear hbl
          by_cases h47 : z = 47
          · subst h47
            have i3 : IntKind.i64.wrap ((j : Int) + 1) = (j : Int) + 1 := by rw [IntKind.wrap_i64]; omega
            by_cases hlt1 : j + 1 < zs.length
            · obtain ⟨b', bo', d, ha', hd', hc'⟩ := HL3.out.2.2.2.2.2.2.2.1.at hlt1
              cases ha'
              have hdd := ch_of hd'
              have hn := HST.out.2
              rw [HZ.out, hdd] at hn
              have e47 : (d == 47) = false := by simp; omega
              have e42 : (d == 42) = false := by simp; omega
              clear hn hdd hd'
              have i0 : (0 : Int) ≤ (j : Int) + 1 := by omega
              have i1 : (j : Int) + 1 < (zs.length : Int) := by omega
              have i2 : ((j : Int) + 1).toNat = j + 1 := by omega
              go_wp2_with fail
              refine (line_any p _ cap' zs j jl jc _ _ w3 HL3.out).mono ?_
              rintro e w4 ⟨rfl, hw⟩
              subst w4
              go_wp2_with fail
              refine (col_any p _ cap' zs j jl jc _ _ w3 HL3.out).mono ?_
              rintro e w4 ⟨rfl, hw⟩
              subst w4
              go_wp2_with fail
              refine (count_any p _ cap' zs j jl jc _ w3 _ _ _ HL3.out).mono ?_
              rintro e w4 ⟨rfl, hw⟩
              subst w4
              go_wp2_with fail
              refine (cut_any p _ cap' zs j jl jc _ _ w3 HL3.out).mono ?_
              rintro e w4 ⟨rfl, hw⟩
              subst w4
              go_wp2_with fail
              refine (again_any F p _ cap' zs j jl jc _ _ w3 hF3 hbig hjl HST.out HL3.out).mono ?_
              rintro e w5 ⟨rfl, hL5, hb5⟩
              have HL5 : Hid (Lx w5 p _ cap' zs j jl jc _ _) := hL5
              have HB5 : Hid (Below w.heap.size w w5) := HB3.out.trans (hb5.mono HP.out)
              clear hL5 hb5
              go_wp2_with fail
              refine (off_any p _ cap' zs j jl jc _ _ w5 HL5.out).mono ?_
              rintro e w4 ⟨rfl, hw⟩
              subst w4
              go_wp2_with fail
              refine (line_any p _ cap' zs j jl jc _ _ w5 HL5.out).mono ?_
              rintro e w4 ⟨rfl, hw⟩
              subst w4
              go_wp2_with fail
              refine (col_any p _ cap' zs j jl jc _ _ w5 HL5.out).mono ?_
              rintro e w4 ⟨rfl, hw⟩
              subst w4
              go_wp2_with fail
              refine (count_any p _ cap' zs j jl jc _ w5 _ _ _ HL5.out).mono ?_
              rintro e w4 ⟨rfl, hw⟩
              subst w4
              go_wp2_with fail
              refine (cut_any p _ cap' zs j jl jc _ _ w5 HL5.out).mono ?_
              rintro e w4 ⟨rfl, hw⟩
              subst w4
              go_wp2
              go_ret
              exact ⟨rfl, HB5.out⟩
            · have hlt1' : ¬ ((j : Int) + 1 < (zs.length : Int)) := by omega
              go_wp2_with fail
              refine (line_any p _ cap' zs j jl jc _ _ w3 HL3.out).mono ?_
              rintro e w4 ⟨rfl, hw⟩
              subst w4
              go_wp2_with fail
              refine (col_any p _ cap' zs j jl jc _ _ w3 HL3.out).mono ?_
              rintro e w4 ⟨rfl, hw⟩
              subst w4
              go_wp2_with fail
              refine (count_any p _ cap' zs j jl jc _ w3 _ _ _ HL3.out).mono ?_
              rintro e w4 ⟨rfl, hw⟩
              subst w4
              go_wp2_with fail
              refine (cut_any p _ cap' zs j jl jc _ _ w3 HL3.out).mono ?_
              rintro e w4 ⟨rfl, hw⟩
              subst w4
              go_wp2_with fail
              refine (again_any F p _ cap' zs j jl jc _ _ w3 hF3 hbig hjl HST.out HL3.out).mono ?_
              rintro e w5 ⟨rfl, hL5, hb5⟩
              have HL5 : Hid (Lx w5 p _ cap' zs j jl jc _ _) := hL5
              have HB5 : Hid (Below w.heap.size w w5) := HB3.out.trans (hb5.mono HP.out)
              clear hL5 hb5
              go_wp2_with fail
              refine (off_any p _ cap' zs j jl jc _ _ w5 HL5.out).mono ?_
              rintro e w4 ⟨rfl, hw⟩
              subst w4
              go_wp2_with fail
              refine (line_any p _ cap' zs j jl jc _ _ w5 HL5.out).mono ?_
              rintro e w4 ⟨rfl, hw⟩
              subst w4
              go_wp2_with fail
              refine (col_any p _ cap' zs j jl jc _ _ w5 HL5.out).mono ?_
              rintro e w4 ⟨rfl, hw⟩
              subst w4
              go_wp2_with fail
              refine (count_any p _ cap' zs j jl jc _ w5 _ _ _ HL5.out).mono ?_
              rintro e w4 ⟨rfl, hw⟩
              subst w4
              go_wp2_with fail
              refine (cut_any p _ cap' zs j jl jc _ _ w5 HL5.out).mono ?_
              rintro e w4 ⟨rfl, hw⟩
              subst w4
              go_wp2
              go_ret
              exact ⟨rfl, HB5.out⟩
          · have e47 : (z == 47) = false := by simp [h47]
            go_wp2_with fail
            refine (line_any p _ cap' zs j jl jc _ _ w3 HL3.out).mono ?_
            rintro e w4 ⟨rfl, hw⟩
            subst w4
            go_wp2_with fail
            refine (col_any p _ cap' zs j jl jc _ _ w3 HL3.out).mono ?_
            rintro e w4 ⟨rfl, hw⟩
            subst w4
            go_wp2_with fail
            refine (count_any p _ cap' zs j jl jc _ w3 _ _ _ HL3.out).mono ?_
            rintro e w4 ⟨rfl, hw⟩
            subst w4
            go_wp2_with fail
            refine (cut_any p _ cap' zs j jl jc _ _ w3 HL3.out).mono ?_
            rintro e w4 ⟨rfl, hw⟩
            subst w4
            go_wp2_with fail
            refine (again_any F p _ cap' zs j jl jc _ _ w3 hF3 hbig hjl HST.out HL3.out).mono ?_
            rintro e w5 ⟨rfl, hL5, hb5⟩
            have HL5 : Hid (Lx w5 p _ cap' zs j jl jc _ _) := hL5
            have HB5 : Hid (Below w.heap.size w w5) := HB3.out.trans (hb5.mono HP.out)
            clear hL5 hb5
            go_wp2_with fail
            refine (off_any p _ cap' zs j jl jc _ _ w5 HL5.out).mono ?_
            rintro e w4 ⟨rfl, hw⟩
            subst w4
            go_wp2_with fail
            refine (line_any p _ cap' zs j jl jc _ _ w5 HL5.out).mono ?_
            rintro e w4 ⟨rfl, hw⟩
            subst w4
            go_wp2_with fail
            refine (col_any p _ cap' zs j jl jc _ _ w5 HL5.out).mono ?_
            rintro e w4 ⟨rfl, hw⟩
            subst w4
            go_wp2_with fail
            refine (count_any p _ cap' zs j jl jc _ w5 _ _ _ HL5.out).mono ?_
            rintro e w4 ⟨rfl, hw⟩
            subst w4
            go_wp2_with fail
            refine (cut_any p _ cap' zs j jl jc _ _ w5 HL5.out).mono ?_
            rintro e w4 ⟨rfl, hw⟩
            subst w4
            go_wp2
            go_ret
            exact ⟨rfl, HB5.out⟩
        · exact absurd (HZ.out.symm.trans hch) hz1
  · have hd : decide (zs.length ≤ 1048576) = false := by simp [hbig]
    rw [hd]
    go_wp2_with fail
    go_ret
    exact ⟨rfl, Below.refl _ _⟩

end Go.Proofs.Qxb6605758aFmt
