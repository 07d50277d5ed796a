import Derived.Test.Qxb6605758aFmtBrun
import Derived.Test.Qxb6605758aFmtPlace
import Derived.Test.Qxb6605758aFmtTop4
namespace Go.Proofs.Qxb6605758aFmt
open Go.RowKit Go.Stop

theorem Run.le {zs : List Int} {i e : Nat} {u : Option Nat} (r : Run zs i e u) : i ≤ e := by
  refine Run.ind (P := fun i e _ => i ≤ e) ?_ ?_ ?_ ?_ ?_ r
  · exact fun i _ => Nat.le_refl i
  · intro i e u _ h; omega
  · intro i m e u _ _ _ h; omega
  · intro i j e u _ _ hj _ _ _ h; omega
  · intro i e _ _ h _ _; omega

theorem open_len {zs : List Int} {i j : Nat} (h : ch zs (i + 1) = 42) (hj : i + 2 ≤ j) (ho : Open2 zs i j) : j ≤ zs.length := by
  rcases Nat.eq_or_lt_of_le hj with h1 | h1
  · have := lt_of_ch (zs := zs) (k := i + 1) (by rw [h]; decide)
    omega
  · have := lt_of_ch (zs := zs) (k := j - 1) (ho (j - 1) (by omega) (by omega)).1
    omega

theorem Run.le_length {zs : List Int} {i e : Nat} {u : Option Nat} (r : Run zs i e u) (hi : i ≤ zs.length) : e ≤ zs.length := by
  refine Run.ind (P := fun i e _ => i ≤ zs.length → e ≤ zs.length) ?_ ?_ ?_ ?_ ?_ r hi
  · exact fun i _ h => h
  · intro i e u hb ih _
    exact ih (lt_of_ch (by unfold Bl at hb; omega))
  · intro i m e u _ _ hl ih _
    exact ih hl.1
  · intro i j e u _ _ hj ho hc hc' ih _
    exact ih (lt_of_ch (k := j + 1) (by rw [hc']; decide))
  · intro i e _ h' hj ho _ _
    exact open_len h' hj ho

set_option maxRecDepth 20000 in
set_option maxHeartbeats 4000000 in
theorem top3 (F : Interp) (ao : Option Addr) (zs : List Int) (cap : Nat) (o line col : Int) (w : World) (hF : F.answers w.tape) (hx : Runes w ao zs) (hcol : -9223372036854775808 ≤ col ∧ col ≤ 9223372036854775807) :
    Calls Tryf.prog 3 #[.slice ao zs.length cap, .int .i64 o, .int .i64 line, .int .i64 col] w fun e w' => e = .returned (.bool true) ∧ Below w.heap.size w w' := by
  have HX : Hid (Runes w ao zs) := hx
  have HCOL : Hid (-9223372036854775808 ≤ col ∧ col ≤ 9223372036854775807) := hcol
  clear hx hcol
  go_enter Tryf.func3, Tryf.ntmps3
  go_wp2_with fail
  refine (bytes5 ao zs.length cap _ _ _ w).mono ?_
  rintro e w0 ⟨rfl, hw⟩
  subst w0
  by_cases hbig : zs.length ≤ 1048576
  · have hd : decide (zs.length ≤ 1048576) = true := by simp [hbig]
    rw [hd]
    by_cases hlim : 262144 < zs.length
    · go_wp2_with fail
      go_ret
      exact ⟨rfl, Below.refl _ _⟩
    by_cases hneg : o < 0
    · go_wp2_with fail
      go_ret
      exact ⟨rfl, Below.refl _ _⟩
    by_cases hup : (zs.length : Int) < o
    · go_wp2_with fail
      go_ret
      exact ⟨rfl, Below.refl _ _⟩
    obtain ⟨off, rfl⟩ := Int.eq_ofNat_of_zero_le (show 0 ≤ o by omega)
    have ho : off ≤ zs.length := by omega
    clear hneg hup
    have hup : ¬ (zs.length < off) := by omega
    go_wp2_with fail
    refine (clone_any ao zs cap w hbig HX.out HX.out.lt).mono ?_
    rintro e w1 ⟨ao', cap', rfl, hR1, hb1, ha1⟩
    have HR1 : Hid (Runes w1 ao' zs) := hR1
    have HB1 : Hid (Below w.heap.size w w1) := hb1
    have HA1 : Hid (∀ a, ao' = some a → a.block < w1.heap.size) := ha1
    clear hR1 hb1 ha1
    go_wp2_with fail
    refine (textEnd_any ao' zs cap' off w1 hbig ho HR1.out).mono ?_
    rintro e w0 ⟨⟨en, rfl, hE⟩, hw⟩
    subst w0
    have HE : Hid (IsEnd zs off en) := hE
    clear hE
    go_wp2_with fail
    refine (blankRun_any ao' zs cap' off en w1 hbig HE.out HR1.out).mono ?_
    rintro e w0 ⟨⟨i, u, rfl, hrun⟩, hw⟩
    subst w0
    have HRUN : Hid (Run zs off i u) := hrun
    clear hrun
    have hoi : off ≤ i := HRUN.out.le
    have hil : i ≤ zs.length := HRUN.out.le_length ho
    go_wp2_with fail
    refine (place_any ao' zs cap' off i line col w1 hbig hoi hil HCOL.out HR1.out).mono ?_
    rintro e w0 ⟨rfl, hw⟩
    subst w0
    go_wp2_with fail
    refine (newLexer_any ao' zs cap' off line col w1 HR1.out HA1.out).mono ?_
    rintro e w2 ⟨rfl, hL2, hb2⟩
    have HB2 : Hid (Below w.heap.size w w2) := HB1.out.trans (hb2.mono HB1.out.size)
    have HL2 : Hid (Lx w2 w1.heap.size ao' cap' zs off line col (.slice none 0 0) false) := hL2
    have HP : Hid (w.heap.size ≤ w1.heap.size) := HB1.out.size
    clear hb2 hL2 HB1 HA1 HR1 HX
    generalize w1.heap.size = p at HL2 HP
    have hF2 : F.answers w2.tape := by rw [HB2.out.tape]; exact hF
    go_wp2_with fail
    refine (zzskip_any F p ao' cap' zs off line col _ false w2 hF2 hbig ho (fun _ _ _ => rfl) HL2.out).mono ?_
    rintro e w3 ⟨j, ⟨hr, rfl, hs⟩ | ⟨k, pv', hr, hk, rfl, hs, hP⟩⟩
    · obtain ⟨rfl, rfl⟩ := HRUN.out.one hr
      have HL3 : Hid (Lx w3 p ao' cap' zs i (plT zs off i (line, col)).1 (plT zs off i (line, col)).2 (.slice none 0 0) false) := hs.2.2.1
      have HB3 : Hid (Below w.heap.size w w3) := HB2.out.trans (hs.2.2.2.mono HP.out)
      clear hs hr HL2 HB2 hF2
      unfold uv
      generalize (plT zs off i (line, col)).1 = jl at HL3
      generalize (plT zs off i (line, col)).2 = jc at HL3
      go_wp2_with fail
      refine (off_any p ao' cap' zs i jl jc _ _ w3 HL3.out).mono ?_
      rintro e w4 ⟨rfl, hw⟩
      subst w4
      go_wp2_with fail
      refine (line_any p ao' cap' zs i jl jc _ _ w3 HL3.out).mono ?_
      rintro e w4 ⟨rfl, hw⟩
      subst w4
      go_wp2_with fail
      refine (col_any p ao' cap' zs i jl jc _ _ w3 HL3.out).mono ?_
      rintro e w4 ⟨rfl, hw⟩
      subst w4
      go_wp2_with fail
      refine (cut_any p ao' cap' zs i jl jc _ _ w3 HL3.out).mono ?_
      rintro e w4 ⟨rfl, hw⟩
      subst w4
      go_wp2_with fail
      refine (count_any p ao' cap' zs i jl jc _ w3 _ _ _ HL3.out).mono ?_
      rintro e w4 ⟨rfl, hw⟩
      subst w4
      go_wp2
      go_ret
      exact ⟨rfl, HB3.out⟩
    · obtain ⟨rfl, rfl⟩ := HRUN.out.one hr
      obtain ⟨hk1, hk2, hk3⟩ := hr.stops.2 k rfl
      have hlt : off < i := by omega
      have HL3 : Hid (Lx w3 p ao' cap' zs i (plT zs off i (line, col)).1 (plT zs off i (line, col)).2 pv' true) := hs.2.2.1
      have HB3 : Hid (Below w.heap.size w w3) := HB2.out.trans (hs.2.2.2.mono HP.out)
      have HPR : Hid (OneProb w3 p pv' (plT zs off k (line, col)).1 (plT zs off k (line, col)).2) := hP
      have hR3 := hs.2.2.1.2.2.2.2.2.2.2.1
      have HR3 : Hid (Runes w3 ao' zs) := hR3
      clear hR3
      obtain ⟨g, gc, hg, hpv, _, _⟩ := hP
      subst hpv
      clear hs hr HL2 HB2 hF2 hk3
      have hk0 : ¬ ((k : Int) < 0) := by omega
      unfold uv
      generalize (plT zs off i (line, col)).1 = jl at HL3
      generalize (plT zs off i (line, col)).2 = jc at HL3
      go_wp2_with fail
      refine (off_any p ao' cap' zs i jl jc _ _ w3 HL3.out).mono ?_
      rintro e w4 ⟨rfl, hw⟩
      subst w4
      go_wp2_with fail
      refine (line_any p ao' cap' zs i jl jc _ _ w3 HL3.out).mono ?_
      rintro e w4 ⟨rfl, hw⟩
      subst w4
      go_wp2_with fail
      refine (col_any p ao' cap' zs i jl jc _ _ w3 HL3.out).mono ?_
      rintro e w4 ⟨rfl, hw⟩
      subst w4
      go_wp2_with fail
      refine (cut_any p ao' cap' zs i jl jc _ _ w3 HL3.out).mono ?_
      rintro e w4 ⟨rfl, hw⟩
      subst w4
      go_wp2_with fail
      refine (count_any p ao' cap' zs i jl jc _ w3 _ _ _ HL3.out).mono ?_
      rintro e w4 ⟨rfl, hw⟩
      subst w4
      go_wp2_with fail
      refine (ppos_any p ao' cap' zs i jl jc _ _ w3 _ _ HL3.out HPR.out).mono ?_
      rintro e w4 ⟨rfl, m, rfl⟩
      go_wp2_with fail
      refine (place_any ao' zs cap' off k line col (w3.drewN m) hbig hk1 (by omega) HCOL.out HR3.out).mono ?_
      rintro e w4 ⟨rfl, hw⟩
      subst w4
      go_wp2
      go_ret
      exact ⟨rfl, below_drewN HB3.out m⟩
  · have hd : decide (zs.length ≤ 1048576) = false := by simp [hbig]
    rw [hd]
    go_wp2_with fail
    go_ret
    exact ⟨rfl, Below.refl _ _⟩

end Go.Proofs.Qxb6605758aFmt
