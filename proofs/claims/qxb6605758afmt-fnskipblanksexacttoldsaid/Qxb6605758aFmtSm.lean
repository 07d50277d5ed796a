import Derived.Test.Qxb6605758aFmtSkip
import Derived.Laws.IdiomCopy
import Derived.Lib.SliceRun
namespace Go.Proofs.Qxb6605758aFmt
open Go.RowKit Go.Stop

theorem Tryf.info21 : (Tryf.prog.info? 21).map (fun i => (i.zero, i.size, i.bytes)) = some (some (.int .i32 0), 1, 4) := by kernel_rfl

/-- The first k runes have been copied to block B. -/
def CopyInv (w wr : World) (B n k : Nat) (zs : List Int) : Prop := Below w.heap.size w wr ∧ (∀ o, o < n → (wr.cell? ⟨B, o, none⟩).isSome = true) ∧ (∀ o, wr.frozen? ⟨B, o, none⟩ = false) ∧ (∀ j z, j < k → zs[j]? = some z → wr.cell? ⟨B, j, none⟩ = some (.int .i32 z)) ∧ w.heap.size ≤ B ∧ B < wr.heap.size

theorem CopyInv.step {w wr : World} {B n k : Nat} {zs : List Int} {z : Int} (h : CopyInv w wr B n k zs) (hk : k < n) (hz : zs[k]? = some z) : CopyInv w (wr.setCell ⟨B, k, none⟩ (.int .i32 z)) B n (k + 1) zs := by
  obtain ⟨hb, hs, hf, hp, hB, hB'⟩ := h
  have hx : ∀ o, o ≠ k → (wr.setCell ⟨B, k, none⟩ (.int .i32 z)).cell? ⟨B, o, none⟩ = wr.cell? ⟨B, o, none⟩ := fun o ho => World.cell?_setCell_other _ _ _ _ (fun e => ho (Addr.mk.inj e).2.1.symm)
  have hy : (wr.setCell ⟨B, k, none⟩ (.int .i32 z)).cell? ⟨B, k, none⟩ = some (.int .i32 z) := World.cell?_setCell_same' _ _ _ (hs k hk)
  refine ⟨hb.setCell hB _, fun o ho => ?_, fun o => by simp [hf], fun j z' hj hz' => ?_, hB, by simpa using hB'⟩
  · by_cases e : o = k
    · subst e; rw [hy]; rfl
    · rw [hx o e]; exact hs o ho
  · by_cases e : j = k
    · subst e; rw [hz] at hz'; cases hz'; exact hy
    · rw [hx j e]; exact hp j z' (by omega) hz'

theorem CopyInv.start {w w1 : World} {n : Nat} {zs : List Int} {us : List Value} (hown : w1.ownsRow w.heap.size 21 1 (.slice (some ⟨w.heap.size, 0, none⟩) n n) n us) (hg : w.grownBy w1 none) (hlt : w.heap.size < w1.heap.size) : CopyInv w w1 w.heap.size n 0 zs := by
  refine ⟨(Below.refl _ _).grown hg (Nat.le_refl _) (fun k h => by cases h), ?_, ?_, fun j z hj => absurd hj (Nat.not_lt_zero _), Nat.le_refl _, hlt⟩
  · intro o ho
    have h1 := hown.1
    have h2 := hown.cells (g := w.heap.size) rfl o us[o] (List.getElem?_eq_getElem (by omega))
    have e : (⟨w.heap.size, 0, none⟩ : Addr).add o = ⟨w.heap.size, o, none⟩ := by simp [Addr.add_lit]
    rw [e] at h2
    rw [h2]; rfl
  · intro o
    rcases hown.2 with ⟨hv, _⟩ | ⟨g, cap, cur, hv, _, hh, _⟩
    · cases hv
    · cases hv
      simp [World.frozen?, hh]

theorem ownsRow_lt {w1 : World} {B b n : Nat} {us : List Value} (hown : w1.ownsRow B 21 1 (.slice (some ⟨b, 0, none⟩) n n) n us) : b < w1.heap.size := by
  rcases hown.2 with ⟨hv, _⟩ | ⟨g, cap, cur, hv, _, hh, _⟩
  · cases hv
  · cases hv
    rcases Nat.lt_or_ge b w1.heap.size with h | h
    · exact h
    · rw [Array.getElem?_eq_none h] at hh; cases hh

set_option maxHeartbeats 1000000 in
theorem clone_any (ao : Option Addr) (zs : List Int) (cap : Nat) (w : World) (hn : zs.length ≤ 1048576) (h : Runes w ao zs) (hb : ∀ a, ao = some a → a.block < w.heap.size ∨ zs = []) :
    Calls Tryf.prog 6 #[.slice ao zs.length cap] w fun e w' => ∃ ao' cap', e = .returned (.slice ao' zs.length cap') ∧ Runes w' ao' zs ∧ Below w.heap.size w w' ∧ ∀ a, ao' = some a → a.block < w'.heap.size := by
  have hnil := fun (w : World) (a : Option Addr) (l c : Nat) => Lib.run_eql_slice_nil (P := Tryf.prog) w 22 21 a l c 0 0 Tryf.underlying22
  cases ao with
  | none =>
    have hx : zs = [] := by rcases h with h | ⟨b, off, h, _⟩; exact h; cases h
    subst hx
    go_enter Tryf.func6, Tryf.ntmps6
    go_wp2
    go_ret
    exact ⟨none, ⟨0, rfl⟩, .inl rfl, Below.refl _ _, fun a h => by cases h⟩
  | some a =>
    obtain ⟨i0, hi, hz0, hz1, hz2⟩ := info_parts Tryf.info21
    go_enter Tryf.func6, Tryf.ntmps6
    go_wp2_with (at_make; refine wpList_make_full _ rfl _ _ 22 rfl w.heap.size 21 i0 _ 1 Tryf.underlying22 hi hz0 hz1 .i64 .i64 _ _ zs.length rfl rfl rfl rfl (by rw [hz2]; omega) (by unfold maxLen; omega) (Nat.le_refl _) ?_; intro w1 hown hgr)
    have hI := CopyInv.start (zs := zs) hown hgr (ownsRow_lt hown)
    clear hown hgr hi hz0 hz1 hz2
    go_loopw [4] (fun i wr => ∃ k : Nat, k ≤ zs.length ∧ i = .int .i64 k ∧ CopyInv w wr w.heap.size zs.length k zs) (fun i _ => zs.length - (intOf i).toNat)
    case atStart => exact ⟨0, Nat.zero_le _, rfl, hI⟩
    case round =>
      obtain ⟨k, hk, rfl, hI'⟩ := hrel
      clear hI
      by_cases hlt : k < zs.length
      · have hR : Runes wr (some a) zs := h.keep fun x ⟨b, hb1, hb2⟩ => hI'.1.cell (by cases hb1; rcases hb a rfl with h1 | h1; omega; subst h1; simp at hlt)
        obtain ⟨b, off, z, ha, hz, c0⟩ := hR.at hlt
        cases ha
        have hfz := hI'.2.2.1
        obtain ⟨u0, d0⟩ := Option.isSome_iff_exists.1 (hI'.2.1 k hlt)
        have hN : Hid (CopyInv w (wr.setCell ⟨w.heap.size, k, none⟩ (.int .i32 z)) w.heap.size zs.length (k + 1) zs) := hI'.step hlt hz
        clear hI' hz h hb hR
        go_wp2
        go_roundw
        case rel => exact ⟨k + 1, by omega, by go_num, hN.out⟩
        case measure => simp [intOf]; omega
      · have e : k = zs.length := by omega
        subst e
        have HP : Hid (Runes wr (some ⟨w.heap.size, 0, none⟩) zs) := .inr ⟨_, _, rfl, fun j z hz => by
          rw [Nat.zero_add]
          exact hI'.2.2.2.1 j z (List.getElem?_eq_some_iff.1 hz).1 hz⟩
        have HB : Hid (Below w.heap.size w wr) := hI'.1
        have HL : Hid (w.heap.size < wr.heap.size) := hI'.2.2.2.2.2
        clear hI' h hb
        go_wp2
        go_ret
        exact ⟨some ⟨w.heap.size, 0, none⟩, zs.length, rfl, HP.out, HB.out, fun a h => by cases h; exact HL.out⟩

set_option maxHeartbeats 1000000 in
theorem newLexer_any (ao : Option Addr) (zs : List Int) (cap off : Nat) (line col : Int) (w : World) (h : Runes w ao zs) (hb : ∀ a, ao = some a → a.block < w.heap.size) :
    Calls Tryf.prog 10 #[.slice ao zs.length cap, .int .i64 off, .int .i64 line, .int .i64 col] w fun e w' => e = .returned (.pointer (some ⟨w.heap.size, 0, none⟩)) ∧ Lx w' w.heap.size ao cap zs off line col (.slice none 0 0) false ∧ Below w.heap.size w w' := by
  have H : Hid (Runes w ao zs) := h
  clear h
  go_enter Tryf.func10, Tryf.ntmps10
  go_wp2
  go_ret
  refine ⟨rfl, ⟨by simp, by simp, by simp, by simp, by simp, by simp, fun o => by rw [World.frozen?_alloc_mark _ _ _ 0 0 o]; simp, H.out.keep (fun a ⟨b, h1, h2⟩ => ?_), hb⟩, (Below.refl _ _).alloc (Nat.le_refl _) _⟩
  exact ((Below.refl w.heap.size w).alloc (Nat.le_refl _) _).cell (by rw [h2]; exact hb b h1)

set_option maxHeartbeats 1000000 in
theorem zzskip_any (F : Interp) (p : Nat) (ao : Option Addr) (cap : Nat) (zs : List Int) (off : Nat) (line col : Int) (pv : Value) (cs : Bool) (w : World) (hF : F.answers w.tape) (hz : zs.length ≤ 1048576) (ho : off ≤ zs.length)
    (hpv : ∀ e i, Run zs off e (some i) → pv = .slice none 0 0) (h : Lx w p ao cap zs off line col pv cs) :
    Calls Tryf.prog 11 #[.pointer (some ⟨p, 0, none⟩)] w fun e w' => SkipPost w w' p ao cap zs off (line, col) pv cs e := by
  have H : Hid (Calls Tryf.prog 21 #[.pointer (some ⟨p, 0, none⟩)] w fun e w' => SkipPost w w' p ao cap zs off (line, col) pv cs e) := skipBlanks_any F p ao cap zs off line col pv cs w hF hz ho hpv h
  clear hpv h hF
  go_enter Tryf.func11, Tryf.ntmps11
  go_wp2_with fail
  refine H.out.mono ?_
  rintro e w1 ⟨j, ⟨hr, rfl, hs⟩ | ⟨i, pv', hr, hi, rfl, hs, hP⟩⟩
  · have H1 : Hid (SkipPost w w1 p ao cap zs off (line, col) pv cs (.returned (.bool (decide (off < j))))) := ⟨j, .inl ⟨hr, rfl, hs⟩⟩
    clear hr hs
    go_wp2
    go_ret
    exact H1.out
  · have H1 : Hid (SkipPost w w1 p ao cap zs off (line, col) pv cs (.returned (.bool true))) := ⟨j, .inr ⟨i, pv', hr, hi, rfl, hs, hP⟩⟩
    clear hr hs hP
    go_wp2
    go_ret
    exact H1.out

section
variable (p : Nat) (ao : Option Addr) (cap : Nat) (zs : List Int) (off : Nat) (line col : Int) (pv : Value) (cs : Bool) (w : World)

theorem off_any (h : Lx w p ao cap zs off line col pv cs) : Calls Tryf.prog 12 #[.pointer (some ⟨p, 0, none⟩)] w fun e w' => e = .returned (.int .i64 off) ∧ w' = w := by
  have c := h.2.1
  clear h
  go_enter Tryf.func12, Tryf.ntmps12
  go_wp2
  go_ret
  exact ⟨rfl, rfl⟩

theorem line_any (h : Lx w p ao cap zs off line col pv cs) : Calls Tryf.prog 13 #[.pointer (some ⟨p, 0, none⟩)] w fun e w' => e = .returned (.int .i64 line) ∧ w' = w := by
  have c := h.2.2.1
  clear h
  go_enter Tryf.func13, Tryf.ntmps13
  go_wp2
  go_ret
  exact ⟨rfl, rfl⟩

theorem col_any (h : Lx w p ao cap zs off line col pv cs) : Calls Tryf.prog 14 #[.pointer (some ⟨p, 0, none⟩)] w fun e w' => e = .returned (.int .i64 col) ∧ w' = w := by
  have c := h.2.2.2.1
  clear h
  go_enter Tryf.func14, Tryf.ntmps14
  go_wp2
  go_ret
  exact ⟨rfl, rfl⟩

theorem cut_any (h : Lx w p ao cap zs off line col pv cs) : Calls Tryf.prog 15 #[.pointer (some ⟨p, 0, none⟩)] w fun e w' => e = .returned (.bool cs) ∧ w' = w := by
  have c := h.2.2.2.2.2.1
  clear h
  go_enter Tryf.func15, Tryf.ntmps15
  go_wp2
  go_ret
  exact ⟨rfl, rfl⟩

theorem count_any (b : Option Addr) (n k : Nat) (h : Lx w p ao cap zs off line col (.slice b n k) cs) : Calls Tryf.prog 16 #[.pointer (some ⟨p, 0, none⟩)] w fun e w' => e = .returned (.int .i64 n) ∧ w' = w := by
  have c := h.2.2.2.2.1
  clear h
  go_enter Tryf.func16, Tryf.ntmps16
  go_wp2
  go_ret
  exact ⟨rfl, rfl⟩

theorem ppos_any (l c : Int) (h : Lx w p ao cap zs off line col pv cs) (hP : OneProb w p pv l c) : Calls Tryf.prog 17 #[.pointer (some ⟨p, 0, none⟩), .int .i64 0] w fun e w' => e = .returned (.tuple #[.int .i64 l, .int .i64 c]) ∧ ∃ m, w' = w.drewN m := by
  obtain ⟨g, k, hg, rfl, g0, g1⟩ := hP
  have c := h.2.2.2.2.1
  clear h
  go_enter Tryf.func17, Tryf.ntmps17
  go_wp2_with fail
  go_quiet (fail)
  go_wp2
  go_ret2
  exact ⟨rfl, _, rfl⟩
end

set_option maxHeartbeats 1000000 in
theorem bytes5 (ao : Option Addr) (n cap : Nat) (o l c : Value) (w : World) :
    Calls Tryf.prog 5 #[.slice ao n cap, o, l, c] w fun e w' => e = .returned (.bool (decide (n ≤ 1048576))) ∧ w' = w := by
  by_cases h : n ≤ 1048576
  · have e : decide (n ≤ 1048576) = true := by simp [h]
    rw [e]
    go_enter Tryf.func5, Tryf.ntmps5
    go_wp2
    go_ret
    exact ⟨rfl, rfl⟩
  · have e : decide (n ≤ 1048576) = false := by simp [h]
    rw [e]
    go_enter Tryf.func5, Tryf.ntmps5
    go_wp2
    go_ret
    exact ⟨rfl, rfl⟩

set_option maxHeartbeats 1000000 in
theorem bytes18 (ao : Option Addr) (n cap : Nat) (o l c : Value) (w : World) :
    Calls Tryf.prog 18 #[.slice ao n cap, o, l, c] w fun e w' => e = .returned (.bool (decide (n ≤ 1048576))) ∧ w' = w := by
  by_cases h : n ≤ 1048576
  · have e : decide (n ≤ 1048576) = true := by simp [h]
    rw [e]
    go_enter Tryf.func18, Tryf.ntmps18
    go_wp2
    go_ret
    exact ⟨rfl, rfl⟩
  · have e : decide (n ≤ 1048576) = false := by simp [h]
    rw [e]
    go_enter Tryf.func18, Tryf.ntmps18
    go_wp2
    go_ret
    exact ⟨rfl, rfl⟩

end Go.Proofs.Qxb6605758aFmt
