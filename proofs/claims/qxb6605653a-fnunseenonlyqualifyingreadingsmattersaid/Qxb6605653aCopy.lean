import Derived.Test.Qxb6605653aLat
import Derived.Laws.IdiomCopy
import Derived.Lib.SliceRun
namespace Go.Proofs.Qxb6605653a
open Go.RowKit

theorem Try.info29 : (Try.prog.info? 29).map (fun i => (i.zero, i.size, i.bytes)) = some (some (.agg #[.int .i64 0, .int .i64 0, .int .i64 0, .int .i64 0, .int .i64 0, .int .i64 0]), 6, 48) := by kernel_rfl

/-- The first k readings have been copied to block B. -/
def CopyInv (w wr : World) (B n k : Nat) (xs : List Rd) : Prop := Below w.heap.size w wr ∧ (∀ o, o < n * 6 → (wr.cell? ⟨B, o, none⟩).isSome = true) ∧ (∀ o, wr.frozen? ⟨B, o, none⟩ = false) ∧ PlainAt wr B 0 (xs.take k) ∧ w.heap.size ≤ B

/-- The six values of a reading. -/
def Rd.vals (r : Rd) : List Value := [.int .i64 r.q, .int .i64 r.o, .int .i64 r.x, .int .i64 r.b, .int .i64 r.l, .int .i64 r.a]

theorem CopyInv.step {w wr : World} {B n k : Nat} {xs : List Rd} {r : Rd} (h : CopyInv w wr B n k xs) (hk : k < n) (hn : xs.length = n) (hr : xs[k]? = some r) :
    CopyInv w (wr.setCells B (k * 6) r.vals) B n (k + 1) xs := by
  obtain ⟨hb, hs, hf, hp, hB⟩ := h
  have hex : ∀ j, j < r.vals.length → (wr.cell? ⟨B, k * 6 + j, none⟩).isSome = true := fun j hj => hs _ (by simp [Rd.vals] at hj; omega)
  have hin := World.cell?_setCells_in B r.vals (k * 6) wr hex
  have hout : ∀ o, o < k * 6 ∨ k * 6 + 6 ≤ o → (wr.setCells B (k * 6) r.vals).cell? ⟨B, o, none⟩ = wr.cell? ⟨B, o, none⟩ := fun o ho => World.cell?_setCells_out B r.vals (k * 6) wr ⟨B, o, none⟩ (fun _ _ => by simpa [Rd.vals] using ho)
  refine ⟨?_, ?_, fun o => (World.frozen?_setCells B r.vals _ _ _).trans (hf o), ?_, hB⟩
  · show Below w.heap.size w ((((((wr.setCell _ _).setCell _ _).setCell _ _).setCell _ _).setCell _ _).setCell _ _)
    exact (((((hb.setCell hB _).setCell hB _).setCell hB _).setCell hB _).setCell hB _).setCell hB _
  · intro o ho
    by_cases hin' : k * 6 ≤ o ∧ o < k * 6 + 6
    · have := hin (o - k * 6) (by simp [Rd.vals]; omega)
      rw [show k * 6 + (o - k * 6) = o from by omega] at this
      rw [this]; rfl
    · rw [hout o (by omega)]; exact hs o ho
  · intro t r' hr'
    by_cases ht : t < k
    · have e : (xs.take k)[t]? = some r' := by
        rw [List.getElem?_take] at hr' ⊢
        rw [if_pos (by omega)] at hr'
        rw [if_pos ht]; exact hr'
      obtain ⟨h0, h1, h2, h3, h4, h5⟩ := hp t r' e
      exact ⟨(hout _ (by omega)).trans h0, (hout _ (by omega)).trans h1, (hout _ (by omega)).trans h2, (hout _ (by omega)).trans h3, (hout _ (by omega)).trans h4, (hout _ (by omega)).trans h5⟩
    · have e : t = k := by
        rw [List.getElem?_take] at hr'
        by_cases h' : t < k + 1
        · omega
        · rw [if_neg h'] at hr'; cases hr'
      subst e
      have e2 : r' = r := by
        rw [List.getElem?_take, if_pos (by omega), hr] at hr'
        cases hr'; rfl
      subst e2
      have z : 0 + t * 6 = t * 6 := by omega
      rw [z]
      exact ⟨hin 0 (by simp [Rd.vals]), hin 1 (by simp [Rd.vals]), hin 2 (by simp [Rd.vals]), hin 3 (by simp [Rd.vals]), hin 4 (by simp [Rd.vals]), hin 5 (by simp [Rd.vals])⟩

theorem CopyInv.start {w w1 : World} {n : Nat} {xs : List Rd} {us : List Value} (hown : w1.ownsRow w.heap.size 29 6 (.slice (some ⟨w.heap.size, 0, none⟩) n n) n us) (hg : w.grownBy w1 none) : CopyInv w w1 w.heap.size n 0 xs := by
  refine ⟨(Below.refl _ _).grown hg (Nat.le_refl _) (fun k h => by cases h), ?_, ?_, ?_, Nat.le_refl _⟩
  · intro o ho
    have h1 := hown.1
    have h2 := hown.cells (g := w.heap.size) rfl o us[o] (List.getElem?_eq_getElem (by omega))
    have e : (⟨w.heap.size, 0, none⟩ : Addr).add o = ⟨w.heap.size, o, none⟩ := by simp [Addr.add_lit]
    rw [e] at h2
    rw [h2]; rfl
  · intro o
    rcases hown.2 with ⟨hv, _⟩ | ⟨g, cap, cur, hv, _, hh, _⟩
    · cases hv
    · cases hv
      simp [World.frozen?, hh]
  · intro t r hr
    simp at hr

set_option maxHeartbeats 1000000 in
theorem copy_any (ao : Option Addr) (xs : List Rd) (cap : Nat) (w : World) (hn : xs.length ≤ 1048576) (h : Rds w ao xs) :
    Calls Try.prog 17 #[.slice ao xs.length cap] w fun e w' => ∃ ao' cap', e = .returned (.slice ao' xs.length cap') ∧ Rds w' ao' xs ∧ Below w.heap.size w w' := by
  have hnil := fun (w : World) (a : Option Addr) (l c : Nat) => Lib.run_eql_slice_nil (P := Try.prog) w 27 29 a l c 0 0 Try.underlying27
  cases ao with
  | none =>
    have hx : xs = [] := by rcases h with h | ⟨b, off, h, _⟩; exact h; cases h
    subst hx
    go_enter Try.func17, Try.ntmps17
    go_wp2
    go_ret
    exact ⟨none, 0, rfl, .inl rfl, Below.refl _ _⟩
  | some a =>
    obtain ⟨i0, hi, hz0, hz1, hz2⟩ := info_parts Try.info29
    go_enter Try.func17, Try.ntmps17
    go_wp2_with (at_make; refine wpList_make_full _ rfl _ _ 27 rfl w.heap.size 29 i0 _ 6 Try.underlying27 hi hz0 hz1 .i64 .i64 _ _ xs.length rfl rfl rfl rfl (by rw [hz2]; omega) (by unfold maxLen; omega) (Nat.le_refl _) ?_; intro w1 hown hgr)
    have hI := CopyInv.start (xs := xs) hown hgr
    clear hown hgr hi hz0 hz1 hz2
    go_loopw [4] (fun i wr => ∃ k : Nat, k ≤ xs.length ∧ i = .int .i64 k ∧ CopyInv w wr w.heap.size xs.length k xs) (fun i _ => xs.length - (intOf i).toNat)
    case atStart => exact ⟨0, Nat.zero_le _, rfl, hI⟩
    case round =>
      obtain ⟨k, hk, rfl, hI'⟩ := hrel
      clear hI
      by_cases hlt : k < xs.length
      · obtain ⟨b, off, r, ha, hr, c0, c1, c2, c3, c4, c5⟩ := (h.keep hI'.1).at hlt
        cases ha
        have hfz := hI'.2.2.1
        obtain ⟨u0, d0⟩ := Option.isSome_iff_exists.1 (hI'.2.1 (k * 6) (by omega))
        obtain ⟨u1, d1⟩ := Option.isSome_iff_exists.1 (hI'.2.1 (k * 6 + 1) (by omega))
        obtain ⟨u2, d2⟩ := Option.isSome_iff_exists.1 (hI'.2.1 (k * 6 + 2) (by omega))
        obtain ⟨u3, d3⟩ := Option.isSome_iff_exists.1 (hI'.2.1 (k * 6 + 3) (by omega))
        obtain ⟨u4, d4⟩ := Option.isSome_iff_exists.1 (hI'.2.1 (k * 6 + 4) (by omega))
        obtain ⟨u5, d5⟩ := Option.isSome_iff_exists.1 (hI'.2.1 (k * 6 + 5) (by omega))
        have hN : Hid (CopyInv w (wr.setCells w.heap.size (k * 6) r.vals) w.heap.size xs.length (k + 1) xs) := hI'.step hlt rfl hr
        clear hI' hr h
        go_wp2
        go_roundw
        case rel => exact ⟨k + 1, by omega, by go_num, hN.out⟩
        case measure => simp [intOf]; omega
      · have e : k = xs.length := by omega
        subst e
        have hP : Rds wr (some ⟨w.heap.size, 0, none⟩) xs := .inr ⟨_, _, rfl, by have := hI'.2.2.2.1; simpa using this⟩
        have HP : Hid (Rds wr (some ⟨w.heap.size, 0, none⟩) xs) := hP
        have HB : Hid (Below w.heap.size w wr) := hI'.1
        clear hP hI' h
        go_wp2
        go_ret
        exact ⟨some ⟨w.heap.size, 0, none⟩, xs.length, rfl, HP.out, HB.out⟩

end Go.Proofs.Qxb6605653a
