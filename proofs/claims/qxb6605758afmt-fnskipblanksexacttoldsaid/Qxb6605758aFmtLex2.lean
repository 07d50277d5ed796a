import Derived.Test.Qxb6605758aFmtLex
import Derived.Deep.RegionHeld
namespace Go.Proofs.Qxb6605758aFmt
open Go.RowKit

/-- Line and column behind n runes from off. -/
def places (zs : List Int) (off : Nat) : Nat → Int × Int → Int × Int
  | 0, lc => lc
  | n + 1, lc => adv (ch zs (off + n)) (places zs off n lc)

theorem places_add (zs : List Int) (off n : Nat) (lc : Int × Int) : ∀ m, places zs off (n + m) lc = places zs (off + n) m (places zs off n lc)
  | 0 => rfl
  | m + 1 => by
    show adv (ch zs (off + (n + m))) (places zs off (n + m) lc) = adv (ch zs (off + n + m)) (places zs (off + n) m (places zs off n lc))
    rw [places_add zs off n lc m, Nat.add_assoc]

/-- Where the lexer at p stands. -/
def offAt (p : Nat) (w : World) : Nat := match w.cell? ⟨p, 1, none⟩ with
  | some (.int _ i) => i.toNat
  | _ => 0

theorem offAt_of {w : World} {p : Nat} {ao : Option Addr} {cap : Nat} {zs : List Int} {off : Nat} {line col : Int} {pv : Value} {cs : Bool} (h : Lx w p ao cap zs off line col pv cs) : offAt p w = off := by simp [offAt, h.2.1]

/-- The lexer stands n runes behind off. -/
def At (w wr : World) (p : Nat) (ao : Option Addr) (cap : Nat) (zs : List Int) (off n : Nat) (lc : Int × Int) (pv : Value) (cs : Bool) : Prop :=
  Lx wr p ao cap zs (off + n) (places zs off n lc).1 (places zs off n lc).2 pv cs ∧ Only p w wr

theorem At.step {w wr w' : World} {p : Nat} {ao : Option Addr} {cap : Nat} {zs : List Int} {off n : Nat} {lc : Int × Int} {pv : Value} {cs : Bool} (h : At w wr p ao cap zs off n lc pv cs)
    (hl : Lx w' p ao cap zs (off + n + 1) (adv (ch zs (off + n)) ((places zs off n lc).1, (places zs off n lc).2)).1 (adv (ch zs (off + n)) ((places zs off n lc).1, (places zs off n lc).2)).2 pv cs) (ho : Only p wr w') : At w w' p ao cap zs off (n + 1) lc pv cs := ⟨hl, h.2.trans ho⟩
theorem At.drewN {w wr : World} {p : Nat} {ao : Option Addr} {cap : Nat} {zs : List Int} {off n : Nat} {lc : Int × Int} {pv : Value} {cs : Bool} (h : At w wr p ao cap zs off n lc pv cs) (m : Nat) : At w (wr.drewN m) p ao cap zs off n lc pv cs := ⟨h.1.drewN m, h.2.trans (Only.drewN _ _ _)⟩

/-- Behind skipLine. -/
def Lined (zs : List Int) (off n : Nat) : Prop := off + n ≤ zs.length ∧ (∀ k, off ≤ k → k < off + n → ch zs k ≠ 10 ∧ ch zs k ≠ -1) ∧ (ch zs (off + n) = 10 ∨ ch zs (off + n) = -1)

set_option maxHeartbeats 1000000 in
theorem skipLine_any (p : Nat) (ao : Option Addr) (cap : Nat) (zs : List Int) (off : Nat) (line col : Int) (pv : Value) (cs : Bool) (w : World) (hz : zs.length ≤ 1048576) (ho : off ≤ zs.length) (h : Lx w p ao cap zs off line col pv cs) :
    Calls Tryf.prog 24 #[.pointer (some ⟨p, 0, none⟩)] w fun e w' => e = .returned (.tuple #[]) ∧ ∃ n, Lined zs off n ∧ At w w' p ao cap zs off n (line, col) pv cs := by
  have H : Hid (Lx w p ao cap zs off line col pv cs) := h
  clear h
  go_enter Tryf.func24, Tryf.ntmps24
  go_wp2_with fail
  go_loopw [] (fun wr => ∃ n : Nat, off + n ≤ zs.length ∧ (∀ k, off ≤ k → k < off + n → ch zs k ≠ 10 ∧ ch zs k ≠ -1) ∧ At w wr p ao cap zs off n (line, col) pv cs) (fun wr => zs.length - offAt p wr)
  case atStart => exact ⟨0, ho, fun k h1 h2 => by omega, H.out, Only.refl _ _⟩
  case round =>
    obtain ⟨n, hn, hk, hA⟩ := hrel
    have HA : Hid (At w wr p ao cap zs off n (line, col) pv cs) := hA
    have HK : Hid (∀ k, off ≤ k → k < off + n → ch zs k ≠ 10 ∧ ch zs k ≠ -1) := hk
    have HM : Hid (offAt p wr = off + n) := offAt_of hA.1
    clear hA hk
    go_wp2_with fail
    refine (peek_any p ao cap zs (off + n) 0 _ _ pv cs _ hz hn (by omega) HA.out.1).mono ?_
    rintro e w1 ⟨rfl, m1, rfl⟩
    rw [Nat.add_zero]
    generalize hc : ch zs (off + n) = c
    have HC : Hid (ch zs (off + n) = c) := hc
    clear hc
    by_cases h10 : c = 10
    · subst h10
      go_wp2
      go_end0
      exact ⟨rfl, n, ⟨hn, HK.out, .inl HC.out⟩, HA.out.drewN _⟩
    · have e10 : (c != 10) = true := by simp [h10]
      go_wp2_with fail
      refine (peek_any p ao cap zs (off + n) 0 _ _ pv cs _ hz hn (by omega) (HA.out.drewN m1).1).mono ?_
      rintro e w2 ⟨rfl, m2, rfl⟩
      rw [Nat.add_zero, HC.out]
      by_cases h1 : c = -1
      · subst h1
        go_wp2
        go_end0
        exact ⟨rfl, n, ⟨hn, HK.out, .inr HC.out⟩, HA.out.drewN _⟩
      · have e1 : (c != -1) = true := by simp [h1]
        have hlt : off + n < zs.length := lt_of_ch (by rw [HC.out]; exact h1)
        go_wp2_with fail
        refine (advance_any p ao cap zs (off + n) _ _ pv cs _ hz hlt (HA.out.drewN (m1 + m2)).1).mono ?_
        rintro e w3 ⟨rfl, hl, hO⟩
        have HN : Hid (At w w3 p ao cap zs off (n + 1) (line, col) pv cs) := (HA.out.drewN (m1 + m2)).step hl hO
        have HM3 : Hid (offAt p w3 = off + n + 1) := offAt_of hl
        clear hl hO
        go_wp2_with fail
        go_roundw
        case rel =>
          refine ⟨n + 1, by omega, fun k h1' h2 => ?_, HN.out⟩
          by_cases hk : k < off + n
          · exact HK.out k h1' hk
          · have : k = off + n := by omega
            subst this
            rw [HC.out]
            exact ⟨h10, h1⟩
        case measure =>
          rw [HM3.out, HM.out]
          omega

/-- The place as the lexer tells it. -/
def posv (l c : Int) : Value := .agg #[.int .i64 l, .int .i64 c]

set_option maxHeartbeats 1000000 in
theorem pos_any (p : Nat) (ao : Option Addr) (cap : Nat) (zs : List Int) (off : Nat) (line col : Int) (pv : Value) (cs : Bool) (w : World) (h : Lx w p ao cap zs off line col pv cs) :
    Calls Tryf.prog 25 #[.pointer (some ⟨p, 0, none⟩)] w fun e w' => e = .returned (posv line col) ∧ Below w.heap.size w w' := by
  have hp : p < w.heap.size := World.block_lt_of_cell? _ _ h.1
  obtain ⟨h0, h1, h2, h3, h5, h6, hf, hr, hd⟩ := h
  clear h0 h1 h5 h6 hf hr hd
  have hne : w.heap.size ≠ p := by omega
  go_enter Tryf.func25, Tryf.ntmps25
  go_wp2_with fail
  go_region
  all_goals
    go_wp2
    refine bodyPost_ret (v := posv line col) (by unfold posv; simp [results, Tryf.results25, go_sem]) rfl ⟨rfl, ?_⟩
    exact ((Below.refl _ _).alloc (Nat.le_refl _) _).drew

end Go.Proofs.Qxb6605758aFmt
