import Derived.Test.Qxb6605758aFmtRows
import Derived.WalkKit
import Derived.WalkSpells
import Derived.WalkLawsBesides
import Derived.BigQuiet
namespace Go.Proofs.Qxb6605758aFmt
open Go.RowKit

/-- The address ao leads to the runes zs. -/
def Runes (w : World) (ao : Option Addr) (zs : List Int) : Prop := zs = [] ∨ ∃ b off, ao = some ⟨b, off, none⟩ ∧ ∀ (k : Nat) (z : Int), zs[k]? = some z → w.cell? ⟨b, off + k, none⟩ = some (.int .i32 z)

theorem Runes.at {w : World} {ao : Option Addr} {zs : List Int} (h : Runes w ao zs) {k : Nat} (hk : k < zs.length) : ∃ b off z, ao = some ⟨b, off, none⟩ ∧ zs[k]? = some z ∧ w.cell? ⟨b, off + k, none⟩ = some (.int .i32 z) := by
  rcases h with rfl | ⟨b, off, ha, h⟩
  · exact absurd hk (by simp)
  exact ⟨b, off, zs[k], ha, List.getElem?_eq_getElem hk, h k zs[k] (List.getElem?_eq_getElem hk)⟩

/-- The rune at k; past the end the end's mark. -/
def ch (zs : List Int) (k : Nat) : Int := (zs[k]?).getD (-1)

theorem ch_of {zs : List Int} {k : Nat} {z : Int} (h : zs[k]? = some z) : ch zs k = z := by simp [ch, h]
theorem ch_past {zs : List Int} {k : Nat} (h : zs.length ≤ k) : ch zs k = -1 := by simp [ch, List.getElem?_eq_none h]
theorem lt_of_ch {zs : List Int} {k : Nat} (h : ch zs k ≠ -1) : k < zs.length := by
  rcases Nat.lt_or_ge k zs.length with h' | h'
  · exact h'
  · exact absurd (ch_past h') h

/-- The lexer at block p. -/
def Lx (w : World) (p : Nat) (ao : Option Addr) (cap : Nat) (zs : List Int) (off : Nat) (line col : Int) (pv : Value) (cs : Bool) : Prop :=
  w.cell? ⟨p, 0, none⟩ = some (.slice ao zs.length cap) ∧ w.cell? ⟨p, 1, none⟩ = some (.int .i64 off) ∧ w.cell? ⟨p, 2, none⟩ = some (.int .i64 line) ∧ w.cell? ⟨p, 3, none⟩ = some (.int .i64 col) ∧
  w.cell? ⟨p, 5, none⟩ = some pv ∧ w.cell? ⟨p, 6, none⟩ = some (.bool cs) ∧ (∀ o, w.frozen? ⟨p, o, none⟩ = false) ∧ Runes w ao zs ∧ ∀ a, ao = some a → a.block < p

theorem Runes.keep {w w' : World} {ao : Option Addr} {zs : List Int} (h : Runes w ao zs) (hk : ∀ a, (∃ b, ao = some b ∧ a.block = b.block) → w'.cell? a = w.cell? a) : Runes w' ao zs := by
  rcases h with h | ⟨b, off, ha, h⟩
  · exact .inl h
  exact .inr ⟨b, off, ha, fun k z hz => (hk ⟨b, off + k, none⟩ ⟨_, ha, rfl⟩).trans (h k z hz)⟩

theorem Lx.keep {w w' : World} {p : Nat} {ao : Option Addr} {cap : Nat} {zs : List Int} {off : Nat} {line col : Int} {pv : Value} {cs : Bool} (h : Lx w p ao cap zs off line col pv cs) (hb : Below (p + 1) w w') : Lx w' p ao cap zs off line col pv cs := by
  obtain ⟨h0, h1, h2, h3, h5, h6, hf, hr, hd⟩ := h
  have k : ∀ o, w'.cell? ⟨p, o, none⟩ = w.cell? ⟨p, o, none⟩ := fun o => hb.cell (p := ⟨p, o, none⟩) (Nat.lt_succ_self p)
  refine ⟨(k 0).trans h0, (k 1).trans h1, (k 2).trans h2, (k 3).trans h3, (k 5).trans h5, (k 6).trans h6, fun o => (hb.frozen (p := ⟨p, o, none⟩) (Nat.lt_succ_self p)).trans (hf o), hr.keep ?_, hd⟩
  rintro a ⟨b, hb', e⟩
  exact hb.cell (by have := hd b hb'; omega)

/-- Block p alone is written. -/
def Only (p : Nat) (w w' : World) : Prop := Below p w w' ∧ w'.heap.size = w.heap.size ∧ ∀ a : Addr, a.block ≠ p → w'.cell? a = w.cell? a

theorem Only.trans {p : Nat} {a b c : World} (h : Only p a b) (k : Only p b c) : Only p a c := ⟨h.1.trans k.1, k.2.1.trans h.2.1, fun x hx => (k.2.2 x hx).trans (h.2.2 x hx)⟩
theorem Only.drewN (p : Nat) (w : World) (n : Nat) : Only p w (w.drewN n) := ⟨below_drewN (Below.refl _ _) n, rfl, fun _ _ => rfl⟩
theorem Only.refl (p : Nat) (w : World) : Only p w w := ⟨Below.refl _ _, rfl, fun _ _ => rfl⟩
theorem Only.setCell (p : Nat) (w : World) (o : Nat) (v : Value) : Only p w (w.setCell ⟨p, o, none⟩ v) :=
  ⟨(Below.refl _ _).setCell (p := ⟨p, o, none⟩) (Nat.le_refl p) v, by simp, fun a ha => World.cell?_setCell_other _ _ _ _ (fun e => ha (by rw [← e]))⟩

theorem Lx.drewN {w : World} {p : Nat} {ao : Option Addr} {cap : Nat} {zs : List Int} {off : Nat} {line col : Int} {pv : Value} {cs : Bool} (h : Lx w p ao cap zs off line col pv cs) (n : Nat) : Lx (w.drewN n) p ao cap zs off line col pv cs := h

theorem Lx.set {w : World} {p : Nat} {ao : Option Addr} {cap : Nat} {zs : List Int} {off : Nat} {line col : Int} {pv : Value} {cs : Bool} (h : Lx w p ao cap zs off line col pv cs) :
    (∀ o' : Nat, Lx (w.setCell ⟨p, 1, none⟩ (.int .i64 o')) p ao cap zs o' line col pv cs) ∧ (∀ l, Lx (w.setCell ⟨p, 2, none⟩ (.int .i64 l)) p ao cap zs off l col pv cs) ∧
    (∀ c, Lx (w.setCell ⟨p, 3, none⟩ (.int .i64 c)) p ao cap zs off line c pv cs) ∧ (∀ v, Lx (w.setCell ⟨p, 5, none⟩ v) p ao cap zs off line col v cs) ∧ ∀ c, Lx (w.setCell ⟨p, 6, none⟩ (.bool c)) p ao cap zs off line col pv c := by
  obtain ⟨h0, h1, h2, h3, h5, h6, hf, hr, hd⟩ := h
  have hr' : ∀ o v, Runes (w.setCell ⟨p, o, none⟩ v) ao zs := fun o v => hr.keep fun a ⟨b, hb, e⟩ => World.cell?_setCell_other _ _ _ _ (fun e' => by have := hd b hb; rw [← e'] at e; simp at e; omega)
  have hs : ∀ o v u, w.cell? ⟨p, o, none⟩ = some u → (w.setCell ⟨p, o, none⟩ v).cell? ⟨p, o, none⟩ = some v := fun o v u hu => World.cell?_setCell_same _ _ _ hu
  have hx : ∀ o o' v, o ≠ o' → (w.setCell ⟨p, o, none⟩ v).cell? ⟨p, o', none⟩ = w.cell? ⟨p, o', none⟩ := fun o o' v ho => World.cell?_setCell_other _ _ _ _ (fun e => ho (Addr.mk.inj e).2.1)
  have hf' : ∀ o v o', (w.setCell ⟨p, o, none⟩ v).frozen? ⟨p, o', none⟩ = false := fun o v o' => by simp [hf]
  refine ⟨fun o' => ⟨?_, hs _ _ _ h1, ?_, ?_, ?_, ?_, hf' _ _, hr' _ _, hd⟩, fun l => ⟨?_, ?_, hs _ _ _ h2, ?_, ?_, ?_, hf' _ _, hr' _ _, hd⟩, fun c => ⟨?_, ?_, ?_, hs _ _ _ h3, ?_, ?_, hf' _ _, hr' _ _, hd⟩, fun v => ⟨?_, ?_, ?_, ?_, hs _ _ _ h5, ?_, hf' _ _, hr' _ _, hd⟩, fun c => ⟨?_, ?_, ?_, ?_, ?_, hs _ _ _ h6, hf' _ _, hr' _ _, hd⟩⟩ <;> (rw [hx _ _ _ (by decide)]; assumption)

set_option maxHeartbeats 1000000 in
theorem peek_any (p : Nat) (ao : Option Addr) (cap : Nat) (zs : List Int) (off n : Nat) (line col : Int) (pv : Value) (cs : Bool) (w : World) (hz : zs.length ≤ 1048576) (ho : off ≤ zs.length) (hn : n ≤ 1) (h : Lx w p ao cap zs off line col pv cs) :
    Calls Tryf.prog 22 #[.pointer (some ⟨p, 0, none⟩), .int .i64 n] w fun e w' => e = .returned (.int .i32 (ch zs (off + n))) ∧ ∃ m, w' = w.drewN m := by
  obtain ⟨h0, h1, h2, h3, h5, h6, hf, hr, hd⟩ := h
  have i3 : IntKind.i64.wrap ((off : Int) + (n : Int)) = (off : Int) + (n : Int) := by rw [IntKind.wrap_i64]; omega
  clear h2 h3 h5 h6 hf hd
  by_cases hlt : off + n < zs.length
  · obtain ⟨b, o, z, rfl, hz', hc⟩ := hr.at hlt
    have e : Hid (ch zs (off + n) = z) := ch_of hz'
    have i0 : (0 : Int) ≤ (off : Int) + (n : Int) := by omega
    have i1 : (off : Int) + (n : Int) < (zs.length : Int) := by omega
    have i2 : ((off : Int) + (n : Int)).toNat = off + n := by omega
    have i4 : decide ((zs.length : Int) ≤ (off : Int) + (n : Int)) = false := by simp; omega
    clear hz' hr hlt
    go_enter Tryf.func22, Tryf.ntmps22
    go_wp2_with fail
    go_quiet (fail)
    go_wp2_with fail
    go_quiet (fail)
    go_wp2
    go_ret
    exact ⟨by rw [e.out]; rfl, _, World.drewN_drewN _ _ _⟩
  · have e : Hid (ch zs (off + n) = -1) := ch_past (by omega)
    have i4 : (zs.length : Int) ≤ (off : Int) + (n : Int) := by omega
    clear hr hlt
    go_enter Tryf.func22, Tryf.ntmps22
    go_wp2_with fail
    go_quiet (fail)
    go_wp2
    go_ret
    exact ⟨by rw [e.out]; rfl, _, rfl⟩

/-- Line and column behind one rune. -/
def adv (z : Int) (lc : Int × Int) : Int × Int := if z = 10 then (wrap64 (lc.1 + 1), 1) else (lc.1, wrap64 (lc.2 + 1))

set_option maxHeartbeats 1000000 in
theorem advance_any (p : Nat) (ao : Option Addr) (cap : Nat) (zs : List Int) (off : Nat) (line col : Int) (pv : Value) (cs : Bool) (w : World) (hz : zs.length ≤ 1048576) (ho : off < zs.length) (h : Lx w p ao cap zs off line col pv cs) :
    Calls Tryf.prog 23 #[.pointer (some ⟨p, 0, none⟩)] w fun e w' => e = .returned (.tuple #[]) ∧ Lx w' p ao cap zs (off + 1) (adv (ch zs off) (line, col)).1 (adv (ch zs off) (line, col)).2 pv cs ∧ Only p w w' := by
  have H : Hid (Lx w p ao cap zs off line col pv cs) := h
  obtain ⟨h0, h1, h2, h3, h5, h6, hf, hr, hd⟩ := h
  obtain ⟨b, o, z, rfl, hz', hc⟩ := hr.at ho
  have e : Hid (ch zs off = z) := ch_of hz'
  have i3 : IntKind.i64.wrap ((off : Int) + 1) = (off : Int) + 1 := by rw [IntKind.wrap_i64]; omega
  clear h5 h6 hd hr hz'
  by_cases hnl : z = 10
  · subst hnl
    go_enter Tryf.func23, Tryf.ntmps23
    go_wp2_with fail
    go_quiet (fail)
    go_wp2
    go_end0
    refine ⟨rfl, ?_, ?_⟩
    · rw [e.out]
      exact ((((H.out.drewN _).set.2.1 _).set.2.2.1 _).set.1 (off + 1))
    · exact (((Only.drewN p w _).trans (Only.setCell p _ 2 _)).trans (Only.setCell p _ 3 _)).trans (Only.setCell p _ 1 _)
  · go_enter Tryf.func23, Tryf.ntmps23
    go_wp2_with fail
    go_quiet (fail)
    go_wp2
    go_end0
    refine ⟨rfl, ?_, ?_⟩
    · rw [e.out]
      unfold adv
      rw [if_neg hnl]
      exact (((H.out.drewN _).set.2.2.1 _).set.1 (off + 1))
    · exact ((Only.drewN p w _).trans (Only.setCell p _ 3 _)).trans (Only.setCell p _ 1 _)

end Go.Proofs.Qxb6605758aFmt
