import Derived.Test.Qxb6605758aFmtSm
namespace Go.Proofs.Qxb6605758aFmt
open Go.RowKit

/-- The text from off ends at r. -/
def IsEnd (zs : List Int) (off r : Nat) : Prop := off ≤ r ∧ r ≤ zs.length ∧ (∀ k, off ≤ k → k < r → ch zs k ≠ -1) ∧ ch zs r = -1

set_option maxHeartbeats 1000000 in
theorem textEnd_any (ao : Option Addr) (zs : List Int) (cap off : Nat) (w : World) (hz : zs.length ≤ 1048576) (ho : off ≤ zs.length) (h : Runes w ao zs) :
    Calls Tryf.prog 7 #[.slice ao zs.length cap, .int .i64 off] w fun e w' => (∃ r : Nat, e = .returned (.int .i64 r) ∧ IsEnd zs off r) ∧ w' = w := by
  go_enter Tryf.func7, Tryf.ntmps7
  go_wp2
  go_loop [5] (fun i => ∃ k : Nat, off ≤ k ∧ k ≤ zs.length ∧ i = .int .i64 k ∧ ∀ m, off ≤ m → m < k → ch zs m ≠ -1) (fun i => zs.length - (intOf i).toNat)
  case atStart => exact ⟨off, Nat.le_refl _, ho, rfl, fun m h1 h2 => by omega⟩
  case round =>
    obtain ⟨k, hk0, hk, rfl, hm⟩ := hrel
    have HM : Hid (∀ m, off ≤ m → m < k → ch zs m ≠ -1) := hm
    clear hm
    by_cases hlt : k < zs.length
    · obtain ⟨b, o, z, rfl, hz', hc⟩ := h.at hlt
      have HZ : Hid (ch zs k = z) := ch_of hz'
      clear hz' h
      by_cases h1 : z = -1
      · subst h1
        go_wp2
        go_ret
        exact ⟨⟨k, rfl, hk0, hk, HM.out, HZ.out⟩, rfl⟩
      · have e1 : (z == -1) = false := by simp [h1]
        go_wp2
        go_round
        case rel =>
          refine ⟨k + 1, by omega, by omega, by go_num, fun m h2 h3 => ?_⟩
          by_cases hmk : m < k
          · exact HM.out m h2 hmk
          · obtain rfl : m = k := by omega
            rw [HZ.out]; exact h1
        case measure => simp [intOf]; omega
    · have e : k = zs.length := by omega
      subst e
      go_wp2
      go_ret
      exact ⟨⟨zs.length, rfl, ho, Nat.le_refl _, HM.out, ch_past (Nat.le_refl _)⟩, rfl⟩

/-- The first line end from i. -/
def IsNl (zs : List Int) (i en r : Nat) : Prop := i ≤ r ∧ r ≤ en ∧ (∀ k, i ≤ k → k < r → ch zs k ≠ 10) ∧ (r = en ∨ ch zs r = 10)

set_option maxHeartbeats 1000000 in
theorem firstNl_any (ao : Option Addr) (zs : List Int) (cap i en : Nat) (w : World) (hz : zs.length ≤ 1048576) (hi : i ≤ en) (hen : en ≤ zs.length) (h : Runes w ao zs) :
    Calls Tryf.prog 19 #[.slice ao zs.length cap, .int .i64 i, .int .i64 en] w fun e w' => (∃ r : Nat, e = .returned (.int .i64 r) ∧ IsNl zs i en r) ∧ w' = w := by
  go_enter Tryf.func19, Tryf.ntmps19
  go_wp2
  go_loop [7] (fun v => ∃ k : Nat, i ≤ k ∧ k ≤ en ∧ v = .int .i64 k ∧ ∀ m, i ≤ m → m < k → ch zs m ≠ 10) (fun v => en - (intOf v).toNat)
  case atStart => exact ⟨i, Nat.le_refl _, hi, rfl, fun m h1 h2 => by omega⟩
  case round =>
    obtain ⟨k, hk0, hk, rfl, hm⟩ := hrel
    have HM : Hid (∀ m, i ≤ m → m < k → ch zs m ≠ 10) := hm
    clear hm
    by_cases hlt : k < en
    · have hlt' : k < zs.length := by omega
      obtain ⟨b, o, z, rfl, hz', hc⟩ := h.at hlt'
      have HZ : Hid (ch zs k = z) := ch_of hz'
      clear hz' h
      by_cases h1 : z = 10
      · subst h1
        go_wp2
        go_ret
        exact ⟨⟨k, rfl, hk0, hk, HM.out, .inr HZ.out⟩, rfl⟩
      · have e1 : (z == 10) = false := by simp [h1]
        go_wp2
        go_round
        case rel =>
          refine ⟨k + 1, by omega, by omega, by go_num, fun m h2 h3 => ?_⟩
          by_cases hmk : m < k
          · exact HM.out m h2 hmk
          · obtain rfl : m = k := by omega
            rw [HZ.out]; exact h1
        case measure => simp [intOf]; omega
    · have e : k = en := by omega
      subst e
      go_wp2
      go_ret
      exact ⟨⟨k, rfl, hi, Nat.le_refl _, HM.out, .inl rfl⟩, rfl⟩

/-- The first closer from i, or none. -/
def IsCl (zs : List Int) (i en : Nat) (v : Int) : Prop :=
  (∃ j : Nat, v = j ∧ i ≤ j ∧ j + 1 < en ∧ ch zs j = 42 ∧ ch zs (j + 1) = 47 ∧ ∀ k, i ≤ k → k < j → ¬ (ch zs k = 42 ∧ ch zs (k + 1) = 47)) ∨ (v = -1 ∧ ∀ k, i ≤ k → k + 1 < en → ¬ (ch zs k = 42 ∧ ch zs (k + 1) = 47))

set_option maxHeartbeats 1000000 in
theorem firstCl_any (ao : Option Addr) (zs : List Int) (cap i en : Nat) (w : World) (hz : zs.length ≤ 1048576) (hi : i ≤ en) (hen : en ≤ zs.length) (h : Runes w ao zs) :
    Calls Tryf.prog 20 #[.slice ao zs.length cap, .int .i64 i, .int .i64 en] w fun e w' => (∃ v : Int, e = .returned (.int .i64 v) ∧ IsCl zs i en v) ∧ w' = w := by
  go_enter Tryf.func20, Tryf.ntmps20
  go_wp2
  go_loop [7] (fun v => ∃ k : Nat, i ≤ k ∧ k ≤ en ∧ v = .int .i64 k ∧ ∀ m, i ≤ m → m < k → ¬ (ch zs m = 42 ∧ ch zs (m + 1) = 47)) (fun v => en - (intOf v).toNat)
  case atStart => exact ⟨i, Nat.le_refl _, hi, rfl, fun m h1 h2 => by omega⟩
  case round =>
    obtain ⟨k, hk0, hk, rfl, hm⟩ := hrel
    have HM : Hid (∀ m, i ≤ m → m < k → ¬ (ch zs m = 42 ∧ ch zs (m + 1) = 47)) := hm
    clear hm
    have i3 : IntKind.i64.wrap ((k : Int) + 1) = (k : Int) + 1 := by rw [IntKind.wrap_i64]; omega
    by_cases hlt : k + 1 < en
    · have hlt' : k < zs.length := by omega
      have hlt1 : k + 1 < zs.length := by omega
      obtain ⟨b, o, z, ha, hz', hc⟩ := h.at hlt'
      obtain ⟨b', o', d, ha', hd', hc'⟩ := h.at hlt1
      rw [ha] at ha'
      cases ha'
      subst ha
      have HZ : Hid (ch zs k = z) := ch_of hz'
      have HD : Hid (ch zs (k + 1) = d) := ch_of hd'
      clear hz' hd' h
      have i0 : (0 : Int) ≤ (k : Int) + 1 := by omega
      have i1 : (k : Int) + 1 < (zs.length : Int) := by omega
      have i2 : ((k : Int) + 1).toNat = k + 1 := by omega
      have i4 : (k : Int) + 1 < (en : Int) := by omega
      by_cases hcl : z = 42 ∧ d = 47
      · obtain ⟨rfl, rfl⟩ := hcl
        go_wp2
        go_ret
        exact ⟨⟨k, rfl, .inl ⟨k, rfl, hk0, hlt, HZ.out, HD.out, HM.out⟩⟩, rfl⟩
      · have HN : Hid (∃ k' : Nat, i ≤ k' ∧ k' ≤ en ∧ Value.int .i64 ((k : Int) + 1) = .int .i64 k' ∧ ∀ m, i ≤ m → m < k' → ¬ (ch zs m = 42 ∧ ch zs (m + 1) = 47)) := by
          refine ⟨k + 1, by omega, by omega, by simp, fun m h2 h3 => ?_⟩
          by_cases hmk : m < k
          · exact HM.out m h2 hmk
          · obtain rfl : m = k := by omega
            rw [HZ.out, HD.out]; exact hcl
        by_cases h42 : z = 42
        · subst h42
          have e1 : (d == 47) = false := by simp; omega
          go_wp2
          go_round
          case rel => exact HN.out
          case measure => simp [intOf]; omega
        · have e1 : (z == 42) = false := by simp [h42]
          go_wp2
          go_round
          case rel => exact HN.out
          case measure => simp [intOf]; omega
    · have hlt' : ¬ ((k : Int) + 1 < (en : Int)) := by omega
      go_wp2
      go_ret
      exact ⟨⟨-1, rfl, .inr ⟨rfl, fun m h1 h2 => HM.out m h1 (by omega)⟩⟩, rfl⟩

end Go.Proofs.Qxb6605758aFmt
