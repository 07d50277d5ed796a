import Derived.Test.Qxb6605758aFmtSm
namespace Go.Proofs.Qxb6605758aFmt
open Go.RowKit

theorem plT_succ {zs : List Int} {off k : Nat} (h : off ≤ k) (lc : Int × Int) : plT zs off (k + 1) lc = adv (ch zs k) (plT zs off k lc) := plT_add h 1 lc
theorem wrap_in (n : Int) (h : -9223372036854775808 ≤ n ∧ n ≤ 9223372036854775807) : wrap64 n = n := by unfold wrap64; omega

/-- zzPlaceAfter's count, at k. -/
def PInv (zs : List Int) (off k : Nat) (line col nl last : Int) : Prop :=
  (nl = 0 ∧ plT zs off k (line, col) = (line, wrap64 (col + ((k : Int) - off)))) ∨ (0 < nl ∧ nl ≤ k ∧ (off : Int) ≤ last ∧ last < k ∧ plT zs off k (line, col) = (wrap64 (line + nl), k - last))

theorem PInv.start (zs : List Int) (off : Nat) (line col : Int) (hc : -9223372036854775808 ≤ col ∧ col ≤ 9223372036854775807) : PInv zs off off line col 0 (-1) := by
  refine .inl ⟨rfl, ?_⟩
  rw [plT_self, show col + ((off : Int) - off) = col by omega, wrap_in _ hc]

theorem PInv.nl {zs : List Int} {off k : Nat} {line col nl last : Int} (h : PInv zs off k line col nl last) (ho : off ≤ k) (hk : k ≤ 1048576) (hc : ch zs k = 10) : PInv zs off (k + 1) line col (nl + 1) k := by
  right
  rcases h with ⟨rfl, h⟩ | ⟨h0, h1, h2, h3, h⟩
  · refine ⟨by omega, by omega, by omega, by omega, ?_⟩
    rw [plT_succ ho, h, hc]
    simp [adv]
    omega
  · refine ⟨by omega, by omega, by omega, by omega, ?_⟩
    rw [plT_succ ho, h, hc]
    simp [adv]
    unfold wrap64
    omega

theorem PInv.other {zs : List Int} {off k : Nat} {line col nl last : Int} (h : PInv zs off k line col nl last) (ho : off ≤ k) (hk : k ≤ 1048576) (hc : ch zs k ≠ 10) : PInv zs off (k + 1) line col nl last := by
  rcases h with ⟨rfl, h⟩ | ⟨h0, h1, h2, h3, h⟩
  · refine .inl ⟨rfl, ?_⟩
    rw [plT_succ ho, h]
    simp [adv, hc]
    unfold wrap64
    omega
  · refine .inr ⟨h0, by omega, h2, by omega, ?_⟩
    rw [plT_succ ho, h]
    simp [adv, hc]
    unfold wrap64
    omega

set_option maxRecDepth 20000 in
set_option maxHeartbeats 2000000 in
theorem place_any (ao : Option Addr) (zs : List Int) (cap off to : Nat) (line col : Int) (w : World) (hz : zs.length ≤ 1048576) (ho : off ≤ to) (ht : to ≤ zs.length) (hc : -9223372036854775808 ≤ col ∧ col ≤ 9223372036854775807) (h : Runes w ao zs) :
    Calls Tryf.prog 9 #[.slice ao zs.length cap, .int .i64 off, .int .i64 to, .int .i64 line, .int .i64 col] w fun e w' => e = .returned (.tuple #[.int .i64 (plT zs off to (line, col)).1, .int .i64 (plT zs off to (line, col)).2]) ∧ w' = w := by
  go_enter Tryf.func9, Tryf.ntmps9
  go_wp2_with fail
  go_loop [12, 13, 14] (fun vn vl vk => ∃ (nl last : Int) (k : Nat), off ≤ k ∧ k ≤ to ∧ vn = .int .i64 nl ∧ vl = .int .i64 last ∧ vk = .int .i64 k ∧ PInv zs off k line col nl last ∧ 0 ≤ nl ∧ nl ≤ k) (fun _ _ vk => to - (intOf vk).toNat)
  case atStart => exact ⟨0, -1, off, Nat.le_refl _, ho, rfl, rfl, rfl, PInv.start zs off line col hc, by omega, by omega⟩
  case round =>
    obtain ⟨nl, last, k, hk0, hk, rfl, rfl, rfl, hI, hn0, hn1⟩ := hrel
    have HI : Hid (PInv zs off k line col nl last) := hI
    clear hI
    by_cases hlt : k < to
    · have hlt' : k < zs.length := by omega
      obtain ⟨b, o, z, rfl, hz', hcc⟩ := h.at hlt'
      have HZ : Hid (ch zs k = z) := ch_of hz'
      clear hz' h
      by_cases h1 : z = 10
      · subst h1
        have i3 : IntKind.i64.wrap (nl + 1) = nl + 1 := by rw [IntKind.wrap_i64]; omega
        have HN : Hid (PInv zs off (k + 1) line col (nl + 1) k) := HI.out.nl hk0 (by omega) HZ.out
        go_wp2_with fail
        go_round
        case rel => exact ⟨nl + 1, k, k + 1, by omega, by omega, rfl, rfl, by go_num, HN.out, by omega, by omega⟩
        case measure => simp [intOf]; omega
      · have e1 : (z == 10) = false := by simp [h1]
        have HN : Hid (PInv zs off (k + 1) line col nl last) := HI.out.other hk0 (by omega) (by rw [HZ.out]; exact h1)
        go_wp2_with fail
        go_round
        case rel => exact ⟨nl, last, k + 1, by omega, by omega, rfl, rfl, by go_num, HN.out, by omega, by omega⟩
        case measure => simp [intOf]; omega
    · have e : k = to := by omega
      subst e
      by_cases h0 : nl = 0
      · subst h0
        have HP : Hid (plT zs off k (line, col) = (line, wrap64 (col + ((k : Int) - off)))) := by
          rcases HI.out with ⟨_, h⟩ | ⟨h, _⟩
          · exact h
          · omega
        have i3 : IntKind.i64.wrap ((k : Int) - off) = (k : Int) - off := by rw [IntKind.wrap_i64]; omega
        go_wp2
        go_ret2
        rw [HP.out]
        exact ⟨rfl, rfl⟩
      · have HP : Hid (plT zs off k (line, col) = (wrap64 (line + nl), k - last)) := by
          rcases HI.out with ⟨h, _⟩ | ⟨_, _, _, _, h⟩
          · exact absurd h h0
          · exact h
        have i3 : IntKind.i64.wrap ((k : Int) - last) = (k : Int) - last := by
          rcases HI.out with ⟨h, _⟩ | ⟨_, _, h2, h3, _⟩
          · exact absurd h h0
          · rw [IntKind.wrap_i64]; omega
        have e0 : (nl == 0) = false := by simp [h0]
        go_wp2
        go_ret2
        rw [HP.out]
        exact ⟨rfl, rfl⟩

end Go.Proofs.Qxb6605758aFmt
