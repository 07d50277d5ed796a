import Derived.Test.Qxb6605653aPre
namespace Go.Proofs.Qxb6605653a
open Go.RowKit

/-- No byte of l is a dollar or an opening bracket. -/
def Tame (l : List UInt8) : Prop := ∀ c ∈ l, c.toNat ≠ 36 ∧ c.toNat ≠ 40

theorem tame_step (s : ByteArray) (k : Nat) (h : k < s.size) (ht : Tame (s.data.toList.take k)) (h1 : (s[k].toNat : Int) ≠ 36) (h2 : (s[k].toNat : Int) ≠ 40) : Tame (s.data.toList.take (k + 1)) := by
  intro c hc
  have e : s.data.toList.take (k + 1) = s.data.toList.take k ++ [s[k]] := by
    rw [List.take_succ_eq_append_getElem (by simpa using h)]; rfl
  rw [e, List.mem_append] at hc
  rcases hc with hc | hc
  · exact ht c hc
  · simp at hc
    subst hc
    omega

/-- What isPlainWord answers, as far as it is used. -/
def WordPost (s : ByteArray) (e : Ending) : Prop := e = .returned (.bool false) ∨ (e = .returned (.bool true) ∧ Tame s.data.toList)

set_option maxHeartbeats 1000000 in
theorem isPlainWord_any (s : ByteArray) (w : World) (hs : s.size ≤ 4000000) :
    Calls Try.prog 32 #[.string s] w fun e w' => WordPost s e ∧ w' = w := by
  go_enter Try.func32, Try.ntmps32
  go_wp2
  go_loop [3] (fun i => ∃ k : Nat, k ≤ s.size ∧ i = .int .i64 k ∧ Tame (s.data.toList.take k)) (fun i => s.size - (intOf i).toNat)
  case atStart => exact ⟨0, Nat.zero_le _, rfl, by intro c hc; simp at hc⟩
  case round =>
    obtain ⟨k, hk, rfl, ht⟩ := hrel
    by_cases hlt : k < s.size
    · by_cases hA : (s[k].toNat : Int) = 36
      · go_wp2
        go_ret
        exact ⟨.inl rfl, rfl⟩
      · by_cases hB : (s[k].toNat : Int) = 40
        · go_wp2
          go_ret
          exact ⟨.inl rfl, rfl⟩
        · have HT : Hid (Tame (s.data.toList.take (k + 1))) := tame_step s k hlt ht hA hB
          clear ht hA hB
          go_wp2
          all_goals first
            | (go_ret; exact ⟨.inl rfl, rfl⟩)
            | (go_round
               case rel => exact ⟨k + 1, by omega, by go_num, HT.out⟩
               case measure => simp [intOf]; omega)
    · have ht' : Tame s.data.toList := by rw [List.take_of_length_le (by simp; omega)] at ht; exact ht
      clear ht
      go_wp2
      go_ret
      exact ⟨.inr ⟨rfl, ht'⟩, rfl⟩

end Go.Proofs.Qxb6605653a
