import Derived.Test.Qxb6605653aBefore
import Derived.Laws.IdiomStrings
namespace Go.Proofs.Qxb6605653a
open Go.RowKit

def aggOf (n : Nat) (v : Option Value) : Bool := match v with
  | some (.agg cs) => cs.size == n
  | _ => false

theorem zero83 : ∃ cs : Array Value, cs.size = 78 ∧ ∀ w, Sem.run Try.prog (zeroValue 83) w = .ok (.agg cs) w := by
  have h : aggOf 78 ((Try.prog.info? 83).bind (fun i => i.zero)) = true := by kernel_rfl
  cases hi : Try.prog.info? 83 with
  | none => rw [hi] at h; cases h
  | some i =>
    rw [hi] at h
    cases hz : i.zero with
    | none => simp [hz, aggOf] at h
    | some v =>
      cases v <;> simp [hz, aggOf] at h
      rename_i cs
      exact ⟨cs, h, fun w => by simp [zeroValue, typeInfo, hi, hz]⟩

set_option maxRecDepth 20000 in
set_option maxHeartbeats 1000000 in
theorem newWalks_any (v : Option Addr) (n c : Nat) (w : World) :
    Calls Try.prog 36 #[.slice v n c] w fun e w' => e = .returned (.pointer (some ⟨w.heap.size, 0, none⟩)) ∧ Below w.heap.size w w' ∧ w.heap.size < w'.heap.size ∧ w'.cell? ⟨w.heap.size, 5, none⟩ = some (.slice v n c) := by
  obtain ⟨cs, hs, hz⟩ := zero83
  have h6 : ¬ cs.size < 6 := by omega
  have HS : Hid (cs.size = 78) := hs
  clear hs
  go_enter Try.func36, Try.ntmps36
  go_wp2
  go_ret
  refine ⟨rfl, (Below.refl _ _).alloc (Nat.le_refl _) _, by simp, ?_⟩
  have e := World.cell?_alloc_mark w (cs.setIfInBounds 5 (.slice v n c)) 83 (0, 0) 5
  refine e.trans ?_
  have := HS.out
  rw [Array.getElem?_setIfInBounds_self]
  rw [if_pos (by omega)]

end Go.Proofs.Qxb6605653a
