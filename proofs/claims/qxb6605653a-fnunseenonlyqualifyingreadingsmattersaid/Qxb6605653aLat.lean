import Derived.Test.Qxb6605653aSlc
namespace Go.Proofs.Qxb6605653a
open Go.RowKit

/-- The readings xs lie from off on in block b, six cells each. -/
def PlainAt (w : World) (b off : Nat) (xs : List Rd) : Prop := ∀ (k : Nat) (r : Rd), xs[k]? = some r →
  w.cell? ⟨b, off + k * 6, none⟩ = some (.int .i64 r.q) ∧ w.cell? ⟨b, off + k * 6 + 1, none⟩ = some (.int .i64 r.o) ∧ w.cell? ⟨b, off + k * 6 + 2, none⟩ = some (.int .i64 r.x) ∧
  w.cell? ⟨b, off + k * 6 + 3, none⟩ = some (.int .i64 r.b) ∧ w.cell? ⟨b, off + k * 6 + 4, none⟩ = some (.int .i64 r.l) ∧ w.cell? ⟨b, off + k * 6 + 5, none⟩ = some (.int .i64 r.a)

/-- The address ao leads to the readings xs. -/
def Rds (w : World) (ao : Option Addr) (xs : List Rd) : Prop := xs = [] ∨ ∃ b off, ao = some ⟨b, off, none⟩ ∧ PlainAt w b off xs

theorem Rds.keep {w w' : World} {ao : Option Addr} {xs : List Rd} (h : Rds w ao xs) (hb : Below w.heap.size w w') : Rds w' ao xs := by
  rcases h with h | ⟨b, off, ha, h⟩
  · exact .inl h
  refine .inr ⟨b, off, ha, fun k r hr => ?_⟩
  obtain ⟨h0, h1, h2, h3, h4, h5⟩ := h k r hr
  have hs : b < w.heap.size := World.block_lt_of_cell? _ _ h0
  have kk : ∀ o, w'.cell? ⟨b, o, none⟩ = w.cell? ⟨b, o, none⟩ := fun o => hb.cell (p := ⟨b, o, none⟩) hs
  exact ⟨(kk _).trans h0, (kk _).trans h1, (kk _).trans h2, (kk _).trans h3, (kk _).trans h4, (kk _).trans h5⟩

theorem Rds.at {w : World} {ao : Option Addr} {xs : List Rd} (h : Rds w ao xs) {k : Nat} (hk : k < xs.length) : ∃ b off r, ao = some ⟨b, off, none⟩ ∧ xs[k]? = some r ∧
    w.cell? ⟨b, off + k * 6, none⟩ = some (.int .i64 r.q) ∧ w.cell? ⟨b, off + k * 6 + 1, none⟩ = some (.int .i64 r.o) ∧ w.cell? ⟨b, off + k * 6 + 2, none⟩ = some (.int .i64 r.x) ∧
    w.cell? ⟨b, off + k * 6 + 3, none⟩ = some (.int .i64 r.b) ∧ w.cell? ⟨b, off + k * 6 + 4, none⟩ = some (.int .i64 r.l) ∧ w.cell? ⟨b, off + k * 6 + 5, none⟩ = some (.int .i64 r.a) := by
  rcases h with rfl | ⟨b, off, ha, h⟩
  · exact absurd hk (by simp)
  exact ⟨b, off, xs[k], ha, List.getElem?_eq_getElem hk, h k xs[k] (List.getElem?_eq_getElem hk)⟩

/-- The latest of the first k readings whose number is no higher than o; -1: none. -/
def lat (xs : List Rd) (o : Int) : Nat → Int
  | 0 => -1
  | k + 1 => match xs[k]? with
    | some r => if r.x ≤ o then (k : Int) else lat xs o k
    | none => lat xs o k

theorem lat_yes {xs : List Rd} {o : Int} {k : Nat} {r : Rd} (hr : xs[k]? = some r) (h : r.x ≤ o) : lat xs o (k + 1) = k := by simp [lat, hr, h]
theorem lat_no {xs : List Rd} {o : Int} {k : Nat} {r : Rd} (hr : xs[k]? = some r) (h : ¬ r.x ≤ o) : lat xs o (k + 1) = lat xs o k := by simp [lat, hr, h]
theorem lat_bd (xs : List Rd) (o : Int) : ∀ k, -1 ≤ lat xs o k ∧ lat xs o k < k
  | 0 => by simp [lat]
  | k + 1 => by
    have := lat_bd xs o k
    unfold lat
    split
    · split <;> omega
    · omega

set_option maxHeartbeats 400000 in
theorem latest_any (ao : Option Addr) (xs : List Rd) (cap : Nat) (o : Int) (w : World) (hn : xs.length ≤ 1048576) (h : Rds w ao xs) :
    Calls Try.prog 21 #[.slice ao xs.length cap, .int .i64 o] w fun e w' => e = .returned (.int .i64 (lat xs o xs.length)) ∧ w' = w := by
  go_enter Try.func21, Try.ntmps21
  go_wp2
  go_loop [5, 6] (fun kk i => ∃ k : Nat, k ≤ xs.length ∧ i = .int .i64 k ∧ kk = .int .i64 (lat xs o k)) (fun _ i => xs.length - (intOf i).toNat)
  case atStart => exact ⟨0, Nat.zero_le _, rfl, rfl⟩
  case round =>
    obtain ⟨k, hk, rfl, rfl⟩ := hrel
    by_cases hlt : k < xs.length
    · obtain ⟨b, off, r, rfl, hr, _, _, hc, _⟩ := h.at hlt
      have HR : Hid (xs[k]? = some r) := hr
      clear hr h
      by_cases hx : r.x ≤ o
      · go_wp2
        go_round
        case rel => exact ⟨k + 1, by omega, by go_num, by rw [lat_yes HR.out hx]⟩
        case measure => simp [intOf]; omega
      · go_wp2
        go_round
        case rel => exact ⟨k + 1, by omega, by go_num, by rw [lat_no HR.out hx]⟩
        case measure => simp [intOf]; omega
    · have e : k = xs.length := by omega
      subst e
      go_wp2
      go_ret
      exact ⟨rfl, rfl⟩

/-- Began rises strictly, and walkSlack can be taken from each. -/
def Dom (xs : List Rd) : Nat → Prop
  | 0 => True
  | k + 1 => Dom xs k ∧ ∀ r, xs[k]? = some r → -9223372035854775808 ≤ r.b

/-- What readingsInDomain answers, as far as it is used. -/
def DomPost (xs : List Rd) (e : Ending) : Prop := e = .returned (.bool false) ∨ (e = .returned (.bool true) ∧ Dom xs xs.length)

set_option maxHeartbeats 1000000 in
theorem inDomain_any (ao : Option Addr) (xs : List Rd) (cap : Nat) (w : World) (hn : xs.length ≤ 1048576) (h : Rds w ao xs) :
    Calls Try.prog 16 #[.slice ao xs.length cap] w fun e w' => DomPost xs e ∧ ∃ n, w' = w.drewN n := by
  go_enter Try.func16, Try.ntmps16
  go_wp2
  go_loopw [3] (fun i wr => ∃ k : Nat, k ≤ xs.length ∧ i = .int .i64 k ∧ Dom xs k ∧ ∃ n, wr = w.drewN n) (fun i _ => xs.length - (intOf i).toNat)
  case atStart => exact ⟨0, Nat.zero_le _, rfl, trivial, 0, rfl⟩
  case round =>
    obtain ⟨k, hk, rfl, hd, n, rfl⟩ := hrel
    by_cases hlt : k < xs.length
    · obtain ⟨b, off, r, ha, hr, _, _, _, hc, _⟩ := h.at hlt
      by_cases hb : r.b < -9223372035854775808
      · subst ha
        go_wp2
        go_ret
        exact ⟨.inl rfl, n, rfl⟩
      · have HD : Hid (Dom xs (k + 1)) := ⟨hd, fun r' hr' => by rw [hr] at hr'; cases hr'; omega⟩
        clear hd
        by_cases hk0 : 0 < k
        · obtain ⟨b', off', r', ha', hr', _, _, _, hc', _⟩ := h.at (show k - 1 < xs.length by omega)
          rw [ha] at ha'
          cases ha'
          subst ha
          clear hr hr' h
          have hk1 : (0 : Int) < (k : Int) := by omega
          have i0 : (0 : Int) ≤ (k : Int) - 1 := by omega
          have i1 : (k : Int) - 1 < (xs.length : Int) := by omega
          have i2 : ((k : Int) - 1).toNat = k - 1 := by omega
          have i3 : IntKind.i64.wrap ((k : Int) - 1) = (k : Int) - 1 := by rw [IntKind.wrap_i64]; omega
          go_wp2_with fail
          go_quiet (fail)
          go_wp2
          · go_ret
            exact ⟨.inl rfl, n + nq, World.drewN_drewN _ _ _⟩
          · go_roundw
            case rel => exact ⟨k + 1, by omega, by go_num, HD.out, n + nq, rfl⟩
            case measure => simp [intOf]; omega
        · have hk1 : decide ((0 : Int) < (k : Int)) = false := by simp; omega
          subst ha
          clear hr h
          go_wp2_with fail
          go_quiet (fail)
          go_wp2
          go_roundw
          case rel => exact ⟨k + 1, by omega, by go_num, HD.out, n + nq, rfl⟩
          case measure => simp [intOf]; omega
    · have e : k = xs.length := by omega
      subst e
      go_wp2
      go_ret
      exact ⟨.inr ⟨rfl, hd⟩, n, rfl⟩

end Go.Proofs.Qxb6605653a
