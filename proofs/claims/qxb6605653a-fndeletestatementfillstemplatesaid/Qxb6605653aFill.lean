import Derived.Test.Qxb6605653aPre
import Derived.Test.Qxb6605653aText
import Derived.Lib.AppendStr
import Derived.Laws.IdiomStrings
namespace Go.Proofs.Qxb6605653a
open Go.RowKit

/-- Bytes as cells. -/
def bc (l : List UInt8) : List Value := l.map fun b => Value.int .u8 (b.toNat : Int)

/-- What fillTemplate writes for the rest of the base, with fuel. -/
def fillL (st : List UInt8) (typed : Bool) : Nat → List UInt8 → List UInt8
  | _, [] => []
  | 0, _ :: _ => []
  | n + 1, c :: l => if Txt.doomA.isPrefixOf (c :: l) then Txt.doomA ++ (st ++ fillL st typed n ((c :: l).drop 11))
      else if typed && Txt.cutoff.isPrefixOf (c :: l) then Txt.cutoff ++ (Txt.typ ++ fillL st typed n ((c :: l).drop 19))
      else c :: fillL st typed n l

theorem Try.info5 : (Try.prog.info? 5).map (fun i => (i.zero, i.size, i.bytes)) = some (some (.int .u8 0), 1, 1) := by kernel_rfl

def preA (s : ByteArray) (k : Nat) : Bool := Txt.doomA.isPrefixOf (s.data.toList.drop k)
def preC (s : ByteArray) (k : Nat) : Bool := Txt.cutoff.isPrefixOf (s.data.toList.drop k)

theorem hasA (s : ByteArray) (k : Nat) (w : World) (hs : s.size ≤ 4000000) (hk : k ≤ s.size) :
    Calls Try.prog 41 #[.string s, .int .i64 k, .string ⟨#[106, 46, 115, 116, 97, 116, 101, 32, 61, 32, 39]⟩] w fun e w' => e = .returned (.bool (preA s k)) ∧ ∃ n, w' = w.drewN n := by
  have h := hasPrefixAt_any s ⟨#[106, 46, 115, 116, 97, 116, 101, 32, 61, 32, 39]⟩ k w hs (by show 11 ≤ 4000000; omega) hk
  rw [preB_zero] at h
  exact h
theorem hasC (s : ByteArray) (k : Nat) (w : World) (hs : s.size ≤ 4000000) (hk : k ≤ s.size) :
    Calls Try.prog 41 #[.string s, .int .i64 k, .string ⟨#[106, 46, 99, 111, 109, 112, 108, 101, 116, 101, 100, 95, 97, 116, 32, 60, 32, 36, 49]⟩] w fun e w' => e = .returned (.bool (preC s k)) ∧ ∃ n, w' = w.drewN n := by
  have h := hasPrefixAt_any s ⟨#[106, 46, 99, 111, 109, 112, 108, 101, 116, 101, 100, 95, 97, 116, 32, 60, 32, 36, 49]⟩ k w hs (by show 19 ≤ 4000000; omega) hk
  rw [preB_zero] at h
  exact h

theorem preA_len (s : ByteArray) (k : Nat) (h : preA s k = true) : k + 11 ≤ s.size := by
  unfold preA at h
  rw [List.isPrefixOf_iff_prefix] at h
  have := h.length_le
  simp [show Txt.doomA.length = 11 from rfl] at this
  omega
theorem preC_len (s : ByteArray) (k : Nat) (h : preC s k = true) : k + 19 ≤ s.size := by
  unfold preC at h
  rw [List.isPrefixOf_iff_prefix] at h
  have := h.length_le
  simp [show Txt.cutoff.length = 19 from rfl] at this
  omega

theorem fill_A (s : ByteArray) (k f : Nat) (st : List UInt8) (ty : Bool) (hk : k < s.size) (h : preA s k = true) :
    fillL st ty (f + 1) (s.data.toList.drop k) = Txt.doomA ++ (st ++ fillL st ty f (s.data.toList.drop (k + 11))) := by
  unfold preA at h
  have e : s.data.toList.drop (k + 11) = (s.data.toList.drop k).drop 11 := by rw [List.drop_drop]
  rw [e]
  rw [drop_ba s k hk] at h ⊢
  rw [fillL, if_pos h]
theorem fill_C (s : ByteArray) (k f : Nat) (st : List UInt8) (hk : k < s.size) (hA : preA s k = false) (h : preC s k = true) :
    fillL st true (f + 1) (s.data.toList.drop k) = Txt.cutoff ++ (Txt.typ ++ fillL st true f (s.data.toList.drop (k + 19))) := by
  unfold preA at hA
  unfold preC at h
  have e : s.data.toList.drop (k + 19) = (s.data.toList.drop k).drop 19 := by rw [List.drop_drop]
  rw [e]
  rw [drop_ba s k hk] at h hA ⊢
  rw [fillL, if_neg (by rw [hA]; decide), if_pos (by rw [h]; rfl)]
theorem fill_N (s : ByteArray) (k f : Nat) (st : List UInt8) (ty : Bool) (hk : k < s.size) (hA : preA s k = false) (h : (ty && preC s k) = false) :
    fillL st ty (f + 1) (s.data.toList.drop k) = s[k] :: fillL st ty f (s.data.toList.drop (k + 1)) := by
  unfold preA at hA
  unfold preC at h
  rw [drop_ba s k hk] at h hA ⊢
  rw [fillL, if_neg (by rw [hA]; decide), if_neg (by rw [h]; decide)]

theorem bc_append (a b : List UInt8) : bc (a ++ b) = bc a ++ bc b := List.map_append

/-- The value v holds the bytes acc in memory of the call's own; nothing old has turned since w0. -/
def OutIs (w0 W : World) (v : Value) (acc : List UInt8) : Prop := W.ownsRow w0.heap.size 5 1 v acc.length (bc acc) ∧ v ≠ .slice none 0 0 ∧ Below w0.heap.size w0 W

theorem OutIs.drewN {w0 W : World} {v : Value} {acc : List UInt8} (h : OutIs w0 W v acc) (n : Nat) : OutIs w0 (W.drewN n) v acc := ⟨h.1, h.2.1, below_drewN h.2.2 n⟩
theorem OutIs.alloc {w0 W : World} {v : Value} {acc : List UInt8} (h : OutIs w0 W v acc) (o : Obj) : OutIs w0 (W.alloc o) v acc := ⟨h.1.alloc o, h.2.1, h.2.2.alloc h.2.2.size o⟩
theorem OutIs.size {w0 W : World} {v : Value} {acc : List UInt8} (h : OutIs w0 W v acc) : w0.heap.size ≤ W.heap.size := h.2.2.size

theorem OutIs.app_str {w0 w : World} {ops : Array Oper} {rest : List Oper} {o : Oper} {a : Act} {Q : Exit → Act → World → Prop} {v : Value} {acc : List UInt8} (hO : OutIs w0 w v acc) (hgd : o.guard = none) (sl x : Operand)
    (ho : o.op = .call { callee := .builtin .append, args := #[sl, x], argTypes := #[55, 9] }) (hs : a.eval sl = v) (s : ByteArray) (l : List UInt8) (hl : s.data.toList = l) (hx : a.eval x = .string s) (hb : acc.length + s.size ≤ 140737488355328)
    (h : ∀ v' w', OutIs w0 w' v' (acc ++ l) → wpList Try.prog ops Q rest (a.put o.dst v') w') : wpList Try.prog ops Q (o :: rest) a w := by
  obtain ⟨i0, hi, hz0, hz1, hz2⟩ := info_parts Try.info5
  refine Lib.wpList_append_own_string w hgd sl x 55 9 ho w0.heap.size 5 i0 Try.underlying55 Try.underlying9 hi hz0 hz1 hz2 v _ _ hs hO.1 s hx (by unfold maxLen; omega) hb hO.size ?_
  intro v' w' h1 h2 h3
  refine h v' w' ⟨?_, fun e => hO.2.1 (h3.1 e).1, hO.2.2.grown h2 hO.size (fun k hk => (hO.1.lt k hk).1)⟩
  subst hl
  rw [bc_append, List.length_append]
  exact h1

theorem OutIs.app_one {w0 w : World} {ops : Array Oper} {rest : List Oper} {o : Oper} {a : Act} {Q : Exit → Act → World → Prop} {v : Value} {acc : List UInt8} (hO : OutIs w0 w v acc) (hgd : o.guard = none) (sl x : Operand)
    (ho : o.op = .call { callee := .builtin .append, args := #[sl, x], argTypes := #[55, 55] }) (hs : a.eval sl = v) (ad : Addr) (c : UInt8) (hx : a.eval x = .slice (some ad) 1 1) (had : w.cell? ad = some (.int .u8 (c.toNat : Int))) (hb : acc.length + 1 ≤ 140737488355328)
    (h : ∀ v' w', OutIs w0 w' v' (acc ++ [c]) → wpList Try.prog ops Q rest (a.put o.dst v') w') : wpList Try.prog ops Q (o :: rest) a w := by
  obtain ⟨i0, hi, hz0, hz1, hz2⟩ := info_parts Try.info5
  refine wpList_append_own w hgd sl x 55 ho w0.heap.size 5 i0 (.int .u8 0) 1 1 Try.underlying55 hi hz0 hz1 hz2 rfl (by decide) v _ _ hs hO.1 ad 1 1 [.int .u8 (c.toNat : Int)] hx rfl ?_ ?_ (by unfold maxLen; omega) (by omega) hO.size ?_
  · intro j u hj
    match j, hj with
    | 0, hj => simp at hj; subst hj; exact had
  · intro u hu; simp at hu; subst hu; rfl
  intro v' w' h1 h2 h3
  refine h v' w' ⟨?_, fun e => hO.2.1 (h3.1 e).1, hO.2.2.grown h2 hO.size (fun k hk => (hO.1.lt k hk).1)⟩
  rw [bc_append, List.length_append]
  exact h1

theorem OutIs.convert {w0 w : World} {v : Value} {acc : List UInt8} (hO : OutIs w0 w v acc) : (convert 55 9 v).run Try.prog w = .ok (.string ⟨acc.toArray⟩) w := by
  rcases hO.1.2 with ⟨hv, _⟩ | ⟨g, cap, cur, hv, _⟩
  · exact absurd hv hO.2.1
  · subst hv
    refine run_convert_bytes_back w 55 9 5 _ cap acc Try.underlying55 Try.underlying5 Try.underlying9 ?_
    intro j hj
    refine hO.1.cells (g := g) rfl j _ ?_
    simp [bc, hj]

theorem new_at (wr : World) (n : Nat) (v : Value) (t : TypeId) : ((wr.drewN n).alloc (.cells #[v] t)).cell? ⟨wr.heap.size, 0, none⟩ = some v := by
  exact World.cell?_alloc_mark (wr.drewN n) #[v] t (0, 0) 0

theorem step_A (s : ByteArray) (k f : Nat) (acc st T : List UInt8) (ty : Bool) (hk : k < s.size) (h : preA s k = true) (ht : acc ++ fillL st ty (f + 1) (s.data.toList.drop k) = T) : acc ++ Txt.doomA ++ st ++ fillL st ty f (s.data.toList.drop (k + 11)) = T := by
  rw [fill_A s k f st ty hk h] at ht
  simpa using ht
theorem step_C (s : ByteArray) (k f : Nat) (acc st T : List UInt8) (hk : k < s.size) (hA : preA s k = false) (h : preC s k = true) (ht : acc ++ fillL st true (f + 1) (s.data.toList.drop k) = T) : acc ++ Txt.cutoff ++ Txt.typ ++ fillL st true f (s.data.toList.drop (k + 19)) = T := by
  rw [fill_C s k f st hk hA h] at ht
  simpa using ht
theorem step_N (s : ByteArray) (k f : Nat) (acc st T : List UInt8) (ty : Bool) (hk : k < s.size) (hA : preA s k = false) (h : (ty && preC s k) = false) (ht : acc ++ fillL st ty (f + 1) (s.data.toList.drop k) = T) : acc ++ [s[k]] ++ fillL st ty f (s.data.toList.drop (k + 1)) = T := by
  rw [fill_N s k f st ty hk hA h] at ht
  simpa using ht

set_option maxRecDepth 20000 in
set_option maxHeartbeats 1000000 in
theorem fill_F (base st : ByteArray) (w : World) (hb : base.size ≤ 4000000) (hs : st.size ≤ 1048576) :
    Calls Try.prog 30 #[.string base, .string st, .bool false] w fun e w' => (∃ g : ByteArray, e = .returned (.string g) ∧ g.data.toList = fillL st.data.toList false base.size base.data.toList) ∧ Below w.heap.size w w' := by
  obtain ⟨i0, hi, hz0, hz1, hz2⟩ := info_parts Try.info5
  go_enter Try.func30, Try.ntmps30
  go_wp2_with (at_make; refine wpList_make_own _ rfl _ _ 55 rfl w.heap.size 5 i0 (.int .u8 0) 1 Try.underlying55 hi hz0 hz1 .i64 .i64 _ (base.size + 2 * st.size + 40) rfl rfl (by simp) (by rw [hz2]; omega) (by unfold maxLen; omega) (Nat.le_refl _) ?_; intro w1 hown hgr)
  have hb1 : Below w.heap.size w w1 := (Below.refl _ _).grown hgr (Nat.le_refl _) (fun k h => by cases h)
  clear hgr
  go_loopw [7, 8] (fun v i wr => ∃ (k f : Nat) (acc : List UInt8), k ≤ base.size ∧ i = .int .i64 k ∧ OutIs w wr v acc ∧ base.size ≤ k + f ∧
      acc.length ≤ k * 1048700 ∧ acc ++ fillL st.data.toList false f (base.data.toList.drop k) = fillL st.data.toList false base.size base.data.toList) (fun _ i _ => base.size - (intOf i).toNat)
  case atStart => exact ⟨0, base.size, [], Nat.zero_le _, rfl, ⟨hown, by simp, hb1⟩, by omega, by simp, by simp⟩
  case round =>
    obtain ⟨k, f0, acc, hk, rfl, hO, hf, hacc, htot⟩ := hrel
    clear hown hb1 hi hz0 hz1 hz2
    by_cases hlt : k < base.size
    · obtain ⟨f, rfl⟩ : ∃ f, f0 = f + 1 := ⟨f0 - 1, by omega⟩
      have HT : Hid (acc ++ fillL st.data.toList false (f + 1) (base.data.toList.drop k) = fillL st.data.toList false base.size base.data.toList) := htot
      clear htot
      go_wp2_with fail
      refine (hasA base k _ hb (by omega)).mono ?_
      rintro e w2 ⟨rfl, nq, rfl⟩
      cases hA : preA base k
      · have HA : Hid (preA base k = false) := hA
        clear hA
        go_wp2_with (at_builtin; refine OutIs.app_one ((hO.alloc _).drewN _) rfl (.tmp 43) _ rfl rfl ⟨wr.heap.size, 0, none⟩ base[k] rfl ?ha ?hb ?_; rotate_right; intro v1 w3 hO1)
        case ha => exact new_at wr _ _ _
        case hb => omega
        go_roundw
        case rel => exact ⟨k + 1, f, acc ++ [base[k]], by omega, by go_num, hO1, by omega, by simp; omega, step_N base k f acc _ _ false hlt HA.out (by simp) HT.out⟩
        case measure => simp [intOf]; omega
      · have hk11 := preA_len base k hA
        have HA : Hid (preA base k = true) := hA
        clear hA
        have hq := hO.drewN nq
        have tok1 : True := trivial
        go_wp2_with (first | (at_builtin; have _t := tok1; refine OutIs.app_str hq rfl (.tmp 24) _ rfl rfl ⟨#[106, 46, 115, 116, 97, 116, 101, 32, 61, 32, 39]⟩ Txt.doomA rfl rfl (by show acc.length + 11 ≤ _; omega) ?_; intro v1 w3 hO1; clear tok1) | (at_builtin; refine OutIs.app_str hO1 rfl (.tmp 26) _ rfl rfl st st.data.toList rfl rfl (by rw [List.length_append]; show acc.length + 11 + _ ≤ _; omega) ?_; intro v2 w4 hO2))
        go_roundw
        case rel => exact ⟨k + 11, f, acc ++ Txt.doomA ++ st.data.toList, by omega, by go_num, hO2, by omega, by simp [show Txt.doomA.length = 11 from rfl]; omega, step_A base k f acc _ _ false hlt HA.out HT.out⟩
        case measure => simp [intOf]; omega
    · have hcv := hO.convert
      have htot' : acc = fillL st.data.toList false base.size base.data.toList := by
        rw [← htot, List.drop_eq_nil_of_le (by simp; omega)]
        cases f0 <;> simp [fillL]
      clear htot
      have HT : Hid (acc = fillL st.data.toList false base.size base.data.toList) := htot'
      clear htot'
      go_wp2_with fail
      go_ret
      exact ⟨⟨_, rfl, HT.out⟩, hO.2.2⟩

set_option maxRecDepth 20000 in
set_option maxHeartbeats 1000000 in
theorem fill_T (base st : ByteArray) (w : World) (hb : base.size ≤ 4000000) (hs : st.size ≤ 1048576) :
    Calls Try.prog 30 #[.string base, .string st, .bool true] w fun e w' => (∃ g : ByteArray, e = .returned (.string g) ∧ g.data.toList = fillL st.data.toList true base.size base.data.toList) ∧ Below w.heap.size w w' := by
  obtain ⟨i0, hi, hz0, hz1, hz2⟩ := info_parts Try.info5
  go_enter Try.func30, Try.ntmps30
  go_wp2_with (at_make; refine wpList_make_own _ rfl _ _ 55 rfl w.heap.size 5 i0 (.int .u8 0) 1 Try.underlying55 hi hz0 hz1 .i64 .i64 _ (base.size + 2 * st.size + 40) rfl rfl (by simp) (by rw [hz2]; omega) (by unfold maxLen; omega) (Nat.le_refl _) ?_; intro w1 hown hgr)
  have hb1 : Below w.heap.size w w1 := (Below.refl _ _).grown hgr (Nat.le_refl _) (fun k h => by cases h)
  clear hgr
  go_loopw [7, 8] (fun v i wr => ∃ (k f : Nat) (acc : List UInt8), k ≤ base.size ∧ i = .int .i64 k ∧ OutIs w wr v acc ∧ base.size ≤ k + f ∧
      acc.length ≤ k * 1048700 ∧ acc ++ fillL st.data.toList true f (base.data.toList.drop k) = fillL st.data.toList true base.size base.data.toList) (fun _ i _ => base.size - (intOf i).toNat)
  case atStart => exact ⟨0, base.size, [], Nat.zero_le _, rfl, ⟨hown, by simp, hb1⟩, by omega, by simp, by simp⟩
  case round =>
    obtain ⟨k, f0, acc, hk, rfl, hO, hf, hacc, htot⟩ := hrel
    clear hown hb1 hi hz0 hz1 hz2
    by_cases hlt : k < base.size
    · obtain ⟨f, rfl⟩ : ∃ f, f0 = f + 1 := ⟨f0 - 1, by omega⟩
      have HT : Hid (acc ++ fillL st.data.toList true (f + 1) (base.data.toList.drop k) = fillL st.data.toList true base.size base.data.toList) := htot
      clear htot
      go_wp2_with fail
      refine (hasA base k _ hb (by omega)).mono ?_
      rintro e w2 ⟨rfl, nq, rfl⟩
      cases hA : preA base k
      · have HA : Hid (preA base k = false) := hA
        clear hA
        go_wp2_with fail
        refine (hasC base k _ hb (by omega)).mono ?_
        rintro e w2 ⟨rfl, nq2, rfl⟩
        cases hC : preC base k
        · have HC : Hid (preC base k = false) := hC
          clear hC
          go_wp2_with (at_builtin; refine OutIs.app_one ((hO.alloc _).drewN _) rfl (.tmp 43) _ rfl rfl ⟨wr.heap.size, 0, none⟩ base[k] rfl ?ha ?hb ?_; rotate_right; intro v1 w3 hO1)
          case ha => exact new_at wr _ _ _
          case hb => omega
          go_roundw
          case rel => exact ⟨k + 1, f, acc ++ [base[k]], by omega, by go_num, hO1, by omega, by simp; omega, step_N base k f acc _ _ true hlt HA.out (by rw [HC.out]; rfl) HT.out⟩
          case measure => simp [intOf]; omega
        · have hk19 := preC_len base k hC
          have HC : Hid (preC base k = true) := hC
          clear hC
          have hq := hO.drewN (nq + nq2)
          have tok1 : True := trivial
          go_wp2_with (first | (at_builtin; have _t := tok1; refine OutIs.app_str hq rfl (.tmp 37) _ rfl rfl ⟨#[106, 46, 99, 111, 109, 112, 108, 101, 116, 101, 100, 95, 97, 116, 32, 60, 32, 36, 49]⟩ Txt.cutoff rfl rfl (by show acc.length + 19 ≤ _; omega) ?_; intro v1 w3 hO1; clear tok1) | (at_builtin; refine OutIs.app_str hO1 rfl (.tmp 39) _ rfl rfl ⟨#[32, 65, 78, 68, 32, 106, 46, 106, 111, 98, 95, 116, 121, 112, 101, 32, 61, 32, 36, 54]⟩ Txt.typ rfl rfl (by rw [List.length_append]; show acc.length + 19 + 20 ≤ _; omega) ?_; intro v2 w4 hO2))
          go_roundw
          case rel => exact ⟨k + 19, f, acc ++ Txt.cutoff ++ Txt.typ, by omega, by go_num, hO2, by omega, by simp [show Txt.cutoff.length = 19 from rfl, show Txt.typ.length = 20 from rfl]; omega, step_C base k f acc _ _ hlt HA.out HC.out HT.out⟩
          case measure => simp [intOf]; omega
      · have hk11 := preA_len base k hA
        have HA : Hid (preA base k = true) := hA
        clear hA
        have hq := hO.drewN nq
        have tok1 : True := trivial
        go_wp2_with (first | (at_builtin; have _t := tok1; refine OutIs.app_str hq rfl (.tmp 24) _ rfl rfl ⟨#[106, 46, 115, 116, 97, 116, 101, 32, 61, 32, 39]⟩ Txt.doomA rfl rfl (by show acc.length + 11 ≤ _; omega) ?_; intro v1 w3 hO1; clear tok1) | (at_builtin; refine OutIs.app_str hO1 rfl (.tmp 26) _ rfl rfl st st.data.toList rfl rfl (by rw [List.length_append]; show acc.length + 11 + _ ≤ _; omega) ?_; intro v2 w4 hO2))
        go_roundw
        case rel => exact ⟨k + 11, f, acc ++ Txt.doomA ++ st.data.toList, by omega, by go_num, hO2, by omega, by simp [show Txt.doomA.length = 11 from rfl]; omega, step_A base k f acc _ _ true hlt HA.out HT.out⟩
        case measure => simp [intOf]; omega
    · have hcv := hO.convert
      have htot' : acc = fillL st.data.toList true base.size base.data.toList := by
        rw [← htot, List.drop_eq_nil_of_le (by simp; omega)]
        cases f0 <;> simp [fillL]
      clear htot
      have HT : Hid (acc = fillL st.data.toList true base.size base.data.toList) := htot'
      clear htot'
      go_wp2_with fail
      go_ret
      exact ⟨⟨_, rfl, HT.out⟩, hO.2.2⟩

end Go.Proofs.Qxb6605653a
