import Derived.Test.Qxb6605653aHold
import Derived.Test.Qxb6605653aWord
import Derived.Test.Qxb6605653aDel
namespace Go.Proofs.Qxb6605653a
open Go.RowKit

/-- The statement in five pieces: head, state, middle, state, tail. -/
def segA : List UInt8 := Txt.p1 ++ Txt.doomA
def segB (ty : Bool) : List UInt8 := Txt.doomB ++ ((if ty then Txt.typ else []) ++ (Txt.p2 ++ Txt.doomA))
def segC (ty : Bool) : List UInt8 := Txt.doomB ++ ((if ty then Txt.typ else []) ++ (Txt.p3 ++ (Txt.ltc ++ Txt.p4)))

theorem delL_segs (st : List UInt8) (ty : Bool) : delL st ty = segA ++ (st ++ (segB ty ++ (st ++ segC ty))) := by
  simp only [delL, doomL, segA, segB, segC, List.append_assoc]

/-! Placeholders -/
theorem tame_fold (f : Nat → Bool) : ∀ st : List UInt8, Tame st → st.foldl hStep (none, f) = (none, f)
  | [], _ => rfl
  | c :: l, h => by
    have hc := h c (by simp)
    have e : hStep (none, f) c = (none, f) := by simp [hStep, outStep, hc.1]
    rw [List.foldl_cons, e]
    exact tame_fold f l (fun x hx => h x (by simp [hx]))

def init : Option (Nat × Nat) × (Nat → Bool) := (none, fun _ => false)

theorem at_none (x : Option (Nat × Nat) × (Nat → Bool)) (h : x.1 = none) : x = (none, x.2) := by cases x; simp at h; subst h; rfl

theorem sA : (segA.foldl hStep init).1 = none := by decide +kernel
theorem sB (ty : Bool) : ((segB ty).foldl hStep (segA.foldl hStep init)).1 = none := by cases ty <;> decide +kernel
theorem sC (ty : Bool) : ∀ j, j < 8 → hFin ((segC ty).foldl hStep ((segB ty).foldl hStep (segA.foldl hStep init))) j = good ty j := by
  cases ty <;> decide +kernel

theorem holders_law (st : List UInt8) (ty : Bool) (h : Tame st) : ∀ j, j < 8 → hRun (delL st ty) (none, fun _ => false) j = good ty j := by
  intro j hj
  rw [← sC ty j hj, delL_segs]
  unfold hRun
  simp only [List.foldl_append]
  have e1 : st.foldl hStep (segA.foldl hStep init) = segA.foldl hStep init := by
    rw [at_none _ sA]; exact tame_fold _ st h
  have e2 : st.foldl hStep ((segB ty).foldl hStep (segA.foldl hStep init)) = (segB ty).foldl hStep (segA.foldl hStep init) := by
    rw [at_none _ (sB ty)]; exact tame_fold _ st h
  show hFin ((segC ty).foldl hStep (st.foldl hStep ((segB ty).foldl hStep (st.foldl hStep (segA.foldl hStep init))))) j = _
  rw [e1, e2]

/-! The pattern's count -/
/-- m and l part within both. -/
def clash : List UInt8 → List UInt8 → Bool
  | a :: m, b :: l => a != b || clash m l
  | _, _ => false
def noPre (m : List UInt8) : List UInt8 → Bool
  | [] => true
  | c :: l => clash m (c :: l) && noPre m l

theorem clash_not : ∀ (m l x : List UInt8), clash m l = true → m.isPrefixOf (l ++ x) = false
  | [], l, _, h => by simp [clash] at h
  | a :: m, [], _, h => by simp [clash] at h
  | a :: m, b :: l, x, h => by
    simp only [clash, Bool.or_eq_true] at h
    rw [List.cons_append]
    simp only [List.isPrefixOf]
    rcases h with h | h
    · have : (a == b) = false := by simpa using h
      rw [this]; rfl
    · rw [clash_not m l x h]; simp

theorem cnt_skip (m x : List UInt8) : ∀ l : List UInt8, noPre m l = true → cnt m (l ++ x) = cnt m x
  | [], _ => rfl
  | c :: l, h => by
    simp only [noPre, Bool.and_eq_true] at h
    have e := clash_not m (c :: l) x h.1
    rw [List.cons_append] at e ⊢
    rw [cnt, e, cnt_skip m x l h.2]
    simp

theorem cnt_tame (m x : List UInt8) : ∀ st : List UInt8, Tame st → cnt (40 :: m) (st ++ x) = cnt (40 :: m) x
  | [], _ => rfl
  | c :: l, h => by
    have hc := (h c (by simp)).2
    have e : (40 :: m).isPrefixOf (c :: (l ++ x)) = false := by
      simp only [List.isPrefixOf]
      have : ((40 : UInt8) == c) = false := by
        rw [beq_eq_false_iff_ne]
        intro e
        subst e
        exact hc rfl
      rw [this]; rfl
    rw [List.cons_append, cnt, e, cnt_tame m x l (fun y hy => h y (by simp [hy]))]
    simp

theorem nA : noPre Txt.ltc segA = true := by decide +kernel
theorem nB (ty : Bool) : noPre Txt.ltc (segB ty) = true := by cases ty <;> decide +kernel
theorem nC (ty : Bool) : cnt Txt.ltc (segC ty) = 1 := by cases ty <;> decide +kernel

theorem count_law (st : List UInt8) (ty : Bool) (h : Tame st) : cnt Txt.ltc (delL st ty) = 1 := by
  have e : Txt.ltc = 40 :: Txt.ltc.tail := by rfl
  rw [delL_segs, cnt_skip _ _ _ nA]
  rw [e, cnt_tame _ _ st h, ← e]
  rw [cnt_skip _ _ _ (nB ty)]
  rw [e, cnt_tame _ _ st h, ← e]
  exact nC ty

end Go.Proofs.Qxb6605653a
