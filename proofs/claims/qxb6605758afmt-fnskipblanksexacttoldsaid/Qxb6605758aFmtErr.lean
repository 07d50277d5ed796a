import Derived.Test.Qxb6605758aFmtLex2
import Derived.Stop.CallBack
import Derived.Stop.IfaceNil
import GoSem.ClaimData
import Derived.Deep.RegionLawGrows
import Derived.Deep.AppendLies
namespace Go.Proofs.Qxb6605758aFmt
open Go.RowKit Go.Extern.Stop Go.Stop Go.Extern

/-- The error's format. -/
abbrev fmtb : ByteArray := ⟨#[99, 111, 109, 109, 101, 110, 116, 32, 105, 115, 32, 110, 101, 118, 101, 114, 32, 99, 108, 111, 115, 101, 100]⟩

theorem call27 (args : Array Value) (w : World) : (callFunc 27 args).run Tryf.prog w = (FmtCalls.sprintf #[9, 47] #[9] args).run Tryf.prog w :=
  run_callFunc_next Tryf.func27 (by kernel_rfl) (by kernel_rfl) (by kernel_rfl) args w
theorem nextTurns : Extern.next FmtCalls.turnsRow = some (FmtCalls.begun #[] #[]) := by kernel_rfl
theorem Tryf.info43 : (Tryf.prog.info? 43).map (fun i => (i.zero, i.size, i.bytes)) = some (some (.agg #[.int .i64 0, .int .i64 0, .string ⟨#[]⟩]), 3, 32) := by kernel_rfl

theorem sprintf_rows (F : Interp) (w : World) (hF : F.answers w.tape) (R : Value → World → Prop) (h : ∀ s, R (.string s) w.drew) :
    (FmtCalls.sprintf #[9, 47] #[9] #[.string fmtb, .slice none 0 0]).run Tryf.prog w = .ok (.row FmtCalls.turnsRow (FmtCalls.save 0 0 (.slice none 0 0) fmtb [] [])) w ∧ Rows Tryf.prog FmtCalls.turnsRow (FmtCalls.save 0 0 (.slice none 0 0) fmtb [] []) w R := by
  have hF' := answers_open hF
  constructor
  · kernel_rfl
  · apply rows_value nextTurns
    case hr =>
      go_simp
      exact ⟨rfl, rfl⟩
    case h => exact h _

theorem step_sprintf {ops : Array Oper} {o : Oper} {a : Act} {w : World} {K : Act → World → Prop} {Q : Exit → Act → World → Prop} {E : Prop} (F : Interp) (hF : F.answers w.tape)
    (hg : o.guard = none) (x y : Operand) (hop : o.op = Op.call { callee := Callee.value (Operand.func 27), args := #[x, y], argTypes := #[9, 47] })
    (hx : a.eval x = .string fmtb) (hy : a.eval y = .slice none 0 0) (hK : ∀ s, K (a.put o.dst (.string s)) w.drew) :
    if Region.wanted o (yielded ops a.tmps) = true then Oper.wp Tryf.prog o a w K Q else E := by
  have hw : Region.wanted o (yielded ops a.tmps) = true := by simp [Region.wanted, hg]
  rw [if_pos hw]
  obtain ⟨h1, h2⟩ := sprintf_rows F w hF (fun v w'' => K (a.put o.dst v) w'') hK
  unfold Oper.wp
  have hfn : a.eval (Operand.func 27) = .func (.func 27) #[] #[] := rfl
  simp [execOp, hop, resolve, invoke, hx, hy, hfn, Deferred.ofValue, call27, h1, Oper.upon_row]
  exact h2

/-- One problem, at l, c. -/
def OneProb (w : World) (p : Nat) (v : Value) (l c : Int) : Prop := ∃ g cap, p < g ∧ v = .slice (some ⟨g, 0, none⟩) 1 cap ∧ w.cell? ⟨g, 0, none⟩ = some (.int .i64 l) ∧ w.cell? ⟨g, 1, none⟩ = some (.int .i64 c)

set_option maxRecDepth 20000 in
set_option maxHeartbeats 2000000 in
theorem errorf_any (F : Interp) (p : Nat) (ao : Option Addr) (cap : Nat) (zs : List Int) (off : Nat) (line col l c : Int) (cs : Bool) (w : World) (hF : F.answers w.tape) (h : Lx w p ao cap zs off line col (.slice none 0 0) cs) :
    Calls Tryf.prog 26 #[.pointer (some ⟨p, 0, none⟩), posv l c, .string fmtb, .slice none 0 0] w fun e w' => e = .returned (.tuple #[]) ∧ (∃ pv, Lx w' p ao cap zs off line col pv cs ∧ OneProb w' p pv l c) ∧ Below p w w' := by
  have hp : p < w.heap.size := World.block_lt_of_cell? _ _ h.1
  have H : Hid (Lx w p ao cap zs off line col (.slice none 0 0) cs) := h
  obtain ⟨h0, h1, h2, h3, h5, h6, hf, hr, hd⟩ := h
  clear h0 h1 h2 h3 h6 hr hd
  have hne : w.heap.size ≠ p := by omega
  obtain ⟨i0, hi, hz0, hz1, hz2⟩ := info_parts Tryf.info43
  unfold posv
  go_enter Tryf.func26, Tryf.ntmps26
  go_wp2_with fail
  go_region_law (first
    | (refine step_sprintf F (by exact hF) rfl _ _ rfl rfl rfl ?_; intro s)
    | (refine step_append_grows rfl _ _ 36 rfl 43 i0 _ 3 32 Tryf.underlying36 hi hz0 hz1 hz2 rfl (by decide) none 0 0 [] rfl (fun _ => ⟨rfl, rfl⟩) rfl (fun b hb => by cases hb) _ 1 1 [.int .i64 l, .int .i64 c, .string s] rfl rfl (by intro j u hj; rcases j with _ | _ | _ | j <;> simp at hj <;> subst hj <;> go_simp) (by intro u hu; simp at hu; rcases hu with rfl | rfl | rfl <;> rfl) (by decide) (by decide) (by decide) ?_; intro v' w' hown hgrow; obtain ⟨g, cp, rfl, hg1, hg2⟩ := hown.form (by decide); have hB := (Below.refl _ _).grown hgrow (Nat.le_refl _) (fun k h => by cases h); have hg3 : p < g := (by simp at hg1; omega); have HC : Hid (w'.cell? ⟨g, 0, none⟩ = some (.int .i64 l) ∧ w'.cell? ⟨g, 1, none⟩ = some (.int .i64 c)) := ⟨hown.cells (g := g) rfl 0 _ rfl, hown.cells (g := g) rfl 1 _ rfl⟩; have hBW : Below (p + 1) w w' := (show Below (p + 1) w _ from by repeat (first | exact Below.refl _ _ | apply Below.drew | refine Below.alloc ?_ (by first | omega | (simp; omega)) _)).trans (hB.mono (by first | omega | (simp; omega))); have q5 := (hBW.cell (p := ⟨p, 5, none⟩) (Nat.lt_succ_self p)).trans h5; have qf := (hBW.frozen (p := ⟨p, 5, none⟩) (Nat.lt_succ_self p)).trans (hf 5); have HW : Hid (Below (p + 1) w w') := hBW; clear hown hgrow hB hBW))
  all_goals
    go_wp2_with fail
    go_end0
    refine ⟨rfl, ⟨_, (H.out.keep HW.out).set.2.2.2.1 _, g, cp, hg3, rfl, ?_, ?_⟩, ((HW.out.mono (Nat.le_succ p)).setCell (p := ⟨p, 5, none⟩) (Nat.le_refl p) _)⟩
    · rw [World.cell?_setCell_far _ _ _ _ (by show p ≠ g; omega)]; exact HC.out.1
    · rw [World.cell?_setCell_far _ _ _ _ (by show p ≠ g; omega)]; exact HC.out.2

end Go.Proofs.Qxb6605758aFmt
