import Derived.Test.Qxb6605653aBuild
import Derived.Laws.IdiomCopy
namespace Go.Proofs.Qxb6605653a
open Go.RowKit

/-- The lastSeq of the latest of the first k readings whose lastSeqAt is before f; 0: none. -/
def seqT (xs : List Rd) (f : Int) : Nat → Int
  | 0 => 0
  | k + 1 => match xs[k]? with
    | some r => if r.a < f then r.l else seqT xs f k
    | none => seqT xs f k

theorem seqT_yes {xs : List Rd} {f : Int} {k : Nat} {r : Rd} (hr : xs[k]? = some r) (h : r.a < f) : seqT xs f (k + 1) = r.l := by simp [seqT, hr, h]
theorem seqT_no {xs : List Rd} {f : Int} {k : Nat} {r : Rd} (hr : xs[k]? = some r) (h : ¬ r.a < f) : seqT xs f (k + 1) = seqT xs f k := by simp [seqT, hr, h]

/-- The ten cells of reading k. -/
theorem TimedAt.ten {w : World} {g : Nat} {xs : List Rd} {k : Nat} {r : Rd} (h : TimedAt w g xs) (hr : xs[k]? = some r) :
    w.cell? ⟨g, k * 10 + 2, none⟩ = some (.int .i64 r.x) ∧ w.cell? ⟨g, k * 10 + 3, none⟩ = some (.int .u64 (r.b % 1000000000)) ∧ w.cell? ⟨g, k * 10 + 4, none⟩ = some (.int .i64 (r.b / 1000000000)) ∧
    w.cell? ⟨g, k * 10 + 5, none⟩ = some (.pointer none) ∧ w.cell? ⟨g, k * 10 + 6, none⟩ = some (.int .i64 r.l) ∧ w.cell? ⟨g, k * 10 + 7, none⟩ = some (.int .u64 (r.a % 1000000000)) ∧
    w.cell? ⟨g, k * 10 + 8, none⟩ = some (.int .i64 (r.a / 1000000000)) ∧ w.cell? ⟨g, k * 10 + 9, none⟩ = some (.pointer none) :=
  ⟨h k r hr 2 _ rfl, h k r hr 3 _ rfl, h k r hr 4 _ rfl, h k r hr 5 _ rfl, h k r hr 6 _ rfl, h k r hr 7 _ rfl, h k r hr 8 _ rfl, h k r hr 9 _ rfl⟩

/-- Time.Add, written out. -/
theorem add_agg (n d f : Int) (w : World) (n0 : -9223372036854775808 ≤ n) (n1 : n ≤ 9223372036854775807) (d0 : -9223372036854775808 ≤ d) (d1 : d ≤ 9223372036854775807) (hf : n + d = f) :
    Calls Try.prog 38 #[.agg #[.int .u64 (n % 1000000000), .int .i64 (n / 1000000000), .pointer none], .int .i64 d] w fun e w' => e = .returned (.agg #[.int .u64 (f % 1000000000), .int .i64 (f / 1000000000), .pointer none]) ∧ Below w.heap.size w w' := by
  subst hf
  exact add_any n d w n0 n1 d0 d1

/-- The since that is being made lies in block B. -/
def UnI (w wr : World) (B : Nat) (f : Int) : Prop := Below w.heap.size w wr ∧ wr.cell? ⟨B, 0, none⟩ = some (.int .u64 (f % 1000000000)) ∧ wr.cell? ⟨B, 1, none⟩ = some (.int .i64 (f / 1000000000)) ∧ wr.cell? ⟨B, 2, none⟩ = some (.pointer none) ∧
  (∀ o, wr.frozen? ⟨B, o, none⟩ = false) ∧ w.heap.size ≤ B

theorem UnI.keep {w wr w' : World} {B : Nat} {f : Int} (h : UnI w wr B f) (hb : Below wr.heap.size wr w') : UnI w w' B f := by
  obtain ⟨h0, h1, h2, h3, h4, h5⟩ := h
  have hB : B < wr.heap.size := World.block_lt_of_cell? _ _ h1
  have k : ∀ o, w'.cell? ⟨B, o, none⟩ = wr.cell? ⟨B, o, none⟩ := fun o => hb.cell (p := ⟨B, o, none⟩) hB
  exact ⟨h0.trans (hb.mono h0.size), (k 0).trans h1, (k 1).trans h2, (k 2).trans h3, fun o => (hb.frozen (p := ⟨B, o, none⟩) hB).trans (h4 o), h5⟩

theorem UnI.mk {w w1 : World} {f : Int} (h : Below w.heap.size w w1)
    (c0 : (w1.cell? ⟨w.heap.size + 1, 0, none⟩).isSome = true) (c1 : (w1.cell? ⟨w.heap.size + 1, 1, none⟩).isSome = true) (c2 : (w1.cell? ⟨w.heap.size + 1, 2, none⟩).isSome = true)
    (hf : ∀ o, w1.frozen? ⟨w.heap.size + 1, o, none⟩ = false) :
    UnI w (((w1.setCell ⟨w.heap.size + 1, 0, none⟩ (.int .u64 (f % 1000000000))).setCell ⟨w.heap.size + 1, 1, none⟩ (.int .i64 (f / 1000000000))).setCell ⟨w.heap.size + 1, 2, none⟩ (.pointer none)) (w.heap.size + 1) f := by
  have hi := World.cell?_setCells_in (w.heap.size + 1) [.int .u64 (f % 1000000000), .int .i64 (f / 1000000000), .pointer none] 0 w1 (fun j hj => by
    match j, hj with
    | 0, _ => exact c0
    | 1, _ => exact c1
    | 2, _ => exact c2)
  refine ⟨((h.setCell (by simp) _).setCell (by simp) _).setCell (by simp) _, hi 0 (by simp), hi 1 (by simp), hi 2 (by simp), fun o => by simp [hf], by omega⟩

/-- What the second loop's test reads, kept. -/
theorem keepU {w w1 w' : World} {p g t B n cap : Nat} {f : Int} {v6 v7 v8 v9 b0 b1 b2 : Value} (hb : Below w1.heap.size w1 w')
    (h : w1.cell? ⟨p, 5, none⟩ = some (.slice (some ⟨g, 0, none⟩) n cap) ∧ w1.cell? ⟨g, t * 10 + 6, none⟩ = some v6 ∧ w1.cell? ⟨g, t * 10 + 7, none⟩ = some v7 ∧ w1.cell? ⟨g, t * 10 + 8, none⟩ = some v8 ∧ w1.cell? ⟨g, t * 10 + 9, none⟩ = some v9 ∧
      w1.cell? ⟨B, 0, none⟩ = some b0 ∧ w1.cell? ⟨B, 1, none⟩ = some b1 ∧ w1.cell? ⟨B, 2, none⟩ = some b2 ∧ UnI w w1 B f) :
    w'.cell? ⟨p, 5, none⟩ = some (.slice (some ⟨g, 0, none⟩) n cap) ∧ w'.cell? ⟨g, t * 10 + 6, none⟩ = some v6 ∧ w'.cell? ⟨g, t * 10 + 7, none⟩ = some v7 ∧ w'.cell? ⟨g, t * 10 + 8, none⟩ = some v8 ∧ w'.cell? ⟨g, t * 10 + 9, none⟩ = some v9 ∧
      w'.cell? ⟨B, 0, none⟩ = some b0 ∧ w'.cell? ⟨B, 1, none⟩ = some b1 ∧ w'.cell? ⟨B, 2, none⟩ = some b2 ∧ UnI w w' B f := by
  obtain ⟨h0, h1, h2, h3, h4, h5, h6, h7, h8⟩ := h
  have k : ∀ {x y : Nat} {v : Value}, w1.cell? ⟨x, y, none⟩ = some v → w'.cell? ⟨x, y, none⟩ = some v := fun {x y v} hv => (hb.cell (p := ⟨x, y, none⟩) (World.block_lt_of_cell? _ _ hv)).trans hv
  exact ⟨k h0, k h1, k h2, k h3, k h4, k h5, k h6, k h7, h8.keep hb⟩

/-- The time and the seq that unseen answers. -/
def unT (xs : List Rd) (o : Int) : Int := match xs[(lat xs o xs.length).toNat]? with
  | some r => if lat xs o xs.length < 0 then 0 else r.b + -1000000000
  | none => 0
def unS (xs : List Rd) (o : Int) : Int := if lat xs o xs.length < 0 then 0 else seqT xs (unT xs o) ((lat xs o xs.length).toNat + 1)

theorem unT_none {xs : List Rd} {o : Int} (h : lat xs o xs.length = -1) : unT xs o = 0 := by
  unfold unT; rw [h]; cases xs[((-1 : Int)).toNat]? <;> simp
theorem unS_none {xs : List Rd} {o : Int} (h : lat xs o xs.length = -1) : unS xs o = 0 := by
  unfold unS; rw [h]; simp
theorem unT_some {xs : List Rd} {o : Int} {j : Nat} {r : Rd} (h : lat xs o xs.length = j) (hr : xs[j]? = some r) : unT xs o = r.b + -1000000000 := by
  unfold unT; rw [h, Int.toNat_natCast, hr]; exact if_neg (by omega)
theorem unS_some {xs : List Rd} {o : Int} {j : Nat} (h : lat xs o xs.length = j) : unS xs o = seqT xs (unT xs o) (j + 1) := by
  unfold unS; rw [h, Int.toNat_natCast, if_neg (by omega)]

set_option maxHeartbeats 4000000 in
theorem unseen_any (p : Nat) (xs : List Rd) (q : Rd) (w : World) (hn : xs.length ≤ 1048576) (h : Wk w p xs) (hok : ∀ r ∈ xs, r.ok) :
    Calls Try.prog 35 #[.pointer (some ⟨p, 0, none⟩), q.timed] w fun e w' => e = .returned (.tuple #[.agg #[.int .u64 (unT xs q.o % 1000000000), .int .i64 (unT xs q.o / 1000000000), .pointer none], .int .i64 (unS xs q.o)]) ∧ Below w.heap.size w w' := by
  obtain ⟨g, cap, hp, ht⟩ := h
  have hp0 : p < w.heap.size := World.block_lt_of_cell? _ _ hp
  have HT : Hid (TimedAt w g xs) := ht
  clear ht
  unfold Rd.timed
  obtain ⟨qq, qo, qx, qb, ql, qa⟩ := q
  go_enter Try.func35, Try.ntmps35
  go_wp2
  go_loopw [6, 7] (fun nn i wr => ∃ k : Nat, k ≤ xs.length ∧ i = .int .i64 ((k : Int) - 1) ∧ nn = .int .i64 (-1) ∧ lat xs qo xs.length = lat xs qo k ∧
    ∃ m, wr = ((w.alloc (.cells #[.int .i64 qq, .int .i64 qo, .int .i64 qx, .int .u64 (qb % 1000000000), .int .i64 (qb / 1000000000), .pointer none, .int .i64 ql, .int .u64 (qa % 1000000000), .int .i64 (qa / 1000000000), .pointer none] 42)).alloc (.cells #[.int .u64 0, .int .i64 0, .pointer none] 36)).drewN m) (fun _ i _ => (intOf i + 1).toNat)
  case atStart => exact ⟨xs.length, Nat.le_refl _, rfl, rfl, rfl, 0, rfl⟩
  case round =>
    obtain ⟨k, hk, rfl, rfl, hl, m, rfl⟩ := hrel
    by_cases hk0 : 0 < k
    · obtain ⟨j, rfl⟩ : ∃ j, k = j + 1 := ⟨k - 1, by omega⟩
      obtain ⟨r, hr⟩ : ∃ r, xs[j]? = some r := ⟨xs[j], List.getElem?_eq_getElem (by omega)⟩
      obtain ⟨c2, c3, c4, c5, c6, c7, c8, c9⟩ := HT.out.ten hr
      have hg0 : g < w.heap.size := World.block_lt_of_cell? _ _ c2
      have ej : ((j + 1 : Nat) : Int) - 1 = (j : Int) := by omega
      rw [ej]
      clear ej
      by_cases hx : r.x ≤ qo
      · have hl' := hl.trans (lat_yes hr hx)
        have HL : Hid (lat xs qo xs.length = j) := hl'
        clear hl hl'
        have hrm := hok r (List.mem_of_getElem? hr)
        obtain ⟨f, hf⟩ : ∃ f, r.b + -1000000000 = f := ⟨_, rfl⟩
        have HF : Hid (r.b + -1000000000 = f) := hf
        have HR : Hid (xs[j]? = some r) := hr
        clear hf hr
        go_wp2_with fail
        go_quiet (fail)
        go_wp2_with fail
        refine (add_agg r.b (-1000000000) f _ hrm.1.1 hrm.1.2 (by omega) (by omega) HF.out).mono ?_
        rintro e w1 ⟨rfl, hb1⟩
        have hz1 : w.heap.size + 1 < w1.heap.size := by have := hb1.size; simp at this; omega
        obtain ⟨hc1, hf1⟩ := bcell hb1
        clear c2 c3 c4 c5 c6 c7 c8 c9 hx
        go_wp2_with fail
        have hU := UnI.mk (f := f) ((((Below.refl w.heap.size w).alloc (Nat.le_refl _) _).alloc (by simp) _).trans (below_drewN (Below.refl _ _) (m + nq)) |>.trans (hb1.mono (by simp; omega))) (by simp [hc1]) (by simp [hc1]) (by simp [hc1]) (fun o => by simp [hf1])
        clear hc1 hf1 hb1 hz1
        go_loopw [8] (fun i wr => ∃ k : Nat, k ≤ j + 1 ∧ i = .int .i64 ((k : Int) - 1) ∧ seqT xs f (j + 1) = seqT xs f k ∧ UnI w wr (w.heap.size + 1) f) (fun i _ => (intOf i + 1).toNat)
        case atStart => exact ⟨j + 1, Nat.le_refl _, congrArg (Value.int .i64) (by omega), rfl, hU⟩
        case round =>
          obtain ⟨k, hk1, rfl, hq, hI⟩ := hrel
          clear hU
          by_cases hk2 : 0 < k
          · obtain ⟨t, rfl⟩ : ∃ t, k = t + 1 := ⟨k - 1, by omega⟩
            obtain ⟨rt, hrt⟩ : ∃ rt, xs[t]? = some rt := ⟨xs[t], List.getElem?_eq_getElem (by omega)⟩
            have et : ((t + 1 : Nat) : Int) - 1 = (t : Int) := by omega
            rw [et]
            clear et
            obtain ⟨_, _, _, _, c6, c7, c8, c9⟩ := HT.out.ten hrt
            have hS : wr.cell? ⟨p, 5, none⟩ = some (.slice (some ⟨g, 0, none⟩) xs.length cap) ∧ wr.cell? ⟨g, t * 10 + 6, none⟩ = some (.int .i64 rt.l) ∧ wr.cell? ⟨g, t * 10 + 7, none⟩ = some (.int .u64 (rt.a % 1000000000)) ∧ wr.cell? ⟨g, t * 10 + 8, none⟩ = some (.int .i64 (rt.a / 1000000000)) ∧ wr.cell? ⟨g, t * 10 + 9, none⟩ = some (.pointer none) ∧
                wr.cell? ⟨w.heap.size + 1, 0, none⟩ = some (.int .u64 (f % 1000000000)) ∧ wr.cell? ⟨w.heap.size + 1, 1, none⟩ = some (.int .i64 (f / 1000000000)) ∧ wr.cell? ⟨w.heap.size + 1, 2, none⟩ = some (.pointer none) ∧ UnI w wr (w.heap.size + 1) f :=
              ⟨(hI.1.cell (p := ⟨p, 5, none⟩) hp0).trans hp, (hI.1.cell (p := ⟨g, _, none⟩) hg0).trans c6, (hI.1.cell (p := ⟨g, _, none⟩) hg0).trans c7, (hI.1.cell (p := ⟨g, _, none⟩) hg0).trans c8, (hI.1.cell (p := ⟨g, _, none⟩) hg0).trans c9, hI.2.1, hI.2.2.1, hI.2.2.2.1, hI⟩
            clear c6 c7 c8 c9 hI
            have HQ : Hid (seqT xs f (j + 1) = seqT xs f (t + 1)) := hq
            have HRT : Hid (xs[t]? = some rt) := hrt
            clear hq hrt
            have HS : Hid _ := hS
            clear hS
            go_wp2_with fail
            have hSd := keepU (show Below wr.heap.size wr wr.drew from (Below.refl _ _).drew) HS.out
            clear HS
            go_region_held (fun w' => w'.cell? ⟨p, 5, none⟩ = some (.slice (some ⟨g, 0, none⟩) xs.length cap) ∧ w'.cell? ⟨g, t * 10 + 6, none⟩ = some (.int .i64 rt.l) ∧ w'.cell? ⟨g, t * 10 + 7, none⟩ = some (.int .u64 (rt.a % 1000000000)) ∧ w'.cell? ⟨g, t * 10 + 8, none⟩ = some (.int .i64 (rt.a / 1000000000)) ∧ w'.cell? ⟨g, t * 10 + 9, none⟩ = some (.pointer none) ∧
                w'.cell? ⟨w.heap.size + 1, 0, none⟩ = some (.int .u64 (f % 1000000000)) ∧ w'.cell? ⟨w.heap.size + 1, 1, none⟩ = some (.int .i64 (f / 1000000000)) ∧ w'.cell? ⟨w.heap.size + 1, 2, none⟩ = some (.pointer none) ∧ UnI w w' (w.heap.size + 1) f)
              (first | exact hSd | (with_reducible exact keepU (by assumption) (by assumption)))
              (first | (go_at_call 42; refine (before_any rt.a f _).mono ?_; rintro e w2 ⟨rfl, hb2⟩))
            rename_i hh
            obtain ⟨e0, e1, e2, e3, e4, e5, e6, e7, hU2⟩ := hh
            clear hSd hb2
            have hfz := hU2.2.2.2.2.1
            have HU : Hid (UnI w w2 (w.heap.size + 1) f) := hU2
            clear hU2
            by_cases hba : rt.a < f
            · have HQ2 : Hid (seqT xs f (j + 1) = rt.l) := HQ.out.trans (seqT_yes HRT.out hba)
              go_wp2_with fail
              go_region
              go_wp2_with fail
              have hT : unT xs qo = f := (unT_some HL.out HR.out).trans HF.out
              have hSq : unS xs qo = rt.l := by rw [unS_some HL.out, hT]; exact HQ2.out
              refine bodyPost_ret (v := .tuple #[.agg #[.int .u64 (f % 1000000000), .int .i64 (f / 1000000000), .pointer none], .int .i64 rt.l]) ?_ rfl ⟨?_, ?_⟩
              · clear hT hSq
                simp [results, Try.results35, go_sem, e5, e6, e7]
              · rw [hT, hSq]
              · exact (((HU.out.1.setCell (by simp) _).setCell (by simp) _).setCell (by simp) _).drew
            · have HQ2 : Hid (seqT xs f (j + 1) = seqT xs f t) := HQ.out.trans (seqT_no HRT.out hba)
              go_wp2_with fail
              go_roundw
              case rel => exact ⟨t, by omega, rfl, HQ2.out, HU.out⟩
              case measure => simp [intOf]
          · have e : k = 0 := by omega
            subst e
            have HQ : Hid (seqT xs f (j + 1) = seqT xs f 0) := hq
            obtain ⟨b0, b1, b2, b3, b4, b5⟩ := hI
            clear hq
            go_wp2_with fail
            have hT : unT xs qo = f := (unT_some HL.out HR.out).trans HF.out
            have hSq : unS xs qo = 0 := by rw [unS_some HL.out, hT]; exact HQ.out
            refine bodyPost_ret (v := .tuple #[.agg #[.int .u64 (f % 1000000000), .int .i64 (f / 1000000000), .pointer none], .int .i64 0]) ?_ rfl ⟨?_, ?_⟩
            · clear hT hSq
              simp [results, Try.results35, go_sem, b1, b2, b3]
            · rw [hT, hSq]
            · first | exact ((b0.setCell (by simp) _).setCell (by simp) _).setCell (by simp) _ | exact (((b0.setCell (by simp) _).setCell (by simp) _).setCell (by simp) _).drew
      · have HL : Hid (lat xs qo xs.length = lat xs qo j) := hl.trans (lat_no hr hx)
        clear hl
        go_wp2_with fail
        go_quiet (fail)
        go_wp2_with fail
        go_roundw
        case rel => exact ⟨j, by omega, rfl, rfl, HL.out, m + nq, rfl⟩
        case measure => simp [intOf]
    · have e : k = 0 := by omega
      subst e
      have HL : Hid (lat xs qo xs.length = -1) := hl
      clear hl
      go_wp2
      refine bodyPost_ret (v := .tuple #[.agg #[.int .u64 0, .int .i64 0, .pointer none], .int .i64 0]) (by simp [results, Try.results35, go_sem]) rfl ⟨?_, ?_⟩
      · show _ = Ending.returned (.tuple #[.agg #[.int .u64 (unT xs qo % 1000000000), .int .i64 (unT xs qo / 1000000000), .pointer none], .int .i64 (unS xs qo)])
        rw [unT_none HL.out, unS_none HL.out]
        rfl
      · exact (((below_drewN (((Below.refl w.heap.size w).alloc (Nat.le_refl _) _).alloc (by simp) _) m).setCell (by simp) _).setCell (by simp) _).setCell (by simp) _

end Go.Proofs.Qxb6605653a
