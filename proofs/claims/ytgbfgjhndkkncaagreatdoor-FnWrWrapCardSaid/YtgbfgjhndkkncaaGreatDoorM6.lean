import Derived.Test.YtgbfgjhndkkncaaGreatDoorM1
import Derived.Test.YtgbfgjhndkkncaaGreatDoorM4
import Derived.Test.YtgbfgjhndkkncaaGreatDoorM5
import Derived.Laws.Tables
set_option maxRecDepth 100000
set_option maxHeartbeats 1000000
set_option linter.unusedVariables false
set_option linter.unusedSimpArgs false
namespace Go
section
variable {P : Program} {B : Option Nat} {ops : Array Oper} {Q : Exit → Act → World → Prop}
/-- The orders of a region: one operation next; or one of two, of three, that act. -/
inductive ET where
  | nil
  | one (i : Nat) (c : Cls) (t : ET)
  | two (i : Nat) (c : Cls) (t : ET) (j : Nat) (d : Cls) (u : ET)
  | three (i : Nat) (c : Cls) (t : ET) (j : Nat) (d : Cls) (u : ET) (k : Nat) (e : Cls) (v : ET)
def ET.len : ET → Nat
  | .nil => 0
  | .one _ _ t => t.len + 1
  | .two _ _ t _ _ _ => t.len + 1
  | .three _ _ t _ _ _ _ _ _ => t.len + 1
def wpET (P : Program) (B : Option Nat) (ops : Array Oper) (Q : Exit → Act → World → Prop) : ET → Act → World → Prop
  | .nil, a, w => Q .normal a w
  | .one i c t, a, w => eOp P B ops Q c i (wpET P B ops Q t) a w
  | .two i c t j d u, a, w => eOp P B ops Q c i (wpET P B ops Q t) a w ∧ eOp P B ops Q d j (wpET P B ops Q u) a w
  | .three i c t j d u k e v, a, w => eOp P B ops Q c i (wpET P B ops Q t) a w ∧ eOp P B ops Q d j (wpET P B ops Q u) a w ∧ eOp P B ops Q e k (wpET P B ops Q v) a w
def eagerT (ops : Array Oper) (cl : Nat → Cls) : ET → Array Bool → Bool
  | .nil, listed => (Region.ready .any ops listed).isEmpty
  | .one i c t, listed =>
    decide (cl i = c) && (if c.acts then decide (Region.ready .any ops listed = [i]) else (Region.ready .any ops listed).contains i && firstB ops cl listed i) && eagerT ops cl t (listed.setIfInBounds i true)
  | .two i c t j d u, listed => decide (Region.ready .any ops listed = [i, j]) && decide (cl i = c) && decide (cl j = d) && decide (t.len = u.len) &&
    eagerT ops cl t (listed.setIfInBounds i true) && eagerT ops cl u (listed.setIfInBounds j true)
  | .three i c t j d u k e v, listed => decide (Region.ready .any ops listed = [i, j, k]) && decide (cl i = c) && decide (cl j = d) && decide (cl k = e) && decide (t.len = u.len) && decide (t.len = v.len) &&
    eagerT ops cl t (listed.setIfInBounds i true) && eagerT ops cl u (listed.setIfInBounds j true) && eagerT ops cl v (listed.setIfInBounds k true)
theorem eAny_of_wpET {cl : Nat → Cls} (hsel : Region.noSelect ops = true) (hQ : Keeps Q) : ∀ (l : ET) (listed : Array Bool) (a : Act) (w : World), Closed ops listed →
    eagerT ops cl l listed = true → wpET P B ops Q l a w → eAny P B ops Q cl l.len listed a w
  | .nil, listed, a, w, _, hB, h => ⟨by simpa [eagerT] using hB, h⟩
  | .one i c t, listed, a, w, hc, hB, h => by
    simp only [eagerT, Bool.and_eq_true, decide_eq_true_eq] at hB
    obtain ⟨⟨rfl, hfst⟩, hrest⟩ := hB
    by_cases hact : (cl i).acts = true
    · rw [if_pos hact] at hfst
      have hready : Region.ready .any ops listed = [i] := by simpa using hfst
      refine ⟨fun h0 => (by rw [hready] at h0; cases h0), fun j hj => ?_⟩
      rw [hready] at hj
      obtain rfl : j = i := by simpa using hj
      exact eOp_mono (fun a' w' h' => eAny_of_wpET hsel hQ t _ a' w' (hc.set (by rw [hready]; simp)) hrest h') h
    · rw [if_neg hact] at hfst
      simp only [Bool.and_eq_true] at hfst
      have hr : i ∈ Region.ready .any ops listed := by simpa using hfst.1
      have hna : (cl i).acts = false := by simpa using hact
      cases hoi : ops[i]? with
      | none => unfold wpET eOp at h; rw [hoi] at h; exact h.elim
      | some oi =>
        have hex : ∃ v, YAt P B ops (cl i) oi v a w ∧ wpET P B ops Q t (a.put oi.dst v) w := by
          unfold wpET eOp at h
          rw [hoi] at h
          revert h hna
          generalize cl i = c
          intro hna h
          cases c <;> first | exact h | (simp [Cls.acts] at hna; done)
        obtain ⟨v, hy, hk⟩ := hex
        refine eAny_first hoi hsel hQ t.len listed a w hc ?_ hr hna hy (eAny_of_wpET hsel hQ t _ _ w (hc.set hr) hrest hk)
        intro j oj hj hne hun hno
        have hfb := hfst.2
        unfold firstB at hfb
        rw [hoi] at hfb
        have h1 := List.all_eq_true.1 hfb j (List.mem_range.2 (Array.getElem?_eq_some_iff.1 hj).1)
        rw [hj] at h1
        simp only [Bool.or_eq_true, beq_iff_eq, hne, false_or, hun, hno, Bool.false_eq_true, Bool.and_eq_true] at h1
        exact h1
  | .two i c t j d u, listed, a, w, hc, hB, h => by
    simp only [eagerT, Bool.and_eq_true, decide_eq_true_eq] at hB
    obtain ⟨⟨⟨⟨⟨hready, hi⟩, hj⟩, hl⟩, h1⟩, h2⟩ := hB
    refine ⟨fun h0 => (by rw [hready] at h0; cases h0), fun x hx => ?_⟩
    have hx' := hx
    rw [hready] at hx
    simp only [List.mem_cons, List.not_mem_nil, or_false] at hx
    rcases hx with rfl | rfl
    · rw [hi]; exact eOp_mono (fun a' w' h' => eAny_of_wpET hsel hQ t _ a' w' (hc.set hx') h1 h') h.1
    · rw [hj]; exact eOp_mono (fun a' w' h' => by rw [hl]; exact eAny_of_wpET hsel hQ u _ a' w' (hc.set hx') h2 h') h.2
  | .three i c t j d u k e v, listed, a, w, hc, hB, h => by
    simp only [eagerT, Bool.and_eq_true, decide_eq_true_eq] at hB
    obtain ⟨⟨⟨⟨⟨⟨⟨⟨hready, hi⟩, hj⟩, hk⟩, hl⟩, hl2⟩, h1⟩, h2⟩, h3⟩ := hB
    refine ⟨fun h0 => (by rw [hready] at h0; cases h0), fun x hx => ?_⟩
    have hx' := hx
    rw [hready] at hx
    simp only [List.mem_cons, List.not_mem_nil, or_false] at hx
    rcases hx with rfl | rfl | rfl
    · rw [hi]; exact eOp_mono (fun a' w' h' => eAny_of_wpET hsel hQ t _ a' w' (hc.set hx') h1 h') h.1
    · rw [hj]; exact eOp_mono (fun a' w' h' => by rw [hl]; exact eAny_of_wpET hsel hQ u _ a' w' (hc.set hx') h2 h') h.2.1
    · rw [hk]; exact eOp_mono (fun a' w' h' => by rw [hl2]; exact eAny_of_wpET hsel hQ v _ a' w' (hc.set hx') h3 h') h.2.2
theorem wp_region_treeB (B : Option Nat) {id : Nat} {a : Act} {w : World} (hm : P.follows .mixedOrders = true) (cl : Nat → Cls) (l : ET)
    (hB : (Region.noSelect ops && eagerT ops cl l (Array.replicate ops.size false) && (l.len == ops.size)) = true) [hQ : Keeps Q]
    (h : wpET P B ops Q l a w.drew) : (Code.region id ops true).wp P Q a w := by
  simp only [Bool.and_eq_true, beq_iff_eq] at hB
  obtain ⟨⟨hsel, hE⟩, hlen⟩ := hB
  refine wp_region_any hm (wpAny_of_eAny (B := B) (cl := cl) _ _ _ _ ?_)
  have hsz := hlen
  rw [← hlen]
  refine eAny_of_wpET hsel hQ l _ a _ ⟨by simp [hsz], fun j oj _ hl => ?_⟩ (by rw [hsz]; exact hE) h
  rcases Nat.lt_or_ge j l.len with h' | h'
  · simp [h'] at hl
  · simp [Nat.not_lt.2 h'] at hl
theorem wp_region_tree {id : Nat} {a : Act} {w : World} (hm : P.follows .mixedOrders = true) (cl : Nat → Cls) (l : ET)
    (hB : (Region.noSelect ops && eagerT ops cl l (Array.replicate ops.size false) && (l.len == ops.size)) = true) [hQ : Keeps Q]
    (h : wpET P none ops Q l a w.drew) : (Code.region id ops true).wp P Q a w :=
  wp_region_treeB none hm cl l hB h
theorem eOp_free {K0 : Act → World → Prop} {i : Nat} {o : Oper} {a : Act} {w : World} (ho : ops[i]? = some o) (hg : o.guard = none)
    (h : ∀ K : Act → World → Prop, (∀ a w, K0 a w → K a w) → ∃ v, (∀ w2, (execOp a.eval o).run P w2 = .ok (.value v) w2) ∧ K (a.put o.dst v) w) : eOp P B ops Q .free i K0 a w := by
  obtain ⟨v, h1, h2⟩ := h _ (fun _ _ h => h)
  unfold eOp
  rw [ho]
  exact ⟨v, .inl ⟨by simp [Region.wanted, hg], by rw [if_pos rfl]; exact h1⟩, h2⟩
theorem eOp_look {K0 : Act → World → Prop} {i : Nat} {o : Oper} {a : Act} {w : World} {t : TypeId} {x : Operand} (ho : ops[i]? = some o) (hg : o.guard = none) (hop : o.op = .load t x)
    (h : ∀ K : Act → World → Prop, (∀ a w, K0 a w → K a w) → ∃ v, (execOp a.eval o).run P w = .ok (.value v) w ∧ K (a.put o.dst v) w) : eOp P none ops Q .look i K0 a w := by
  obtain ⟨v, h1, h2⟩ := h _ (fun _ _ h => h)
  unfold eOp
  rw [ho]
  exact ⟨v, .inl ⟨by simp [Region.wanted, hg], by rw [if_neg (by decide), if_pos rfl]; exact fun w2 he => ((loads_op _ o ⟨t, x, hop⟩).run he h1).2⟩, h2⟩
theorem eOp_look2 {K0 : Act → World → Prop} {i : Nat} {o : Oper} {a : Act} {w : World} {v : Value} (ho : ops[i]? = some o) (hg : o.guard = none)
    (h1 : ∀ w2, World.ExtO B w w2 → (execOp a.eval o).run P w2 = .ok (.value v) w2) (h2 : K0 (a.put o.dst v) w) : eOp P B ops Q .look i K0 a w := by
  unfold eOp
  rw [ho]
  exact ⟨v, .inl ⟨by simp [Region.wanted, hg], by rw [if_neg (by decide), if_pos rfl]; exact h1⟩, h2⟩
theorem eOp_act {K0 : Act → World → Prop} {i : Nat} {o : Oper} {a : Act} {w : World} (ho : ops[i]? = some o) (hg : o.guard = none)
    (h : ∀ K : Act → World → Prop, (∀ a w, K0 a w → K a w) → o.wp P a w K Q) : eOp P B ops Q .act i K0 a w := by
  have hw : Region.wanted o (yielded ops a.tmps) = true := by simp [Region.wanted, hg]
  unfold eOp
  rw [ho]
  simp only
  rw [if_pos hw]; exact .inl (h _ (fun _ _ h => h))
theorem wpET_id {l : ET} {a : Act} {w : World} (h : wpET P B ops Q l a w) : wpET P B ops Q l a w := h
theorem wpET_nil {a : Act} {w : World} (h : Q .normal a w) : wpET P B ops Q .nil a w := h
theorem wpET_free {t : ET} {i : Nat} {o : Oper} {a : Act} {w : World} (ho : ops[i]? = some o) (hg : o.guard = none)
    (h : ∀ K : Act → World → Prop, (∀ a w, wpET P B ops Q t a w → K a w) → ∃ v, (∀ w2, (execOp a.eval o).run P w2 = .ok (.value v) w2) ∧ K (a.put o.dst v) w) : wpET P B ops Q (.one i .free t) a w := by
  unfold wpET; exact eOp_free ho hg h
theorem wpET_look {t : ET} {i : Nat} {o : Oper} {a : Act} {w : World} {T : TypeId} {x : Operand} (ho : ops[i]? = some o) (hg : o.guard = none) (hop : o.op = .load T x)
    (h : ∀ K : Act → World → Prop, (∀ a w, wpET P none ops Q t a w → K a w) → ∃ v, (execOp a.eval o).run P w = .ok (.value v) w ∧ K (a.put o.dst v) w) : wpET P none ops Q (.one i .look t) a w := by
  unfold wpET; exact eOp_look ho hg hop h
theorem wpET_look2 {t : ET} {i : Nat} {o : Oper} {a : Act} {w : World} {v : Value} (ho : ops[i]? = some o) (hg : o.guard = none)
    (h1 : ∀ w2, World.ExtO B w w2 → (execOp a.eval o).run P w2 = .ok (.value v) w2) (h2 : wpET P B ops Q t (a.put o.dst v) w) : wpET P B ops Q (.one i .look t) a w := by
  unfold wpET; exact eOp_look2 ho hg h1 h2
theorem wpET_act {t : ET} {i : Nat} {o : Oper} {a : Act} {w : World} (ho : ops[i]? = some o) (hg : o.guard = none)
    (h : ∀ K : Act → World → Prop, (∀ a w, wpET P B ops Q t a w → K a w) → o.wp P a w K Q) : wpET P B ops Q (.one i .act t) a w := by
  unfold wpET; exact eOp_act ho hg h
theorem eOp_make {K0 : Act → World → Prop} {i : Nat} {o : Oper} {a : Act} {w : World} (ho : ops[i]? = some o) (hg : o.guard = none)
    (h : ∀ K : Act → World → Prop, (∀ a w, K0 a w → K a w) → ∃ v ob, (execOp a.eval o).run P w = .ok (.value v) (w.alloc ob) ∧ K (a.put o.dst v) (w.alloc ob)) : eOp P B ops Q .make i K0 a w := by
  have hw : Region.wanted o (yielded ops a.tmps) = true := by simp [Region.wanted, hg]
  unfold eOp
  rw [ho]
  simp only
  rw [if_pos hw]; exact h _ (fun _ _ h => h)
theorem eOp_grow {K0 : Act → World → Prop} {i : Nat} {o : Oper} {a : Act} {w : World} (ho : ops[i]? = some o) (hg : o.guard = none)
    (h : ∀ K : Act → World → Prop, (∀ a w', World.ExtO B w w' → K0 a w' → K a w') → o.wp P a w K Q) : eOp P B ops Q .grow i K0 a w := by
  have hw : Region.wanted o (yielded ops a.tmps) = true := by simp [Region.wanted, hg]
  unfold eOp
  rw [ho]
  simp only
  rw [if_pos hw]; exact .inl (h _ fun _ _ h1 h2 => ⟨h1, h2⟩)
theorem wpET_make {t : ET} {i : Nat} {o : Oper} {a : Act} {w : World} (ho : ops[i]? = some o) (hg : o.guard = none)
    (h : ∀ K : Act → World → Prop, (∀ a w, wpET P B ops Q t a w → K a w) → ∃ v ob, (execOp a.eval o).run P w = .ok (.value v) (w.alloc ob) ∧ K (a.put o.dst v) (w.alloc ob)) : wpET P B ops Q (.one i .make t) a w := by
  unfold wpET; exact eOp_make ho hg h
theorem wpET_grow {t : ET} {i : Nat} {o : Oper} {a : Act} {w : World} (ho : ops[i]? = some o) (hg : o.guard = none)
    (h : ∀ K : Act → World → Prop, (∀ a w', World.ExtO B w w' → wpET P B ops Q t a w' → K a w') → o.wp P a w K Q) : wpET P B ops Q (.one i .grow t) a w := by
  unfold wpET; exact eOp_grow ho hg h
theorem wpET_two {t u : ET} {i j : Nat} {c d : Cls} {a : Act} {w : World} (h : eOp P B ops Q c i (wpET P B ops Q t) a w) (h2 : eOp P B ops Q d j (wpET P B ops Q u) a w) : wpET P B ops Q (.two i c t j d u) a w := by
  unfold wpET; exact ⟨h, h2⟩
theorem wpET_three {t u v : ET} {i j k : Nat} {c d e : Cls} {a : Act} {w : World} (h : eOp P B ops Q c i (wpET P B ops Q t) a w) (h2 : eOp P B ops Q d j (wpET P B ops Q u) a w) (h3 : eOp P B ops Q e k (wpET P B ops Q v) a w) :
    wpET P B ops Q (.three i c t j d u k e v) a w := by
  unfold wpET; exact ⟨h, h2, h3⟩
theorem eOp_id {K0 : Act → World → Prop} {c : Cls} {i : Nat} {a : Act} {w : World} (h : eOp P B ops Q c i K0 a w) : eOp P B ops Q c i K0 a w := h
end
end Go

namespace Go.Proofs.Wx
open Go Go.RowKit
theorem Blk.newAt {w : World} {n : Nat} {cs : List Value} {T : TypeId} {fr : Nat × Nat} (e : n = w.heap.size) : Blk (w.alloc (.cells cs.toArray T fr)) n cs T fr := e ▸ Blk.new
theorem shNewReader {w : World} {r sb : Nat} {xs : List UInt8} (h : Rdr w r sb xs 0) :
    Calls Tryz.prog 160 #[.iface 63 (.pointer (some ⟨r, 0, none⟩))] w fun e w' =>
      ∃ z q, e = .returned (.iface 320 (.pointer (some ⟨z, 0, none⟩))) ∧ Slk w' z q r sb xs 0 ∧ w.heap.size ≤ z ∧ w.heap.size ≤ q ∧ Fr [] w w' := by
  have hlt := h.lt
  have hge := h.ge
  go_enter Tryz.func160, Tryz.ntmps160
  go_wp2
  go_ret
  refine ⟨w.heap.size + 1, w.heap.size, rfl, ⟨⟨List.replicate 32 (.int .u8 0), by simp, ?_⟩, ⟨⟨0, 0, 0, ?_, by omega⟩, h.fr (S := []) (by exact frP) (by simp) (by simp), by omega, by omega⟩, by omega, by omega, by omega, by omega⟩, by omega, by omega, by exact frP⟩
  · exact Blk.conv (Blk.newAt (by simp)) rfl
  · exact blkP
theorem ph_info : (Tryz.prog.info? 296).map (fun i => (i.zero, i.size, i.bytes)) = some (some (.int .u8 0), 1, 1) := by kernel_rfl
theorem int_info : (Tryz.prog.info? 3).map (fun i => (i.zero, i.size, i.bytes)) = some (some (.int .i64 0), 1, 8) := by kernel_rfl
theorem cells_rep (v : Value) (hv : v.cells = #[v]) (n : Nat) : madeCells v.cells (n * 1) = (List.replicate n v).toArray := by
  have := toList_madeCells_one v (n * 1)
  rw [Nat.mul_one] at *
  rw [← this, hv]
theorem make_ph (w : World) : (Instr.makeSlice 295 (.int .i64 0) (.int .i64 10)).run Tryz.prog w = .ok (.slice (some ⟨w.heap.size, 0, none⟩) 0 10) (w.alloc (.cells (List.replicate 10 (Value.int .u8 0)).toArray 296 (0, 0))) := by
  obtain ⟨i, hi, hz, hs, hby⟩ := info_parts ph_info
  have hr := run_make (P := Tryz.prog) w _ _ i (.int .u8 0) ph_slice hi hz .i64 .i64 0 10 (by omega) (by omega) (by rw [hby]; omega) (by omega)
  rw [hs] at hr
  have e := cells_rep (.int .u8 0) rfl 10
  rw [← e]; exact hr
theorem make_int (w : World) : (Instr.makeSlice 49 (.int .i64 0) (.int .i64 10)).run Tryz.prog w = .ok (.slice (some ⟨w.heap.size, 0, none⟩) 0 10) (w.alloc (.cells (List.replicate 10 (Value.int .i64 0)).toArray 3 (0, 0))) := by
  obtain ⟨i, hi, hz, hs, hby⟩ := info_parts int_info
  have hr := run_make (P := Tryz.prog) w _ _ i (.int .i64 0) int_slice hi hz .i64 .i64 0 10 (by omega) (by omega) (by rw [hby]; omega) (by omega)
  rw [hs] at hr
  have e := cells_rep (.int .i64 0) rfl 10
  rw [← e]; exact hr
theorem newDecoder {w : World} {r sb : Nat} {xs : List UInt8} (h : Rdr w r sb xs 0) :
    Calls Tryz.prog 129 #[.agg #[.bool true, .bool false, .int .i64 0, .bool false, .bool false, .bool false, .bool false], .iface 63 (.pointer (some ⟨r, 0, none⟩))] w fun e w' =>
      ∃ d z q sk lf cs cl, e = .returned (.pointer (some ⟨d, 0, none⟩)) ∧ Dec w' d z q r sb sk lf xs 0 cs 0 0 cl 0 ∧ (w.heap.size ≤ d ∧ w.heap.size ≤ z ∧ w.heap.size ≤ q ∧ w.heap.size ≤ sk ∧ w.heap.size ≤ lf) ∧ Fr [] w w' := by
  have hlt := h.lt
  have hge := h.ge
  have hrd := fun (w' : World) (hf : Fr [] w w') => shNewReader (h.fr hf (by simp) (by simp))
  have hm1 := make_ph
  have hm2 := make_int
  go_enter Tryz.func129, Tryz.ntmps129
  go_wp2_with fail
  refine wp_region_tree mixed (fun i => if i = 0 then .look else if i = 1 ∨ i = 5 ∨ i = 7 then .free else if i = 2 then .grow else .make)
    (let e : ET := .one 5 .free (.one 6 .make (.one 7 .free .nil)); .one 0 .look (.one 1 .free (.three 2 .grow (.two 3 .make (.one 4 .make e) 4 .make (.one 3 .make e)) 3 .make (.two 2 .grow (.one 4 .make e) 4 .make (.one 2 .grow e)) 4 .make (.two 2 .grow (.one 3 .make e) 3 .make (.one 2 .grow e))))) (by kernel_rfl) ?_
  go_wp2_with (first
    | (go_at_call 160; refine (hrd _ (by exact frP)).mono ?_; rintro e w1 ⟨z, q, rfl, hS1, hz, hq, hF1⟩; try go_simp; refine hK _ _ (fun b hb => hF1.block b hb (by simp)) ?_)
    | (with_reducible refine wpET_id ?_; (first | (refine wpET_nil ?_; skip) | (refine wpET_look rfl rfl rfl (fun K hK => ?_); go_simp) | (refine wpET_free rfl rfl (fun K hK => ?_); go_simp) | (refine wpET_make rfl rfl (fun K hK => ?_); go_simp; try refine ⟨_, _, ⟨rfl, rfl⟩, ?_⟩) | (refine wpET_grow rfl rfl (fun K hK => ?_); go_simp) | (refine wpET_two ?_ ?_) | (refine wpET_three ?_ ?_ ?_)))
    | (with_reducible refine eOp_id ?_; (first | (refine eOp_make rfl rfl (fun K hK => ?_); go_simp; try refine ⟨_, _, ⟨rfl, rfl⟩, ?_⟩) | (refine eOp_grow rfl rfl (fun K hK => ?_); go_simp))))
  all_goals
    have hsz := hF1.size
    have hqz : z < w1.heap.size ∧ q < w1.heap.size := by
      obtain ⟨⟨scr, _, hB⟩, ⟨⟨l, s, b, hb, _⟩, _⟩, _⟩ := hS1
      exact ⟨hB.lt, hb.lt⟩
    have hrs := hS1.hs.hr.lt
    simp at hsz hz hq
  · go_ret
    refine ⟨w1.heap.size + 1 + 1, z, q, w1.heap.size, w1.heap.size + 1, List.replicate 10 (.int .u8 0), List.replicate 10 (.int .i64 0), rfl, ⟨by (exact Blk.conv (by repeat (first | (with_reducible assumption) | (with_reducible apply Blk.drew) | (with_reducible apply Blk.set) | (with_reducible apply Blk.setNe (by (first | (with_reducible assumption) | (simp; done) | (simp; omega)))) | (with_reducible refine Blk.newAt ?_; (simp; done)) | (with_reducible apply Blk.alloc) | fail)) (by first | rfl | (simp; done))), hS1.fr (S := []) (by (repeat (first | exact Fr.refl | (with_reducible refine Fr.drew ?_) | (with_reducible refine Fr.setCell (by simp; done) ?_) | (with_reducible refine Fr.setCell (by simp; omega) ?_) | (with_reducible refine Fr.alloc ?_)))) (by simp) (by simp) (by simp) (by simp), by (exact Blk.conv (by repeat (first | (with_reducible assumption) | (with_reducible apply Blk.drew) | (with_reducible apply Blk.set) | (with_reducible apply Blk.setNe (by (first | (with_reducible assumption) | (simp; done) | (simp; omega)))) | (with_reducible refine Blk.newAt ?_; (simp; done)) | (with_reducible apply Blk.alloc) | fail)) (by first | rfl | (simp; done))), by (exact Blk.conv (by repeat (first | (with_reducible assumption) | (with_reducible apply Blk.drew) | (with_reducible apply Blk.set) | (with_reducible apply Blk.setNe (by (first | (with_reducible assumption) | (simp; done) | (simp; omega)))) | (with_reducible refine Blk.newAt ?_; (simp; done)) | (with_reducible apply Blk.alloc) | fail)) (by first | rfl | (simp; done))), by simp, by simp, by omega, by omega, by omega, by omega⟩, by omega, ?_⟩
    exact Fr.trans (S := []) (S' := []) (w' := w1) (Fr.trans (S := []) (S' := []) (by (repeat (first | exact Fr.refl | (with_reducible refine Fr.drew ?_) | (with_reducible refine Fr.setCell (by simp; done) ?_) | (with_reducible refine Fr.setCell (by simp; omega) ?_) | (with_reducible refine Fr.alloc ?_)))) hF1 (by simp)) (by (repeat (first | exact Fr.refl | (with_reducible refine Fr.drew ?_) | (with_reducible refine Fr.setCell (by simp; done) ?_) | (with_reducible refine Fr.setCell (by simp; omega) ?_) | (with_reducible refine Fr.alloc ?_)))) (by simp)
  · go_ret
    refine ⟨w1.heap.size + 1 + 1, z, q, w1.heap.size + 1, w1.heap.size, List.replicate 10 (.int .u8 0), List.replicate 10 (.int .i64 0), rfl, ⟨by (exact Blk.conv (by repeat (first | (with_reducible assumption) | (with_reducible apply Blk.drew) | (with_reducible apply Blk.set) | (with_reducible apply Blk.setNe (by (first | (with_reducible assumption) | (simp; done) | (simp; omega)))) | (with_reducible refine Blk.newAt ?_; (simp; done)) | (with_reducible apply Blk.alloc) | fail)) (by first | rfl | (simp; done))), hS1.fr (S := []) (by (repeat (first | exact Fr.refl | (with_reducible refine Fr.drew ?_) | (with_reducible refine Fr.setCell (by simp; done) ?_) | (with_reducible refine Fr.setCell (by simp; omega) ?_) | (with_reducible refine Fr.alloc ?_)))) (by simp) (by simp) (by simp) (by simp), by (exact Blk.conv (by repeat (first | (with_reducible assumption) | (with_reducible apply Blk.drew) | (with_reducible apply Blk.set) | (with_reducible apply Blk.setNe (by (first | (with_reducible assumption) | (simp; done) | (simp; omega)))) | (with_reducible refine Blk.newAt ?_; (simp; done)) | (with_reducible apply Blk.alloc) | fail)) (by first | rfl | (simp; done))), by (exact Blk.conv (by repeat (first | (with_reducible assumption) | (with_reducible apply Blk.drew) | (with_reducible apply Blk.set) | (with_reducible apply Blk.setNe (by (first | (with_reducible assumption) | (simp; done) | (simp; omega)))) | (with_reducible refine Blk.newAt ?_; (simp; done)) | (with_reducible apply Blk.alloc) | fail)) (by first | rfl | (simp; done))), by simp, by simp, by omega, by omega, by omega, by omega⟩, by omega, ?_⟩
    exact Fr.trans (S := []) (S' := []) (w' := w1) (Fr.trans (S := []) (S' := []) (by (repeat (first | exact Fr.refl | (with_reducible refine Fr.drew ?_) | (with_reducible refine Fr.setCell (by simp; done) ?_) | (with_reducible refine Fr.setCell (by simp; omega) ?_) | (with_reducible refine Fr.alloc ?_)))) hF1 (by simp)) (by (repeat (first | exact Fr.refl | (with_reducible refine Fr.drew ?_) | (with_reducible refine Fr.setCell (by simp; done) ?_) | (with_reducible refine Fr.setCell (by simp; omega) ?_) | (with_reducible refine Fr.alloc ?_)))) (by simp)
  · go_ret
    have hB0 := Fr.blk hF1 (b := w.heap.size + 1) (by repeat (first | (with_reducible apply Blk.drew) | (with_reducible refine Blk.newAt ?_; (simp; done)) | (with_reducible apply Blk.alloc))) (by simp)
    refine ⟨w1.heap.size + 1, z, q, w.heap.size + 1, w1.heap.size, List.replicate 10 (.int .u8 0), List.replicate 10 (.int .i64 0), rfl, ⟨by (exact Blk.conv (by repeat (first | (with_reducible assumption) | (with_reducible apply Blk.drew) | (with_reducible apply Blk.set) | (with_reducible apply Blk.setNe (by (first | (with_reducible assumption) | (simp; done) | (simp; omega)))) | (with_reducible refine Blk.newAt ?_; (simp; done)) | (with_reducible apply Blk.alloc) | fail)) (by first | rfl | (simp; done))), hS1.fr (S := []) (by (repeat (first | exact Fr.refl | (with_reducible refine Fr.drew ?_) | (with_reducible refine Fr.setCell (by simp; done) ?_) | (with_reducible refine Fr.setCell (by simp; omega) ?_) | (with_reducible refine Fr.alloc ?_)))) (by simp) (by simp) (by simp) (by simp), by (exact Blk.conv (by repeat (first | (with_reducible assumption) | (with_reducible apply Blk.drew) | (with_reducible apply Blk.set) | (with_reducible apply Blk.setNe (by (first | (with_reducible assumption) | (simp; done) | (simp; omega)))) | (with_reducible refine Blk.newAt ?_; (simp; done)) | (with_reducible apply Blk.alloc) | fail)) (by first | rfl | (simp; done))), by (exact Blk.conv (by repeat (first | (with_reducible assumption) | (with_reducible apply Blk.drew) | (with_reducible apply Blk.set) | (with_reducible apply Blk.setNe (by (first | (with_reducible assumption) | (simp; done) | (simp; omega)))) | (with_reducible refine Blk.newAt ?_; (simp; done)) | (with_reducible apply Blk.alloc) | fail)) (by first | rfl | (simp; done))), by simp, by simp, by omega, by omega, by omega, by omega⟩, by omega, ?_⟩
    exact Fr.trans (S := []) (S' := []) (w' := w1) (Fr.trans (S := []) (S' := []) (by (repeat (first | exact Fr.refl | (with_reducible refine Fr.drew ?_) | (with_reducible refine Fr.setCell (by simp; done) ?_) | (with_reducible refine Fr.setCell (by simp; omega) ?_) | (with_reducible refine Fr.alloc ?_)))) hF1 (by simp)) (by (repeat (first | exact Fr.refl | (with_reducible refine Fr.drew ?_) | (with_reducible refine Fr.setCell (by simp; done) ?_) | (with_reducible refine Fr.setCell (by simp; omega) ?_) | (with_reducible refine Fr.alloc ?_)))) (by simp)
  · go_ret
    have hB0 := Fr.blk hF1 (b := w.heap.size + 1) (by repeat (first | (with_reducible apply Blk.drew) | (with_reducible refine Blk.newAt ?_; (simp; done)) | (with_reducible apply Blk.alloc))) (by simp)
    have hB1 := Fr.blk hF1 (b := w.heap.size + 1 + 1) (by repeat (first | (with_reducible apply Blk.drew) | (with_reducible refine Blk.newAt ?_; (simp; done)) | (with_reducible apply Blk.alloc))) (by simp)
    refine ⟨w1.heap.size, z, q, w.heap.size + 1, w.heap.size + 1 + 1, List.replicate 10 (.int .u8 0), List.replicate 10 (.int .i64 0), rfl, ⟨by (exact Blk.conv (by repeat (first | (with_reducible assumption) | (with_reducible apply Blk.drew) | (with_reducible apply Blk.set) | (with_reducible apply Blk.setNe (by (first | (with_reducible assumption) | (simp; done) | (simp; omega)))) | (with_reducible refine Blk.newAt ?_; (simp; done)) | (with_reducible apply Blk.alloc) | fail)) (by first | rfl | (simp; done))), hS1.fr (S := []) (by (repeat (first | exact Fr.refl | (with_reducible refine Fr.drew ?_) | (with_reducible refine Fr.setCell (by simp; done) ?_) | (with_reducible refine Fr.setCell (by simp; omega) ?_) | (with_reducible refine Fr.alloc ?_)))) (by simp) (by simp) (by simp) (by simp), by (exact Blk.conv (by repeat (first | (with_reducible assumption) | (with_reducible apply Blk.drew) | (with_reducible apply Blk.set) | (with_reducible apply Blk.setNe (by (first | (with_reducible assumption) | (simp; done) | (simp; omega)))) | (with_reducible refine Blk.newAt ?_; (simp; done)) | (with_reducible apply Blk.alloc) | fail)) (by first | rfl | (simp; done))), by (exact Blk.conv (by repeat (first | (with_reducible assumption) | (with_reducible apply Blk.drew) | (with_reducible apply Blk.set) | (with_reducible apply Blk.setNe (by (first | (with_reducible assumption) | (simp; done) | (simp; omega)))) | (with_reducible refine Blk.newAt ?_; (simp; done)) | (with_reducible apply Blk.alloc) | fail)) (by first | rfl | (simp; done))), by simp, by simp, by omega, by omega, by omega, by omega⟩, by omega, ?_⟩
    exact Fr.trans (S := []) (S' := []) (w' := w1) (Fr.trans (S := []) (S' := []) (by (repeat (first | exact Fr.refl | (with_reducible refine Fr.drew ?_) | (with_reducible refine Fr.setCell (by simp; done) ?_) | (with_reducible refine Fr.setCell (by simp; omega) ?_) | (with_reducible refine Fr.alloc ?_)))) hF1 (by simp)) (by (repeat (first | exact Fr.refl | (with_reducible refine Fr.drew ?_) | (with_reducible refine Fr.setCell (by simp; done) ?_) | (with_reducible refine Fr.setCell (by simp; omega) ?_) | (with_reducible refine Fr.alloc ?_)))) (by simp)
  · go_ret
    have hB0 := Fr.blk hF1 (b := w.heap.size + 1) (by repeat (first | (with_reducible apply Blk.drew) | (with_reducible refine Blk.newAt ?_; (simp; done)) | (with_reducible apply Blk.alloc))) (by simp)
    refine ⟨w1.heap.size + 1, z, q, w1.heap.size, w.heap.size + 1, List.replicate 10 (.int .u8 0), List.replicate 10 (.int .i64 0), rfl, ⟨by (exact Blk.conv (by repeat (first | (with_reducible assumption) | (with_reducible apply Blk.drew) | (with_reducible apply Blk.set) | (with_reducible apply Blk.setNe (by (first | (with_reducible assumption) | (simp; done) | (simp; omega)))) | (with_reducible refine Blk.newAt ?_; (simp; done)) | (with_reducible apply Blk.alloc) | fail)) (by first | rfl | (simp; done))), hS1.fr (S := []) (by (repeat (first | exact Fr.refl | (with_reducible refine Fr.drew ?_) | (with_reducible refine Fr.setCell (by simp; done) ?_) | (with_reducible refine Fr.setCell (by simp; omega) ?_) | (with_reducible refine Fr.alloc ?_)))) (by simp) (by simp) (by simp) (by simp), by (exact Blk.conv (by repeat (first | (with_reducible assumption) | (with_reducible apply Blk.drew) | (with_reducible apply Blk.set) | (with_reducible apply Blk.setNe (by (first | (with_reducible assumption) | (simp; done) | (simp; omega)))) | (with_reducible refine Blk.newAt ?_; (simp; done)) | (with_reducible apply Blk.alloc) | fail)) (by first | rfl | (simp; done))), by (exact Blk.conv (by repeat (first | (with_reducible assumption) | (with_reducible apply Blk.drew) | (with_reducible apply Blk.set) | (with_reducible apply Blk.setNe (by (first | (with_reducible assumption) | (simp; done) | (simp; omega)))) | (with_reducible refine Blk.newAt ?_; (simp; done)) | (with_reducible apply Blk.alloc) | fail)) (by first | rfl | (simp; done))), by simp, by simp, by omega, by omega, by omega, by omega⟩, by omega, ?_⟩
    exact Fr.trans (S := []) (S' := []) (w' := w1) (Fr.trans (S := []) (S' := []) (by (repeat (first | exact Fr.refl | (with_reducible refine Fr.drew ?_) | (with_reducible refine Fr.setCell (by simp; done) ?_) | (with_reducible refine Fr.setCell (by simp; omega) ?_) | (with_reducible refine Fr.alloc ?_)))) hF1 (by simp)) (by (repeat (first | exact Fr.refl | (with_reducible refine Fr.drew ?_) | (with_reducible refine Fr.setCell (by simp; done) ?_) | (with_reducible refine Fr.setCell (by simp; omega) ?_) | (with_reducible refine Fr.alloc ?_)))) (by simp)
  · go_ret
    have hB0 := Fr.blk hF1 (b := w.heap.size + 1) (by repeat (first | (with_reducible apply Blk.drew) | (with_reducible refine Blk.newAt ?_; (simp; done)) | (with_reducible apply Blk.alloc))) (by simp)
    have hB1 := Fr.blk hF1 (b := w.heap.size + 1 + 1) (by repeat (first | (with_reducible apply Blk.drew) | (with_reducible refine Blk.newAt ?_; (simp; done)) | (with_reducible apply Blk.alloc))) (by simp)
    refine ⟨w1.heap.size, z, q, w.heap.size + 1 + 1, w.heap.size + 1, List.replicate 10 (.int .u8 0), List.replicate 10 (.int .i64 0), rfl, ⟨by (exact Blk.conv (by repeat (first | (with_reducible assumption) | (with_reducible apply Blk.drew) | (with_reducible apply Blk.set) | (with_reducible apply Blk.setNe (by (first | (with_reducible assumption) | (simp; done) | (simp; omega)))) | (with_reducible refine Blk.newAt ?_; (simp; done)) | (with_reducible apply Blk.alloc) | fail)) (by first | rfl | (simp; done))), hS1.fr (S := []) (by (repeat (first | exact Fr.refl | (with_reducible refine Fr.drew ?_) | (with_reducible refine Fr.setCell (by simp; done) ?_) | (with_reducible refine Fr.setCell (by simp; omega) ?_) | (with_reducible refine Fr.alloc ?_)))) (by simp) (by simp) (by simp) (by simp), by (exact Blk.conv (by repeat (first | (with_reducible assumption) | (with_reducible apply Blk.drew) | (with_reducible apply Blk.set) | (with_reducible apply Blk.setNe (by (first | (with_reducible assumption) | (simp; done) | (simp; omega)))) | (with_reducible refine Blk.newAt ?_; (simp; done)) | (with_reducible apply Blk.alloc) | fail)) (by first | rfl | (simp; done))), by (exact Blk.conv (by repeat (first | (with_reducible assumption) | (with_reducible apply Blk.drew) | (with_reducible apply Blk.set) | (with_reducible apply Blk.setNe (by (first | (with_reducible assumption) | (simp; done) | (simp; omega)))) | (with_reducible refine Blk.newAt ?_; (simp; done)) | (with_reducible apply Blk.alloc) | fail)) (by first | rfl | (simp; done))), by simp, by simp, by omega, by omega, by omega, by omega⟩, by omega, ?_⟩
    exact Fr.trans (S := []) (S' := []) (w' := w1) (Fr.trans (S := []) (S' := []) (by (repeat (first | exact Fr.refl | (with_reducible refine Fr.drew ?_) | (with_reducible refine Fr.setCell (by simp; done) ?_) | (with_reducible refine Fr.setCell (by simp; omega) ?_) | (with_reducible refine Fr.alloc ?_)))) hF1 (by simp)) (by (repeat (first | exact Fr.refl | (with_reducible refine Fr.drew ?_) | (with_reducible refine Fr.setCell (by simp; done) ?_) | (with_reducible refine Fr.setCell (by simp; omega) ?_) | (with_reducible refine Fr.alloc ?_)))) (by simp)
end Go.Proofs.Wx

namespace Go
section
variable {P : Program} {ops : Array Oper} {Q : Exit → Act → World → Prop}
theorem op_store (T : TypeId) {x y : Operand} {ds : Option Tmp} {ty : TypeId} {po : String} {af : Array Edge} {a : Act} {w : World} {K : Act → World → Prop} (h : Oper.wp P { dst := ds, op := .store T x y, type := ty, pos := po, after := af, guard := none } a w K Q) : Oper.wp P { dst := ds, op := .store T x y, type := ty, pos := po, after := af, guard := none } a w K Q := h
theorem list_store (T : TypeId) {x y : Operand} {ds : Option Tmp} {ty : TypeId} {po : String} {af : Array Edge} {rest : List Oper} {a : Act} {w : World} (h : ∀ K : Act → World → Prop, (∀ a w, wpList P ops Q rest a w → K a w) → Oper.wp P { dst := ds, op := .store T x y, type := ty, pos := po, after := af, guard := none } a w K Q) : wpList P ops Q ({ dst := ds, op := .store T x y, type := ty, pos := po, after := af, guard := none } :: rest) a w := wpList_plain rfl h
end
namespace Proofs.Wx
open Go.RowKit
/-- A whole struct is stored into its block. -/
theorem storeRow {o : Oper} {a : Act} {w : World} {K : Act → World → Prop} {Q : Exit → Act → World → Prop} (ty : TypeId) (x y : Operand) (ho : o.op = .store ty x y)
    (g : Nat) (cells : List Value) (hx : a.eval x = .pointer (some ⟨g, 0, none⟩)) (hy : a.eval y = .agg cells.toArray) (t : TypeId) (old : List Value) (hg : Blk w g old t (0, 0))
    (hi : (Tryz.prog.info? ty).map (·.size) = some cells.length) (hold : old.length = cells.length) (h1 : cells.all (·.oneCell') = true)
    (h : ∀ w', Blk w' g cells t (0, 0) → Fr [g] w w' → K (a.put o.dst undef) w') : o.wp Tryz.prog a w K Q :=
  wp_store_row ty x y ho g cells.toArray hx hy t old.toArray hg (by simpa using hi) (by simpa using hold) (by simpa using h1) (h _ (Blk.setRow (cs' := cells) hg) (Fr.setRow (.inl (by simp)) Fr.refl))
end Proofs.Wx
end Go
