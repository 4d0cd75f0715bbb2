import Derived.Test.YtgbfgjhndkkncaaGreatDoorM1
import Derived.Test.YtgbfgjhndkkncaaGreatDoorM7
import Derived.Test.YtgbfgjhndkkncaaGreatDoorM12
import Derived.Maps.RangeRun
import Derived.MapKept
import Derived.Sort.AssemblyPlain
import Derived.Sort.WalkC4
import Derived.Sort.WalkB3
import Derived.Sort.Walk7
import Derived.Sort.WalkA6
import Derived.Sort.Walk13
import Derived.Deep.LoopGhost
set_option maxRecDepth 100000
set_option maxHeartbeats 1000000
set_option linter.unusedVariables false
set_option linter.unusedSimpArgs false
namespace Go.Proofs.Wx
open Go Go.RowKit
open Go.ChangeMaps (setBlock)
theorem Fr.setBlock {S : List Nat} {w w' : World} {g : Nat} {o : Obj} (hg : g ∈ S ∨ w.heap.size ≤ g) (h : Fr S w w') : Fr S w (setBlock w' g o) :=
  ⟨h.os, h.tape, h.output, by have := h.size; simp [ChangeMaps.setBlock]; omega, fun k hk hn => by
    have : g ≠ k := fun e => by rcases hg with hg | hg; exact hn (e ▸ hg); omega
    simp [ChangeMaps.setBlock, this]; exact h.block k hk hn⟩
def kv (q : IntKind) (x : Nat × Value) : Value × Value := (.int q (x.1 : Nat), x.2)
theorem kv_cons {q : IntKind} {e : MapEntry} {es : List MapEntry} {L : List (Nat × Value)} (h : (e :: es).map (fun e => (e.key, e.val)) = L.map (kv q)) :
    ∃ k v L', L = (k, v) :: L' ∧ e.key = .int q (k : Nat) ∧ e.val = v ∧ es.map (fun e => (e.key, e.val)) = L'.map (kv q) := by
  cases L with
  | nil => simp at h
  | cons x L' =>
    obtain ⟨k, v⟩ := x
    simp [kv] at h
    exact ⟨k, v, L', rfl, h.1.1, h.1.2, by simpa [kv] using h.2⟩
theorem sameNow_int (q : IntKind) (a b : Nat) : Instr.sameNow (.int q) (.int q (a : Nat)) (.int q (b : Nat)) = some (a == b) := by
  have : (((a : Nat) : Int) == ((b : Nat) : Int)) = (a == b) := by
    by_cases h : a = b
    · subst h; simp
    · rw [beq_eq_false_iff_ne.2 h, beq_eq_false_iff_ne]; omega
  rw [← this]
  show (if q = q then some (((a : Nat) : Int) == ((b : Nat) : Int)) else none) = _
  rw [if_pos rfl]
theorem find_none (q : IntKind) (k : Nat) : ∀ (es : List MapEntry) (L : List (Nat × Value)) (i : Nat), es.map (fun e => (e.key, e.val)) = L.map (kv q) → L.lookup k = none →
    Instr.findNow (.int q) (.int q (k : Nat)) es i = some none
  | [], _, _, _, _ => rfl
  | e :: es, L, i, h, hk => by
    obtain ⟨k', v, L', rfl, h1, h2, h3⟩ := kv_cons h
    rw [List.lookup_cons] at hk
    by_cases e1 : k = k'
    · subst e1; simp at hk
    · rw [show (k == k') = false by simpa using e1] at hk
      rw [Instr.findNow, h1, sameNow_int, show (k == k') = false by simpa using e1]
      exact find_none q k es L' _ h3 hk
theorem find_some (q : IntKind) (k : Nat) (v : Value) : ∀ (es : List MapEntry) (L : List (Nat × Value)) (i : Nat), es.map (fun e => (e.key, e.val)) = L.map (kv q) → L.lookup k = some v →
    ∃ j, Instr.findNow (.int q) (.int q (k : Nat)) es i = some (some (i + j, v)) ∧ L[j]? = some (k, v)
  | [], L, _, h, hk => by
    cases L with
    | nil => simp at hk
    | cons => simp at h
  | e :: es, L, i, h, hk => by
    obtain ⟨k', v', L', rfl, h1, h2, h3⟩ := kv_cons h
    rw [List.lookup_cons] at hk
    by_cases e1 : k = k'
    · subst e1
      simp at hk
      refine ⟨0, ?_, by simp [hk]⟩
      rw [Instr.findNow, h1, sameNow_int]
      simp [h2, hk]
    · rw [show (k == k') = false by simpa using e1] at hk
      obtain ⟨j, hj1, hj2⟩ := find_some q k v es L' (i + 1) h3 hk
      refine ⟨j + 1, ?_, by simpa using hj2⟩
      rw [Instr.findNow, h1, sameNow_int, show (k == k') = false by simpa using e1]
      simp only [hj1]; congr 3; omega
/-- Block b is a map of these entries, in the order in which they came. -/
def Mp (w : World) (b : Nat) (q : IntKind) (L : List (Nat × Value)) : Prop := ∃ es clock, w.heap[b]? = some (.map es clock) ∧ es.toList.map (fun e => (e.key, e.val)) = L.map (kv q) ∧
  (es.toList.map (·.born)).Nodup ∧ (∀ e ∈ es.toList, e.born < clock)
section
variable {P : Program} {w w' : World} {b : Nat} {q : IntKind} {L : List (Nat × Value)}
theorem Mp.lt (h : Mp w b q L) : b < w.heap.size := by obtain ⟨es, c, h1, _⟩ := h; exact (Array.getElem?_eq_some_iff.1 h1).1
theorem Mp.fr {S : List Nat} (h : Mp w b q L) (hf : Fr S w w') (hn : b ∉ S) : Mp w' b q L := by
  have hl := h.lt
  obtain ⟨es, c, h1, h2⟩ := h
  exact ⟨es, c, by rw [hf.block b hl hn]; exact h1, h2⟩
theorem Mp.new : Mp (w.alloc (.map #[] 0)) w.heap.size q [] := ⟨#[], 0, by show (w.heap.push _)[w.heap.size]? = _; simp, rfl, by simp, by simp⟩
theorem isKey (q : IntKind) (k : Nat) : MapKept.IsKey (.int q) (.int q (k : Nat)) := by first | exact ⟨_, rfl⟩ | (simp [MapKept.IsKey]; done) | trivial
theorem Mp.look (h : Mp w b q L) {T K E : TypeId} (hu : P.underlying T = some (.map K E)) (hk : P.underlying K = some (.int q)) {z : Value} (hz : ∀ w, (zeroValue E).run P w = .ok z w) (k : Nat) (c : Bool) :
    (Instr.lookup T (.map (some b)) (.int q (k : Nat)) c).run P w = .ok (if c then .tuple #[(L.lookup k).getD z, .bool (L.lookup k).isSome] else (L.lookup k).getD z) w := by
  obtain ⟨es, clock, h1, h2, h3, h4⟩ := h
  have hck : ∀ e, (Instr.checkKey e 10000 K (.int q (k : Nat))).run P w = .ok () w := fun e => MapKept.run_checkKey hk (isKey q k) e 9999
  cases hl : L.lookup k with
  | none =>
    have hf := MapKept.run_findKey (P := P) (w := w) hk (find_none q k es.toList L 0 h2 hl)
    simp [Instr.lookup, run_underlying hu, getObj, Sem.run_bind, Sem.run, h1, Result.andThen, hck, hf, hz]
  | some v =>
    obtain ⟨j, hj, _⟩ := find_some q k v es.toList L 0 h2 hl
    have hf := MapKept.run_findKey (P := P) (w := w) hk hj
    simp [Instr.lookup, run_underlying hu, getObj, Sem.run_bind, Sem.run, h1, Result.andThen, hck, hf]
theorem stays (q : IntKind) (k : Nat) : (Instr.keyThatStays (.int q (k : Nat)) (.int q (k : Nat))).run P w = .ok (.int q (k : Nat)) w := by
  simp [Instr.keyThatStays, Instr.sameBits, Sem.run]
theorem Mp.put (h : Mp w b q L) {T K E : TypeId} (hu : P.underlying T = some (.map K E)) (hk : P.underlying K = some (.int q)) (k : Nat) (v : Value) :
    ∃ w', (Instr.mapUpdate T (.map (some b)) (.int q (k : Nat)) v).run P w = .ok () w' ∧ Fr [b] w w' ∧
      ((L.lookup k = none ∧ Mp w' b q (L ++ [(k, v)])) ∨ ∃ j v0, L[j]? = some (k, v0) ∧ L.lookup k = some v0 ∧ Mp w' b q (L.set j (k, v))) := by
  have hlt := h.lt
  obtain ⟨es, clock, h1, h2, h3, h4⟩ := h
  have hck : ∀ e, (Instr.checkKey e 10000 K (.int q (k : Nat))).run P w = .ok () w := fun e => MapKept.run_checkKey hk (isKey q k) e 9999
  have hso : ∀ o', (setObj b o').run P w = .ok () (setBlock w b o') := fun o' => by simp [setObj, Sem.run, h1, ChangeMaps.setBlock]
  have hnb : ∀ o', (setBlock w b o').heap[b]? = some o' := fun o' => by simp [ChangeMaps.setBlock, hlt]
  cases hl : L.lookup k with
  | none =>
    have hf := MapKept.run_findKey (P := P) (w := w) hk (find_none q k es.toList L 0 h2 hl)
    refine ⟨setBlock w b (.map (es.push { key := .int q (k : Nat), val := v, born := clock }) (clock + 1)), ?_, Fr.setBlock (.inl (by simp)) Fr.refl, .inl ⟨rfl, _, _, hnb _, ?_, ?_, ?_⟩⟩
    · simp [Instr.mapUpdate, run_underlying hu, getObj, Sem.run_bind, Sem.run, h1, Result.andThen, hck, hf, hso]
    · simp [h2, kv]
    · simp only [Array.toList_push, List.map_append, List.map_cons, List.map_nil]
      rw [List.nodup_append]
      refine ⟨h3, by simp, ?_⟩
      intro a ha c hc
      simp at ha hc
      obtain ⟨e, he, rfl⟩ := ha
      have := h4 e (by simpa using he)
      omega
    · intro e he
      simp at he
      rcases he with he | rfl
      · have := h4 e (by simpa using he); omega
      · simp
  | some v0 =>
    obtain ⟨j, hj, hLj⟩ := find_some q k v0 es.toList L 0 h2 hl
    have hf := MapKept.run_findKey (P := P) (w := w) hk hj
    have hjl : j < es.toList.length := by
      have := congrArg List.length h2
      have := (List.getElem?_eq_some_iff.1 hLj).1
      simp at *; omega
    have hjs : j < es.size := by simpa using hjl
    have hkj : es[j]? = some (es[j]'hjs) := by simp [hjs]
    have hke : (es[j]'hjs).key = .int q (k : Nat) := by
      have := congrArg (fun l => l[j]?) h2
      simp only [List.getElem?_map, hLj, List.getElem?_eq_getElem hjl, Option.map_some, kv] at this
      simpa using (congrArg Prod.fst (Option.some.inj this))
    refine ⟨setBlock w b (.map (es.modify (0 + j) fun e => { e with key := .int q (k : Nat), val := v }) clock), ?_, Fr.setBlock (.inl (by simp)) Fr.refl, .inr ⟨j, v0, hLj, rfl, _, _, hnb _, ?_, ?_, ?_⟩⟩
    · simp [Instr.mapUpdate, run_underlying hu, getObj, Sem.run_bind, Sem.run, h1, Result.andThen, hck, hf, hso, hkj, hke, stays]
    · rw [Array.toList_modify, Nat.zero_add]
      refine List.ext_getElem? fun i => ?_
      have := congrArg (fun l => l[i]?) h2
      simp only [List.getElem?_map, List.getElem?_modify, List.getElem?_set] at this ⊢
      by_cases hij : j = i
      · subst hij
        have hjL : j < L.length := (List.getElem?_eq_some_iff.1 hLj).1
        simp [List.getElem?_eq_getElem hjl, kv, hjL]
      · simpa [hij] using this
    · rw [Array.toList_modify]
      have : (es.toList.modify (0 + j) fun e => { e with key := .int q (k : Nat), val := v }).map (·.born) = es.toList.map (·.born) := by
        refine List.ext_getElem? fun i => ?_
        simp only [List.getElem?_map, List.getElem?_modify]
        by_cases hij : j = i
        · simp [hij]; cases es[i]? <;> rfl
        · simp [hij]
      rw [this]; exact h3
    · intro e he
      rw [Array.toList_modify] at he
      obtain ⟨i, hi⟩ := List.mem_iff_getElem?.1 he
      rw [List.getElem?_modify] at hi
      obtain ⟨e', he', rfl⟩ := Option.map_eq_some_iff.1 hi
      have := h4 e' (List.mem_of_getElem? he')
      split <;> simpa using this
/-- Block r is an iterator over the map b; these entries are still to come. -/
def It (w : World) (r b : Nat) (q : IntKind) (rem : List (Nat × Value)) : Prop := ∃ es clock seen, w.heap[b]? = some (.map es clock) ∧ w.heap[r]? = some (.mapIter (some b) clock seen clock) ∧
  (leftOf es seen).toList.map (fun e => (e.key, e.val)) = rem.map (kv q) ∧ (es.toList.map (·.born)).Nodup ∧ (∀ e ∈ es.toList, e.born < clock)
/-- The iterator r has just handed out this entry. -/
def Ent (w : World) (r b : Nat) (k : Value) (v : Value) : Prop := ∃ (es : Array MapEntry) (clock : Nat) (seen : Array Nat) (e : MapEntry), w.heap[b]? = some (.map es clock) ∧ w.heap[r]? = some (.mapIter (some b) clock (seen.push e.born) clock) ∧ e ∈ es.toList ∧ (es.toList.map (·.born)).Nodup ∧ e.key = k ∧ e.val = v
theorem It.fr {r : Nat} {rem : List (Nat × Value)} {S : List Nat} (h : It w r b q rem) (hf : Fr S w w') (hr : r ∉ S) (hb : b ∉ S) : It w' r b q rem := by
  obtain ⟨es, c, seen, h1, h2, h3⟩ := h
  exact ⟨es, c, seen, by rw [hf.block b (Array.getElem?_eq_some_iff.1 h1).1 hb]; exact h1, by rw [hf.block r (Array.getElem?_eq_some_iff.1 h2).1 hr]; exact h2, h3⟩
theorem Ent.fr {r : Nat} {k v : Value} {S : List Nat} (h : Ent w r b k v) (hf : Fr S w w') (hr : r ∉ S) (hb : b ∉ S) : Ent w' r b k v := by
  obtain ⟨es, c, seen, e, h1, h2, h3⟩ := h
  exact ⟨es, c, seen, e, by rw [hf.block b (Array.getElem?_eq_some_iff.1 h1).1 hb]; exact h1, by rw [hf.block r (Array.getElem?_eq_some_iff.1 h2).1 hr]; exact h2, h3⟩
theorem Ent.run {r : Nat} {k v : Value} (h : Ent w r b k v) : (Instr.entry (.pointer (some ⟨r, 0, none⟩))).run P w = .ok (.tuple #[k, v]) w := by
  obtain ⟨es, c, seen, e, h1, h2, h3, h4, rfl, rfl⟩ := h
  exact run_entry_at w r b c seen es c e h2 h1 h3 h4
theorem Mp.range (h : Mp w b q L) {T K E : TypeId} (hu : P.underlying T = some (.map K E)) :
    ∃ ob, (Instr.range T (.map (some b))).run P w = .ok (.pointer (some ⟨w.heap.size, 0, none⟩)) (w.alloc ob) ∧ It (w.alloc ob) w.heap.size b q L := by
  have hlt := h.lt
  obtain ⟨es, clock, h1, h2, h3, h4⟩ := h
  refine ⟨.mapIter (some b) clock #[] clock, ?_, es, clock, #[], ?_, by show (w.heap.push _)[w.heap.size]? = _; simp, ?_, h3, h4⟩
  · simp [Instr.range, run_underlying hu, getObj, newObj, Sem.run_bind, Sem.run, h1, Result.andThen]
  · rw [Below.heap_alloc _ _ _ hlt]; exact h1
  · show ((es.filter fun e => !(#[] : Array Nat).contains e.born).toList).map _ = _
    rw [Array.toList_filter, List.filter_eq_self.2 (by simp)]; exact h2
theorem It.next {r : Nat} {rem : List (Nat × Value)} (h : It w r b q rem) (ty : TypeId) (hrb : r ≠ b) :
    (rem = [] ∧ (Instr.next (.pointer (some ⟨r, 0, none⟩)) false ty).run P w = .ok (.tuple #[.bool false]) w) ∨
    ∃ k v rem' w', rem.Perm ((k, v) :: rem') ∧ (Instr.next (.pointer (some ⟨r, 0, none⟩)) false ty).run P w = .ok (.tuple #[.bool true, .int q (k : Nat), v]) w' ∧ It w' r b q rem' ∧ Ent w' r b (.int q (k : Nat)) v ∧ Fr [r] w w' := by
  obtain ⟨es, clock, seen, h1, h2, h3, h4, h5⟩ := h
  have hrl := (Array.getElem?_eq_some_iff.1 h2).1
  have hl := h3
  rcases run_next_at (P := P) w ty r b clock clock seen es clock h2 h1 h5 (Nat.le_refl _) with ⟨h0, hrun⟩ | ⟨e, he, w1, hw1, hrun⟩
  · left
    refine ⟨?_, hrun⟩
    have := congrArg List.length h3
    simp [h0] at this
    exact List.eq_nil_of_length_eq_zero this.symm
  · right
    obtain ⟨heE, hes⟩ := mem_left he
    -- the entry among the pairs
    have hmem : (e.key, e.val) ∈ rem.map (kv q) := by rw [← h3]; exact List.mem_map.2 ⟨e, he, rfl⟩
    obtain ⟨x, hx, hxe⟩ := List.mem_map.1 hmem
    obtain ⟨k, v⟩ := x
    simp only [kv, Prod.mk.injEq] at hxe
    -- what is left behind it
    have hleft : (leftOf es seen).toList.Perm (e :: (leftOf es (seen.push e.born)).toList) := by
      have hnd : ((leftOf es seen).toList.map (·.born)).Nodup := by
        refine List.Sublist.nodup ?_ h4
        unfold leftOf
        rw [Array.toList_filter]
        exact List.Sublist.map _ List.filter_sublist
      have hsplit : (leftOf es (seen.push e.born)).toList = (leftOf es seen).toList.filter (fun x => x.born != e.born) := by
        unfold leftOf
        simp only [Array.toList_filter, List.filter_filter]
        refine List.filter_congr fun x _ => ?_
        simp [Array.contains_iff_mem, bne, Bool.and_comm]
        by_cases hxb : x.born = e.born <;> simp [hxb]
      rw [hsplit]
      clear hsplit h3 hl hrun
      generalize (leftOf es seen).toList = l at *
      induction l with
      | nil => simp at he
      | cons y l ih =>
        simp only [List.map_cons, List.nodup_cons] at hnd
        rcases List.mem_cons.1 he with rfl | he'
        · have : l.filter (fun x => x.born != e.born) = l := List.filter_eq_self.2 fun x hx => by
            have : x.born ≠ e.born := fun hb => hnd.1 (hb ▸ List.mem_map.2 ⟨x, hx, rfl⟩)
            simpa using this
          simp [this]
        · have hyb : y.born ≠ e.born := fun hb => hnd.1 (hb ▸ List.mem_map.2 ⟨e, he', rfl⟩)
          have := ih he' hnd.2
          rw [List.filter_cons_of_pos (by simpa using hyb)]
          exact (this.cons y).trans (List.Perm.swap ..)
    have hp : (rem.map (kv q)).Perm ((kv q (k, v)) :: (leftOf es (seen.push e.born)).toList.map (fun e => (e.key, e.val))) := by
      rw [← h3]
      have := hleft.map (fun e : MapEntry => (e.key, e.val))
      simpa [kv, hxe.1, hxe.2] using this
    -- pull the permutation back
    let g : Value × Value → Nat × Value := fun x => (match x.1 with | .int _ n => n.toNat | _ => 0, x.2)
    have hg : ∀ x, g (kv q x) = x := fun x => by obtain ⟨a, c⟩ := x; simp [g, kv]
    have hgm : ∀ l : List (Nat × Value), (l.map (kv q)).map g = l := fun l => by rw [List.map_map]; exact (List.map_congr_left fun x _ => hg x).trans (List.map_id l)
    have hrem' : (leftOf es (seen.push e.born)).toList.map (fun e => (e.key, e.val)) = (((leftOf es (seen.push e.born)).toList.map (fun e => (e.key, e.val))).map g).map (kv q) := by
      rw [List.map_map]
      refine ((List.map_congr_left fun y hy => ?_).trans (List.map_id _)).symm
      have : y ∈ rem.map (kv q) := hp.mem_iff.2 (List.mem_cons_of_mem _ hy)
      obtain ⟨x, _, rfl⟩ := List.mem_map.1 this
      show kv q (g (kv q x)) = id (kv q x)
      rw [hg]; rfl
    have hperm : rem.Perm ((k, v) :: ((leftOf es (seen.push e.born)).toList.map (fun e => (e.key, e.val))).map g) := by
      have := hp.map g
      rwa [hgm, List.map_cons, hg] at this
    have hbr : ∀ o, (setBlock w1 r o).heap[b]? = some (.map es clock) := fun o => by
      have : w1.heap = w.heap := by rcases hw1 with rfl | rfl <;> rfl
      simp [ChangeMaps.setBlock, this, Array.getElem?_setIfInBounds, hrb, h1]
    have hrr : ∀ o, (setBlock w1 r o).heap[r]? = some o := fun o => by
      have : w1.heap = w.heap := by rcases hw1 with rfl | rfl <;> rfl
      simp [ChangeMaps.setBlock, this, hrl]
    refine ⟨k, v, _, _, hperm, by rw [hxe.1, hxe.2]; exact hrun, ⟨es, clock, _, hbr _, hrr _, hrem', h4, h5⟩, ⟨es, clock, seen, e, hbr _, hrr _, heE, h4, hxe.1.symm, hxe.2.symm⟩, ?_⟩
    refine Fr.setBlock (.inl (by simp)) ?_
    rcases hw1 with rfl | rfl
    · exact Fr.refl
    · exact Fr.drew Fr.refl
end
end Go.Proofs.Wx

namespace Go.Proofs.Wx
open Go Go.RowKit
def upd {α : Type} (f : Nat → α) (n : Nat) (v : α) : Nat → α := fun m => if m = n then v else f m
theorem upd_same {α : Type} {f : Nat → α} {n : Nat} {v : α} : upd f n v n = v := by simp [upd]
theorem upd_ne {α : Type} {f : Nat → α} {n m : Nat} {v : α} (h : m ≠ n) : upd f n v m = f m := by simp [upd, h]
/-- mapUpdate. -/
theorem putStep {o : Oper} {a : Act} {K : Act → World → Prop} {Q : Exit → Act → World → Prop} {w : World} (m k v : Operand) (T : TypeId) (ho : o.op = .mapUpdate T m k v) {b n : Nat} {q : IntKind} {L : List (Nat × Value)} {x : Value} (hm : a.eval m = .map (some b)) (hk : a.eval k = .int q (n : Nat)) (hv : a.eval v = x)
    (h : Mp w b q L) {Kt E : TypeId} (hu : Tryz.prog.underlying T = some (.map Kt E)) (hkt : Tryz.prog.underlying Kt = some (.int q))
    (H : ∀ w', Fr [b] w w' → ((L.lookup n = none ∧ Mp w' b q (L ++ [(n, x)])) ∨ ∃ j v0, L[j]? = some (n, v0) ∧ L.lookup n = some v0 ∧ Mp w' b q (L.set j (n, x))) → K (a.put o.dst undef) w') : o.wp Tryz.prog a w K Q := by
  obtain ⟨w', hr, hF, hM⟩ := h.put (P := Tryz.prog) hu hkt n x
  unfold Oper.wp execOp
  simp only [ho, hm, hk, hv, Sem.run_bind, Sem.run_pure, Result.andThen_ok, hr]
  first | exact H w' hF hM | (simpa [Oper.upon] using H w' hF hM)
theorem look_map {f : Nat → Value} {n : Nat} : ∀ {ks : List Nat}, (ks.map fun n => (n, f n)).lookup n = if n ∈ ks then some (f n) else none
  | [] => by simp
  | k :: ks => by
    rw [List.map_cons, List.lookup_cons]
    by_cases e : n = k
    · subst e; simp
    · rw [show (n == k) = false by simpa using e, look_map]; simp [e]
theorem set_map {f : Nat → Value} {n j : Nat} {v v0 : Value} {ks : List Nat} (hd : ks.Nodup) (hj : (ks.map fun n => (n, f n))[j]? = some (n, v0)) : (ks.map fun n => (n, f n)).set j (n, v) = ks.map fun m => (m, upd f n v m) := by
  refine List.ext_getElem? fun i => ?_
  rw [List.getElem?_set]
  simp only [List.getElem?_map, List.length_map]
  rw [List.getElem?_map] at hj
  obtain ⟨k0, hk0, he⟩ := Option.map_eq_some_iff.1 hj
  have hk : k0 = n := (Prod.mk.inj he).1
  subst hk
  have hjl := (List.getElem?_eq_some_iff.1 hk0).1
  by_cases e : j = i
  · subst e
    have e3 : ks[j] = k0 := (List.getElem?_eq_some_iff.1 hk0).2
    simp [hjl, e3, upd_same]
  · rw [if_neg e]
    cases hi : ks[i]? with
    | none => rfl
    | some m =>
      have hne : m ≠ k0 := by
        intro e2
        subst e2
        exact e ((List.getElem?_inj hjl hd).1 (hk0.trans hi.symm))
      simp [upd_ne hne]
/-- Block M is a map from these keys to rows. -/
structure Tab (w : World) (base M : Nat) (q : IntKind) (T : TypeId) (ks : List Nat) (rv : Nat → Value) (rr : Nat → List (List Value)) : Prop where
  map : Mp w M q (ks.map fun n => (n, rv n))
  baseM : base ≤ M
  nodup : ks.Nodup
  row : ∀ n ∈ ks, w.ownsRow base T 2 (rv n) (rr n).length (rr n).flatten
  sl : ∀ n ∈ ks, ∃ g c, rv n = .slice (some ⟨g, 0, none⟩) (rr n).length c ∧ g ≠ M
  dis : ∀ n ∈ ks, ∀ m ∈ ks, n ≠ m → (rv n).ownBlock ≠ (rv m).ownBlock
section
variable {w w' : World} {base M : Nat} {q : IntKind} {T : TypeId} {ks : List Nat} {rv : Nat → Value} {rr : Nat → List (List Value)}
theorem Tab.fr {S : List Nat} (h : Tab w base M q T ks rv rr) (hf : Fr S w w') (hM : M ∉ S) (hS : ∀ k ∈ S, k < base ∨ ∀ n ∈ ks, (rv n).ownBlock ≠ some k) : Tab w' base M q T ks rv rr :=
  ⟨h.map.fr hf hM, h.baseM, h.nodup, fun n hn => own_fr (h.row n hn) hf fun k hk => (hS k hk).imp id fun h => h n hn, h.sl, h.dis⟩
theorem Tab.ownLt (h : Tab w base M q T ks rv rr) {n : Nat} (hn : n ∈ ks) {k : Nat} (hk : (rv n).ownBlock = some k) : base ≤ k ∧ k < w.heap.size ∧ k ≠ M := by
  obtain ⟨g, c, e, hg⟩ := h.sl n hn
  have := (h.row n hn).lt k hk
  rw [e] at hk
  simp [Value.ownBlock] at hk
  subst hk
  exact ⟨this.1, this.2, hg⟩
theorem Tab.start (hM : Mp w M q []) (hb : base ≤ M) : Tab w base M q T [] rv rr := ⟨hM, hb, by simp, by simp, by simp, by simp⟩
/-- A new key, of an empty row. -/
theorem Tab.add {n g c : Nat} (h : Tab w base M q T ks rv rr) (hn : n ∉ ks) (hF : Fr [M] w w') (hO : w'.ownsRow base T 2 (.slice (some ⟨g, 0, none⟩) 0 c) 0 []) (hg : w.heap.size ≤ g)
    (hM : Mp w' M q ((ks.map fun n => (n, rv n)) ++ [(n, .slice (some ⟨g, 0, none⟩) 0 c)])) : Tab w' base M q T (ks ++ [n]) (upd rv n (.slice (some ⟨g, 0, none⟩) 0 c)) (upd rr n []) := by
  have hne : ∀ m ∈ ks, m ≠ n := fun m hm e => hn (e ▸ hm)
  have hMl := h.map.lt
  refine ⟨?_, h.baseM, ?_, ?_, ?_, ?_⟩
  · refine (congrArg (Mp w' M q) ?_).mp hM
    rw [List.map_append, List.map_singleton, upd_same]
    congr 1
    exact List.map_congr_left fun m hm => by rw [upd_ne (hne m hm)]
  · rw [List.nodup_append]
    exact ⟨h.nodup, by simp, fun a ha b hb => by simp at hb; subst hb; exact hne a ha⟩
  · intro m hm
    rcases List.mem_append.1 hm with hm | hm
    · rw [upd_ne (hne m hm), upd_ne (hne m hm)]
      exact own_fr (h.row m hm) hF fun k hk => .inr fun e => by simp at hk; exact (h.ownLt hm e).2.2 hk
    · simp at hm; subst hm
      rw [upd_same, upd_same]; exact hO
  · intro m hm
    rcases List.mem_append.1 hm with hm | hm
    · rw [upd_ne (hne m hm), upd_ne (hne m hm)]; exact h.sl m hm
    · simp at hm; subst hm
      rw [upd_same, upd_same]; exact ⟨g, c, rfl, by omega⟩
  · have hx : ∀ m ∈ ks, (rv m).ownBlock ≠ some g := fun m hm e => by have := (h.ownLt hm e).2.1; omega
    intro m hm m' hm' hd
    rcases List.mem_append.1 hm with h1 | h1 <;> rcases List.mem_append.1 hm' with h2 | h2
    · rw [upd_ne (hne m h1), upd_ne (hne m' h2)]; exact h.dis m h1 m' h2 hd
    · simp at h2; subst h2
      rw [upd_ne (hne m h1), upd_same]; exact hx m h1
    · simp at h1; subst h1
      rw [upd_ne (hne m' h2), upd_same]; exact fun e => hx m' h2 e.symm
    · simp at h1 h2; omega
/-- A row, longer by an element. -/
theorem Tab.set {n g' c' j : Nat} {v0 : Value} {x : List Value} (h : Tab w base M q T ks rv rr) (hn : n ∈ ks) (hF : Fr (M :: (rv n).ownBlock.toList) w w') (hO : w'.ownsRow base T 2 (.slice (some ⟨g', 0, none⟩) ((rr n).length + 1) c') ((rr n).length + 1) ((rr n).flatten ++ x))
    (hg : (rv n).ownBlock = some g' ∨ w.heap.size ≤ g') (hM : Mp w' M q ((ks.map fun n => (n, rv n)).set j (n, .slice (some ⟨g', 0, none⟩) ((rr n).length + 1) c'))) (hj : (ks.map fun n => (n, rv n))[j]? = some (n, v0)) :
    Tab w' base M q T ks (upd rv n (.slice (some ⟨g', 0, none⟩) ((rr n).length + 1) c')) (upd rr n (rr n ++ [x])) := by
  have hMl := h.map.lt
  have hgM : g' ≠ M := by
    rcases hg with hg | hg
    · exact (h.ownLt hn hg).2.2
    · omega
  have hx : ∀ m ∈ ks, m ≠ n → (rv m).ownBlock ≠ some g' := fun m hm hd e => by
    rcases hg with hg | hg
    · exact h.dis m hm n hn hd (by rw [e, hg])
    · have := (h.ownLt hm e).2.1; omega
  refine ⟨?_, h.baseM, h.nodup, ?_, ?_, ?_⟩
  · rw [set_map h.nodup hj] at hM; exact hM
  · intro m hm
    by_cases e : m = n
    · subst e; rw [upd_same, upd_same]; simpa using hO
    · rw [upd_ne e, upd_ne e]
      refine own_fr (h.row m hm) hF fun k hk => .inr fun e2 => ?_
      rcases List.mem_cons.1 hk with rfl | hk
      · exact (h.ownLt hm e2).2.2 rfl
      · exact h.dis m hm n hn e (by rw [e2]; simpa using (by simpa using hk : (rv n).ownBlock = some k).symm)
  · intro m hm
    by_cases e : m = n
    · subst e; rw [upd_same, upd_same]; exact ⟨g', c', by simp, hgM⟩
    · rw [upd_ne e, upd_ne e]; exact h.sl m hm
  · intro m hm m' hm' hd
    by_cases e : m = n
    · subst e
      rw [upd_same, upd_ne (Ne.symm hd)]; exact fun e => hx m' hm' (Ne.symm hd) e.symm
    · by_cases e' : m' = n
      · subst e'; rw [upd_same, upd_ne e]; exact hx m hm e
      · rw [upd_ne e, upd_ne e']; exact h.dis m hm m' hm' hd
end
end Go.Proofs.Wx

namespace Go.Proofs.Wx
open Go Go.RowKit Go.Sort
/-- What a sort turns: in which worlds the row holds d; which blocks it lies in. -/
structure St (α : Type) [Inhabited α] where
  S : Array α → World → Prop
  own : List Nat
  fr : ∀ {d w w' X}, S d w → Fr X w w' → (∀ k ∈ X, k ∉ own) → S d w'
  lt : ∀ {d w}, S d w → ∀ k ∈ own, k < w.heap.size
/-- w has come from w0; the row holds d. -/
def St.At {α : Type} [Inhabited α] (s : St α) (w0 : World) (d : Array α) (w : World) : Prop := s.S d w ∧ Fr s.own w0 w
section
variable {α : Type} [Inhabited α] {s : St α} {w0 w w' : World} {d d' : Array α} {X : List Nat}
theorem St.At.start (h : s.S d w) : s.At w d w := ⟨h, Fr.refl⟩
theorem St.At.fr (h : s.At w0 d w) (hf : Fr X w w') (hX : ∀ k ∈ X, k ∉ s.own ∧ w0.heap.size ≤ k) : s.At w0 d w' :=
  ⟨s.fr h.1 hf fun k hk => (hX k hk).1, h.2.trans hf fun k hk hl => absurd hl (by have := (hX k hk).2; omega)⟩
theorem St.At.same (h : s.At w0 d w) (hf : Fr [] w w') : s.At w0 d w' := h.fr hf (by simp)
theorem St.At.swap (h : s.At w0 d w) (hs : s.S d' w') (hf : Fr s.own w w') : s.At w0 d' w' := ⟨hs, h.2.trans hf fun _ hk _ => hk⟩
theorem St.At.drew (h : s.At w0 d w) : s.At w0 d w.drew := h.same (Fr.drew Fr.refl)
theorem St.At.drewN {n : Nat} (h : s.At w0 d w) : s.At w0 d (w.drewN n) := h.same (Fr.drewN Fr.refl)
theorem St.At.alloc {o : Obj} (h : s.At w0 d w) : s.At w0 d (w.alloc o) := h.same (Fr.alloc Fr.refl)
/-- A block that came behind w0 is none of the row's, if w0 holds the row. -/
theorem St.At.new {d0 : Array α} (h0 : s.S d0 w0) {k : Nat} (hk : w0.heap.size ≤ k) : k ∉ s.own := fun hm => by have := s.lt h0 k hm; omega
theorem St.At.size (h : s.At w0 d w) : w0.heap.size ≤ w.heap.size := h.2.size
end
@[go_sem] theorem ahead_recordSet_Less (a : Addr) (m c : Nat) (w : World) : (nilAhead 560 410 (.slice (some a) m c) "Less").run Tryz.prog w = .ok (some false) w := by kernel_rfl
@[go_sem] theorem meth_recordSet_Less (a : Addr) (m c : Nat) (w : World) : (method 560 410 (.slice (some a) m c) "Less").run Tryz.prog w = .ok (378, .slice (some a) m c) w := by kernel_rfl
@[go_sem] theorem ahead_recordSet_Swap (a : Addr) (m c : Nat) (w : World) : (nilAhead 560 410 (.slice (some a) m c) "Swap").run Tryz.prog w = .ok (some false) w := by kernel_rfl
@[go_sem] theorem meth_recordSet_Swap (a : Addr) (m c : Nat) (w : World) : (method 560 410 (.slice (some a) m c) "Swap").run Tryz.prog w = .ok (379, .slice (some a) m c) w := by kernel_rfl
@[go_sem] theorem ahead_recordSet_Len (a : Addr) (m c : Nat) (w : World) : (nilAhead 560 410 (.slice (some a) m c) "Len").run Tryz.prog w = .ok (some false) w := by kernel_rfl
@[go_sem] theorem meth_recordSet_Len (a : Addr) (m c : Nat) (w : World) : (method 560 410 (.slice (some a) m c) "Len").run Tryz.prog w = .ok (377, .slice (some a) m c) w := by kernel_rfl
/-- sort.Sort's data: a recordSet whose methods read and write the row. -/
structure IfS {α : Type} [Inhabited α] (ra : Addr) (rm rc : Nat) (s : St α) (lt : α → α → Bool) (n : Nat) : Prop where
  less : ∀ {d : Array α} {w : World} {i j : Nat}, s.S d w → d.size = n → i < n → j < n → Calls Tryz.prog 378 #[.slice (some ra) rm rc, .int .i64 i, .int .i64 j] w fun e w' => e = .returned (.bool (lt d[i]! d[j]!)) ∧ Fr [] w w'
  swap : ∀ {d : Array α} {w : World} {i j : Nat}, s.S d w → d.size = n → i < n → j < n → Calls Tryz.prog 379 #[.slice (some ra) rm rc, .int .i64 i, .int .i64 j] w fun e w' => e = .returned (.tuple #[]) ∧ s.S (swp d i j) w' ∧ Fr s.own w w'
  big : n < 4611686018427387904
section
variable {α : Type} [Inhabited α] {s : St α} {ra : Addr} {rm rc n : Nat} {lt : α → α → Bool}
theorem IfS.lessAt (D : IfS ra rm rc s lt n) (w0 : World) {d : Array α} (i j : Nat) {x y : Int} {v : Bool} (hn : d.size = n) (hi : i < n) (hj : j < n) (hv : lt d[i]! d[j]! = v) (hx : x = (i : Int)) (hy : y = (j : Int)) (w : World) (hA : s.At w0 d w) :
    Calls Tryz.prog 378 #[.slice (some ra) rm rc, .int .i64 x, .int .i64 y] w fun e w' => e = .returned (.bool v) ∧ s.At w0 d w' ∧ Fr [] w w' := by
  subst hx hy hv
  exact (D.less hA.1 hn hi hj).mono fun e w' ⟨h1, h2⟩ => ⟨h1, hA.same h2, h2⟩
theorem IfS.swapAt (D : IfS ra rm rc s lt n) (w0 : World) {d : Array α} (i j : Nat) {x y : Int} (hn : d.size = n) (hi : i < n) (hj : j < n) (hx : x = (i : Int)) (hy : y = (j : Int)) (w : World) (hA : s.At w0 d w) :
    Calls Tryz.prog 379 #[.slice (some ra) rm rc, .int .i64 x, .int .i64 y] w fun e w' => e = .returned (.tuple #[]) ∧ s.At w0 (swp d i j) w' ∧ Fr s.own w w' := by
  subst hx hy
  exact (D.swap hA.1 hn hi hj).mono fun e w' ⟨h1, h2, h3⟩ => ⟨h1, hA.swap h2 h3, h3⟩
end
/-- Closed by a tactic: the row holds d. -/
theorem atP {α : Type} [Inhabited α] {s : St α} {w0 w : World} {d : Array α} (h : s.At w0 d w := by (repeat (first | (with_reducible assumption) | (with_reducible refine St.At.drew ?_) | (with_reducible refine St.At.drewN ?_) | (with_reducible refine St.At.alloc ?_)))) : s.At w0 d w := h
end Go.Proofs.Wx
