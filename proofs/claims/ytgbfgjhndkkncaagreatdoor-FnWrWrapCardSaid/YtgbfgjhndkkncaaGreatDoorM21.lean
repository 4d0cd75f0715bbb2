import Derived.Test.YtgbfgjhndkkncaaGreatDoorM6
import Derived.Test.YtgbfgjhndkkncaaGreatDoorM10
import Derived.Test.YtgbfgjhndkkncaaGreatDoorM11
import Derived.Test.YtgbfgjhndkkncaaGreatDoorM12
import Derived.Test.YtgbfgjhndkkncaaGreatDoorM16
import Derived.Test.YtgbfgjhndkkncaaGreatDoorM20
set_option maxRecDepth 100000
set_option maxHeartbeats 1000000
set_option linter.unusedVariables false
set_option linter.unusedSimpArgs false
set_option linter.deprecated false
namespace Go.Proofs.Wx
open Go Go.RowKit Go.Sort
structure DRec where
  b : Nat
  o : Nat
  c : Nat
  off : Nat
  dig : List UInt8
deriving Inhabited
def DRec.sl (x : DRec) : Value := .slice (some ⟨x.b, x.o, none⟩) x.dig.length x.c
def DRec.enc (x : DRec) : List Value := [x.sl, .int .u64 x.off]
def dltR (x y : DRec) : Bool := decide (x.dig < y.dig)
theorem swo_dltR : SWO dltR where
  irrefl x := by simp [dltR, List.lt_irrefl]
  trans x y z h1 h2 := by simp only [dltR, decide_eq_true_eq] at *; exact List.lt_trans h1 h2
  ntrans x y z h1 h2 := by
    simp only [dltR, decide_eq_false_iff_not, List.not_lt] at *
    exact List.le_trans h2 h1
def encs (l : List DRec) : List Value := l.flatMap DRec.enc
theorem encs_get : ∀ {l : List DRec} {i : Nat} {x : DRec}, l[i]? = some x → (encs l)[i * 2]? = some x.sl ∧ (encs l)[i * 2 + 1]? = some (.int .u64 x.off)
  | y :: l, 0, x, h => by simp at h; subst h; simp [encs, DRec.enc]
  | y :: l, i + 1, x, h => by
    have := encs_get (l := l) (i := i) (x := x) (by simpa using h)
    have e : (i + 1) * 2 = i * 2 + 1 + 1 := by omega
    rw [e]
    simpa [encs, DRec.enc] using this
theorem encs_length (l : List DRec) : (encs l).length = l.length * 2 := by
  induction l with
  | nil => rfl
  | cons x l ih => simp [encs, DRec.enc] at *; omega
theorem encs_set : ∀ (l : List DRec) (i : Nat) (y : DRec), i < l.length → encs (l.set i y) = ((encs l).set (i * 2) y.sl).set (i * 2 + 1) (.int .u64 y.off)
  | x :: l, 0, y, _ => by simp [encs, DRec.enc]
  | x :: l, i + 1, y, h => by
    have := encs_set l i y (by simpa using h)
    have e : (i + 1) * 2 = i * 2 + 1 + 1 := by omega
    rw [e]
    simp only [List.set_cons_succ]
    show DRec.enc x ++ encs (l.set i y) = _
    rw [this]
    simp [encs, DRec.enc]
/-- The rows at block g; their digests lie in the blocks D. -/
def recSt (g : Nat) (D : List Nat) (rest : List Value) : St DRec where
  S d w := Blk w g (encs d.toList ++ rest) 408 (0, 0) ∧ (∀ x ∈ d.toList, Bs w x.b x.o x.dig ∧ x.b ∈ D) ∧ g ∉ D ∧ ∀ k ∈ D, k < w.heap.size
  own := g :: D
  fr := fun ⟨h1, h2, h3, h4⟩ hf hX => ⟨hf.blk h1 (fun hm => hX _ hm (by simp)), fun x hx => ⟨(h2 x hx).1.fr hf (fun hm => hX _ hm (by simp [(h2 x hx).2])), (h2 x hx).2⟩, h3, fun k hk => Nat.lt_of_lt_of_le (h4 k hk) hf.size⟩
  lt := fun ⟨h1, _, _, h4⟩ k hk => by
    rcases List.mem_cons.1 hk with rfl | hk
    · exact h1.lt
    · exact h4 k hk
theorem recLess {g n c i j : Nat} {D : List Nat} {rest : List Value} {d : Array DRec} {w : World} (hS : (recSt g D rest).S d w) (hn : d.size = n) (hi : i < n) (hj : j < n) (big : n < 1000000) :
    Calls Tryz.prog 378 #[.slice (some ⟨g, 0, none⟩) n c, .int .i64 i, .int .i64 j] w fun e w' => e = .returned (.bool (dltR d[i]! d[j]!)) ∧ Fr [] w w' := by
  obtain ⟨hB, hD, hgD, _⟩ := hS
  obtain ⟨x, hx⟩ : ∃ x, x = d[i]! := ⟨_, rfl⟩
  obtain ⟨y, hy⟩ : ∃ y, y = d[j]! := ⟨_, rfl⟩
  have gx : d.toList[i]? = some x := by rw [hx]; have : i < d.size := by omega
                                        simp [this]
  have gy : d.toList[j]? = some y := by rw [hy]; have : j < d.size := by omega
                                        simp [this]
  rw [← hx, ← hy]
  have cx : w.cell? ⟨g, i * 2, none⟩ = some (.slice (some ⟨x.b, x.o, none⟩) x.dig.length x.c) := by
    rw [hB.cell, List.getElem?_append_left (by rw [encs_length]; simp; omega)]; exact (encs_get gx).1
  have cy : w.cell? ⟨g, j * 2, none⟩ = some (.slice (some ⟨y.b, y.o, none⟩) y.dig.length y.c) := by
    rw [hB.cell, List.getElem?_append_left (by rw [encs_length]; simp; omega)]; exact (encs_get gy).1
  have bx := (hD x (List.mem_of_getElem? gx)).1
  have by' := (hD y (List.mem_of_getElem? gy)).1
  have hcm := fun w1 (h1 : Bs w1 x.b x.o x.dig) (h2 : Bs w1 y.b y.o y.dig) => bytesCompare (c1 := x.c) (c2 := y.c) h1 h2
  have HC := Lib.hid (compare_lt x.dig y.dig)
  clear hx hy gx gy hB hD
  generalize Lib.compareBytes x.dig y.dig = z at *
  go_enter Tryz.func378, Tryz.ntmps378
  go_wp2_with (first
    | go_at_call 380; (with_reducible refine (hcm _ (by first | exact bx | exact bx.drew) (by first | exact by' | exact by'.drew)).mono ?_); rintro e w2 ⟨rfl, rfl⟩
    | (refine wre 1 [(0,.free),(1,.free),(2,.free),(3,.free),(4,.look),(5,.free),(6,.free),(7,.free),(8,.free),(9,.look),(10,.act),(11,.free),(12,.free)] ?_)
    | (with_reducible refine wEI ?_; (first | (refine wEN ?_; skip) | (refine wEF rfl (fun K hK => ?_); go_simp) | (refine wEL rfl rfl (fun K hK => ?_); go_simp) | (refine wER rfl (fun K hK => ?_); go_simp) | (refine wEM rfl (fun K hK => ?_); go_simp; try refine ⟨_, _, ⟨rfl, rfl⟩, ?_⟩) | (refine wEG rfl (fun K hK => ?_); go_simp) | (refine wEA rfl (fun K hK => ?_); go_simp))))
  go_ret
  refine ⟨?_, by exact frP⟩
  have : decide (z < 0) = dltR x y := by unfold dltR; exact decide_eq_decide.2 HC.out
  rw [← this]; rfl
theorem encs_swp {d : Array DRec} {i j : Nat} (hi : i < d.size) (hj : j < d.size) : encs (swp d i j).toList = (((((encs d.toList).set (i * 2) d[j]!.sl).set (i * 2 + 1) (.int .u64 d[j]!.off)).set (j * 2) d[i]!.sl).set (j * 2 + 1) (.int .u64 d[i]!.off)) := by
  unfold swp
  rw [Array.toList_setIfInBounds, encs_set _ _ _ (by simp; omega), Array.toList_setIfInBounds, encs_set _ _ _ (by simpa using hi)]
theorem recSwap {g n c i j : Nat} {D : List Nat} {rest : List Value} {d : Array DRec} {w : World} (hS : (recSt g D rest).S d w) (hn : d.size = n) (hi : i < n) (hj : j < n) :
    Calls Tryz.prog 379 #[.slice (some ⟨g, 0, none⟩) n c, .int .i64 i, .int .i64 j] w fun e w' => e = .returned (.tuple #[]) ∧ (recSt g D rest).S (swp d i j) w' ∧ Fr (recSt g D rest).own w w' := by
  obtain ⟨hB, hD, hgD, hDl⟩ := hS
  obtain ⟨x, hx⟩ : ∃ x, x = d[i]! := ⟨_, rfl⟩
  obtain ⟨y, hy⟩ : ∃ y, y = d[j]! := ⟨_, rfl⟩
  have gx : d.toList[i]? = some x := by rw [hx]; have : i < d.size := by omega
                                        simp [this]
  have gy : d.toList[j]? = some y := by rw [hy]; have : j < d.size := by omega
                                        simp [this]
  have cx : w.cell? ⟨g, i * 2, none⟩ = some (.slice (some ⟨x.b, x.o, none⟩) x.dig.length x.c) := by
    rw [hB.cell, List.getElem?_append_left (by rw [encs_length]; simp; omega)]; exact (encs_get gx).1
  have cy : w.cell? ⟨g, j * 2, none⟩ = some (.slice (some ⟨y.b, y.o, none⟩) y.dig.length y.c) := by
    rw [hB.cell, List.getElem?_append_left (by rw [encs_length]; simp; omega)]; exact (encs_get gy).1
  have cx2 : w.cell? ⟨g, i * 2 + 1, none⟩ = some (.int .u64 x.off) := by
    rw [hB.cell, List.getElem?_append_left (by rw [encs_length]; simp; omega)]; exact (encs_get gx).2
  have cy2 : w.cell? ⟨g, j * 2 + 1, none⟩ = some (.int .u64 y.off) := by
    rw [hB.cell, List.getElem?_append_left (by rw [encs_length]; simp; omega)]; exact (encs_get gy).2
  have hf := hB.free
  have hX := Lib.hid (And.intro hx (And.intro hy (And.intro hB hD)))
  clear hx hy gx gy hB hD
  go_enter Tryz.func379, Tryz.ntmps379
  obtain ⟨v1, cw1⟩ := cell?_setCell_some (w := w) (p := ⟨g, i * 2, none⟩) (x := .slice (some ⟨y.b, y.o, none⟩) y.dig.length y.c) (q := ⟨g, j * 2, none⟩) cy
  obtain ⟨v2', cw2'⟩ := cell?_setCell_some (w := w) (p := ⟨g, i * 2, none⟩) (x := .slice (some ⟨y.b, y.o, none⟩) y.dig.length y.c) (q := ⟨g, j * 2 + 1, none⟩) cy2
  obtain ⟨v2, cw2⟩ := cell?_setCell_some (w := w.setCell ⟨g, i * 2, none⟩ (.slice (some ⟨y.b, y.o, none⟩) y.dig.length y.c)) (p := ⟨g, i * 2 + 1, none⟩) (x := .int .u64 y.off) (q := ⟨g, j * 2 + 1, none⟩) cw2'
  clear cw2'
  go_wp2_with (first
    | (refine wre 0 [(0,.free),(1,.free),(2,.free),(3,.free),(4,.free),(5,.free),(6,.free),(7,.look),(8,.free),(9,.free),(10,.free),(11,.look),(12,.free),(13,.act),(14,.free),(15,.act)] ?_)
    | (with_reducible refine wEI ?_; (first | (refine wEN ?_; skip) | (refine wEF rfl (fun K hK => ?_); go_simp) | (refine wEL rfl rfl (fun K hK => ?_); go_simp) | (refine wER rfl (fun K hK => ?_); go_simp) | (refine wEM rfl (fun K hK => ?_); go_simp; try refine ⟨_, _, ⟨rfl, rfl⟩, ?_⟩) | (refine wEG rfl (fun K hK => ?_); go_simp) | (refine wEA rfl (fun K hK => ?_); go_simp))))
  go_end0
  obtain ⟨hx, hy, hB, hD⟩ := hX.out
  have h1 : Blk (((((w.setCell ⟨g, i * 2, none⟩ y.sl).setCell ⟨g, i * 2 + 1, none⟩ (.int .u64 y.off)).setCell ⟨g, j * 2, none⟩ x.sl).setCell ⟨g, j * 2 + 1, none⟩ (.int .u64 x.off))) g (encs (swp d i j).toList ++ rest) 408 (0, 0) := by
    refine Blk.conv (((hB.set.set).set).set) ?_
    have l1 : (encs d.toList).length = d.size * 2 := by rw [encs_length]; simp
    rw [encs_swp (by omega) (by omega), ← hx, ← hy, List.set_append_left _ _ (by omega), List.set_append_left _ _ (by simp; omega), List.set_append_left _ _ (by simp; omega), List.set_append_left _ _ (by simp; omega)]
  have hF : Fr [g] w (((((w.setCell ⟨g, i * 2, none⟩ y.sl).setCell ⟨g, i * 2 + 1, none⟩ (.int .u64 y.off)).setCell ⟨g, j * 2, none⟩ x.sl).setCell ⟨g, j * 2 + 1, none⟩ (.int .u64 x.off))) := by exact frP
  have hm : ∀ z ∈ (swp d i j).toList, z ∈ d.toList := by
    intro z hz
    unfold swp at hz
    rw [Array.toList_setIfInBounds] at hz
    rcases List.mem_or_eq_of_mem_set hz with hz | rfl
    · rw [Array.toList_setIfInBounds] at hz
      rcases List.mem_or_eq_of_mem_set hz with hz | rfl
      · exact hz
      · have : j < d.size := by omega
        simp [this]
    · have : i < d.size := by omega
      simp [this]
  have hSf : (recSt g D rest).S (swp d i j) (((((w.setCell ⟨g, i * 2, none⟩ y.sl).setCell ⟨g, i * 2 + 1, none⟩ (.int .u64 y.off)).setCell ⟨g, j * 2, none⟩ x.sl).setCell ⟨g, j * 2 + 1, none⟩ (.int .u64 x.off))) :=
    ⟨h1, fun z hz => ⟨(hD z (hm z hz)).1.fr hF (by simp; intro e; exact hgD (e ▸ (hD z (hm z hz)).2)), (hD z (hm z hz)).2⟩, hgD, fun k hk => Nat.lt_of_lt_of_le (hDl k hk) hF.size⟩
  refine ⟨rfl, ?_, ?_⟩
  · exact (recSt g D rest).fr hSf (X := []) (by first | exact Fr.refl | exact Fr.drew Fr.refl | exact Fr.drew (Fr.drew Fr.refl)) (by simp)
  · refine Fr.trans (S := (recSt g D rest).own) (hF.mono (by simp [recSt])) (S' := []) (by first | exact Fr.refl | exact Fr.drew Fr.refl | exact Fr.drew (Fr.drew Fr.refl)) (by simp)
theorem recLen {g n c : Nat} {w : World} : Calls Tryz.prog 377 #[.slice (some ⟨g, 0, none⟩) n c] w fun e w' => e = .returned (.int .i64 n) ∧ Fr [] w w' := by
  go_enter Tryz.func377, Tryz.ntmps377
  go_wp2
  go_ret
  exact ⟨rfl, by exact frP⟩
/-- sort.Sort at a recordSet. -/
theorem recSort {g n c : Nat} {D : List Nat} {rest : List Value} {d : Array DRec} {w : World} (hLen : LenC) (hS : (recSt g D rest).S d w) (hn : d.size = n) (big : n < 1000000) :
    Calls Tryz.prog 279 #[.iface 410 (.slice (some ⟨g, 0, none⟩) n c)] w fun e w' => e = .returned (.tuple #[]) ∧ ∃ d', (recSt g D rest).S d' w' ∧ Fr (g :: D) w w' ∧ PermIn 0 n d d' ∧ SortedIn dltR 0 n d' :=
  sortI (s := recSt g D rest) (lt := dltR) ⟨fun h1 h2 h3 h4 => recLess h1 h2 h3 h4 big, fun h1 h2 h3 h4 => recSwap h1 h2 h3 h4, by omega⟩ swo_dltR hLen hS hn recLen
theorem LenC.holds : LenC := fun L w h => by
  have := Tryz.bits_Len (L : Int) w (by omega) (by omega)
  rwa [Int.toNat_natCast, bitLen_eq _ (by omega)] at this
end Go.Proofs.Wx

namespace Go.Proofs.Wx
open Go Go.RowKit
abbrev tDR : TypeId := 408
def Dg (w : World) (base M : Nat) (ks : List Nat) (rv : Nat → Value) (dr : Nat → List DRec) : Prop :=
  (∀ n ∈ ks, ∀ x ∈ dr n, Bs w x.b x.o x.dig ∧ base ≤ x.b ∧ x.b ≠ M ∧ ∀ m ∈ ks, (rv m).ownBlock ≠ some x.b) ∧ ∀ n ∈ ks, ∀ m ∈ ks, n ≠ m → ∀ x ∈ dr n, ∀ y ∈ dr m, x.b ≠ y.b
structure L1 (w : World) (base M : Nat) (d1 : List Itm) (extra : List Nat) (ks : List Nat) (rv : Nat → Value) (dr : Nat → List DRec) : Prop where
  tab : Tab w base M .i64 tDR ks rv (fun n => (dr n).map DRec.enc)
  mem : ∀ n, n ∈ ks ↔ (n ∈ d1.map fun e => e.1.dig.length) ∨ n ∈ extra
  pairs : ∀ n ∈ ks, (dr n).map (fun x => (x.dig, x.off)) = (ofW d1 n).map fun e => (e.1.dig, e.2)
  dg : Dg w base M ks rv dr
section
variable {w w' : World} {base M : Nat} {d1 : List Itm} {extra ks : List Nat} {rv : Nat → Value} {dr : Nat → List DRec}
theorem Dg.fr {S : List Nat} (h : Dg w base M ks rv dr) (hf : Fr S w w') (hS : ∀ k ∈ S, k < base ∨ k = M ∨ ∃ m ∈ ks, (rv m).ownBlock = some k) : Dg w' base M ks rv dr := by
  refine ⟨fun n hn x hx => ?_, h.2⟩
  obtain ⟨h1, h2, h3, h4⟩ := h.1 n hn x hx
  refine ⟨h1.fr hf fun hm => ?_, h2, h3, h4⟩
  rcases hS _ hm with h | h | ⟨m, hm, h⟩
  · omega
  · exact h3 h
  · exact h4 m hm h
theorem L1.fr {S : List Nat} (h : L1 w base M d1 extra ks rv dr) (hf : Fr S w w') (hb : base ≤ w.heap.size) (hS : ∀ k ∈ S, k < base) : L1 w' base M d1 extra ks rv dr := by
  have hM := h.tab.baseM
  exact ⟨h.tab.fr hf (fun hm => by have := hS _ hm; omega) fun k hk => .inl (hS k hk), h.mem, h.pairs, h.dg.fr hf fun k hk => .inl (hS k hk)⟩
theorem L1.start (hM : Mp w M .i64 []) (hb : base ≤ M) : L1 w base M [] [] [] rv dr := ⟨Tab.start hM hb, by simp, by simp, by simp [Dg]⟩
theorem L1.look (h : L1 w base M d1 [] ks rv dr) (n : Nat) : (ks.map fun n => (n, rv n)).lookup n = if n ∈ ks then some (rv n) else none := look_map
theorem L1.add {n g c : Nat} (h : L1 w base M d1 [] ks rv dr) (hn : n ∉ ks) (hF : Fr [M] w w') (hO : w'.ownsRow base tDR 2 (.slice (some ⟨g, 0, none⟩) 0 c) 0 []) (hg : w.heap.size ≤ g)
    (hM : Mp w' M .i64 ((ks.map fun n => (n, rv n)) ++ [(n, .slice (some ⟨g, 0, none⟩) 0 c)])) : L1 w' base M d1 [n] (ks ++ [n]) (upd rv n (.slice (some ⟨g, 0, none⟩) 0 c)) (upd dr n []) := by
  have hne : ∀ m ∈ ks, m ≠ n := fun m hm e => hn (e ▸ hm)
  have ht := h.tab.add hn hF hO hg hM
  have e : upd (fun n => (dr n).map DRec.enc) n [] = fun m => (upd dr n [] m).map DRec.enc := by funext m; unfold upd; split <;> simp
  rw [e] at ht
  refine ⟨ht, fun m => ?_, fun m hm => ?_, ?_, ?_⟩
  · rw [List.mem_append, h.mem]; simp
  · rcases List.mem_append.1 hm with hm | hm
    · rw [upd_ne (hne m hm)]; exact h.pairs m hm
    · simp at hm; subst hm
      rw [upd_same]
      have : ofW d1 m = [] := by
        unfold ofW
        rw [List.filter_eq_nil_iff]
        intro x hx hd
        exact hn ((h.mem m).2 (.inl (List.mem_map.2 ⟨x, hx, by simpa using hd⟩)))
      rw [this]; rfl
  · intro m hm x hx
    rcases List.mem_append.1 hm with h1 | h1
    · rw [upd_ne (hne m h1)] at hx
      obtain ⟨a1, a2, a3, a4⟩ := h.dg.1 m h1 x hx
      refine ⟨a1.fr hF (by simpa using a3), a2, a3, fun m' hm' => ?_⟩
      rcases List.mem_append.1 hm' with h2 | h2
      · rw [upd_ne (hne m' h2)]; exact a4 m' h2
      · simp at h2; subst h2
        rw [upd_same]
        have := a1.lt
        simp [Value.ownBlock]; omega
    · simp at h1; subst h1
      rw [upd_same] at hx; simp at hx
  · intro m hm m' hm' hd x hx y hy
    rcases List.mem_append.1 hm with h1 | h1
    · rcases List.mem_append.1 hm' with h2 | h2
      · rw [upd_ne (hne m h1)] at hx
        rw [upd_ne (hne m' h2)] at hy
        exact h.dg.2 m h1 m' h2 hd x hx y hy
      · simp at h2; subst h2; rw [upd_same] at hy; simp at hy
    · simp at h1; subst h1; rw [upd_same] at hx; simp at hx
theorem L1.own (h : L1 w base M d1 extra ks rv dr) {n : Nat} (hn : n ∈ ks) : w.ownsRow base tDR 2 (rv n) (dr n).length (encs (dr n)) := by
  have := h.tab.row n hn
  rwa [List.length_map] at this
theorem ofW_length (l : List Itm) (n : Nat) : (ofW l n).length ≤ l.length := List.length_filter_le _ _
theorem L1.cnt {L : List Itm} {d2 : List Itm} {N n : Nat} (h : L1 w base M d1 extra ks rv dr) (hN : L.length ≤ N) (hL : L = d1 ++ d2) (hn : n ∈ ks) : (dr n).length ≤ N := by
  have h1 := congrArg List.length (h.pairs n hn)
  have h2 := ofW_length d1 n
  have h3 := congrArg List.length hL
  simp at h1 h3
  omega
theorem L1.set {n g' c' j : Nat} {v0 : Value} {x : DRec} {e : Itm} (h : L1 w base M d1 extra ks rv dr) (hx : extra = [] ∨ extra = [n]) (he : n = e.1.dig.length) (hn : n ∈ ks) (hF : Fr (M :: (rv n).ownBlock.toList) w w')
    (hO : w'.ownsRow base tDR 2 (.slice (some ⟨g', 0, none⟩) ((dr n).length + 1) c') ((dr n).length + 1) (encs (dr n) ++ x.enc)) (hg : (rv n).ownBlock = some g' ∨ w.heap.size ≤ g')
    (hM : Mp w' M .i64 ((ks.map fun n => (n, rv n)).set j (n, .slice (some ⟨g', 0, none⟩) ((dr n).length + 1) c'))) (hj : (ks.map fun n => (n, rv n))[j]? = some (n, v0))
    (hd : x.dig = e.1.dig ∧ x.off = e.2) (hB : Bs w' x.b x.o x.dig) (hb : base ≤ x.b) (hbM : x.b ≠ M) (hbg : x.b ≠ g') (hb1 : ∀ m ∈ ks, (rv m).ownBlock ≠ some x.b) (hb2 : ∀ m ∈ ks, ∀ y ∈ dr m, x.b ≠ y.b) :
    L1 w' base M (d1 ++ [e]) [] ks (upd rv n (.slice (some ⟨g', 0, none⟩) ((dr n).length + 1) c')) (upd dr n (dr n ++ [x])) := by
  have ht := h.tab.set (n := n) (g' := g') (c' := c') (x := x.enc) (j := j) (v0 := v0) hn hF (by rw [List.length_map]; exact hO) hg (by rw [List.length_map]; exact hM) hj
  have e1 : upd (fun n => (dr n).map DRec.enc) n ((dr n).map DRec.enc ++ [x.enc]) = fun m => (upd dr n (dr n ++ [x]) m).map DRec.enc := by funext m; unfold upd; split <;> simp
  simp only [List.length_map] at ht
  rw [e1] at ht
  have hg2 : ∀ m ∈ ks, ∀ y ∈ dr m, y.b ≠ g' := fun m hm y hy e2 => by
    obtain ⟨a1, _, _, a4⟩ := h.dg.1 m hm y hy
    rcases hg with hg | hg
    · exact a4 n hn (by rw [hg, e2])
    · have := a1.lt; omega
  refine ⟨ht, fun m => ?_, fun m hm => ?_, ?_, ?_⟩
  · rw [h.mem, List.map_append, List.mem_append]
    rcases hx with rfl | rfl
    · have := (h.mem n).1 hn
      simp only [List.map_cons, List.map_nil, List.mem_cons, List.not_mem_nil, or_false] at this ⊢
      constructor
      · exact fun h => .inl h
      · rintro (h1 | h1)
        · exact h1
        · rw [h1, ← he]; exact this
    · simp [he]
  · have hf : ofW (d1 ++ [e]) m = ofW d1 m ++ (if m = n then [e] else []) := by
      unfold ofW
      rw [List.filter_append]
      congr 1
      by_cases hmn : m = n
      · subst hmn; rw [if_pos rfl]; simp [List.filter_cons, he]
      · rw [if_neg hmn, List.filter_cons, if_neg (by simp; omega)]; rfl
    rw [hf]
    by_cases hmn : m = n
    · subst hmn
      rw [upd_same, if_pos rfl, List.map_append, List.map_append, h.pairs m hm]
      simp [hd]
    · rw [upd_ne hmn, if_neg hmn, List.append_nil]; exact h.pairs m hm
  · intro m hm y hy
    have hrows : ∀ m' ∈ ks, ∀ k, (upd rv n (.slice (some ⟨g', 0, none⟩) ((dr n).length + 1) c') m').ownBlock = some k → k = g' ∨ (rv m').ownBlock = some k := fun m' hm' k hk => by
      by_cases e2 : m' = n
      · subst e2; rw [upd_same] at hk; simp [Value.ownBlock] at hk; exact .inl hk.symm
      · rw [upd_ne e2] at hk; exact .inr hk
    have hy2 : y ∈ dr m ∨ y = x := by
      by_cases e2 : m = n
      · subst e2; rw [upd_same] at hy; simpa using hy
      · rw [upd_ne e2] at hy; exact .inl hy
    rcases hy2 with hy2 | rfl
    · obtain ⟨a1, a2, a3, a4⟩ := h.dg.1 m hm y hy2
      refine ⟨a1.fr hF fun hk => ?_, a2, a3, fun m' hm' ek => ?_⟩
      · rcases List.mem_cons.1 hk with hk | hk
        · exact a3 hk
        · exact a4 n hn (by simpa using hk)
      · rcases hrows m' hm' _ ek with h1 | h1
        · exact hg2 m hm y hy2 h1
        · exact a4 m' hm' h1
    · refine ⟨hB, hb, hbM, fun m' hm' ek => ?_⟩
      rcases hrows m' hm' _ ek with h1 | h1
      · exact hbg h1
      · exact hb1 m' hm' h1
  · intro m hm m' hm' hd2 y hy z hz
    have hin : ∀ m ∈ ks, ∀ y ∈ upd dr n (dr n ++ [x]) m, y ∈ dr m ∨ (y = x ∧ m = n) := fun m hm y hy => by
      by_cases e2 : m = n
      · subst e2; rw [upd_same] at hy; simpa using hy
      · rw [upd_ne e2] at hy; exact .inl hy
    rcases hin m hm y hy with h1 | ⟨rfl, rfl⟩ <;> rcases hin m' hm' z hz with h2 | ⟨rfl, rfl⟩
    · exact h.dg.2 m hm m' hm' hd2 y h1 z h2
    · exact fun e2 => hb2 m hm y h1 e2.symm
    · exact hb2 m' hm' z h2
    · exact absurd rfl hd2
def Fresh (base M : Nat) (ks : List Nat) (rv : Nat → Value) (dr : Nat → List DRec) (bh : Nat) : Prop := base ≤ bh ∧ bh ≠ M ∧ (∀ m ∈ ks, (rv m).ownBlock ≠ some bh) ∧ ∀ m ∈ ks, ∀ y ∈ dr m, bh ≠ y.b
theorem L1.fresh {bh : Nat} (h : L1 w base M d1 extra ks rv dr) (hb : w.heap.size ≤ bh) : Fresh base M ks rv dr bh := by
  have hM := h.tab.map.lt
  have := h.tab.baseM
  refine ⟨by omega, by omega, fun m hm e => ?_, fun m hm y hy e => ?_⟩
  · have := (h.tab.ownLt hm e).2.1; omega
  · have := (h.dg.1 m hm y hy).1.lt; omega
theorem Fresh.add {bh n g n' c : Nat} (h : Fresh base M ks rv dr bh) (hg : bh ≠ g) : Fresh base M (ks ++ [n]) (upd rv n (.slice (some ⟨g, 0, none⟩) n' c)) (upd dr n []) bh := by
  obtain ⟨h1, h2, h3, h4⟩ := h
  refine ⟨h1, h2, fun m hm e => ?_, fun m hm y hy e => ?_⟩
  · by_cases hmn : m = n
    · subst hmn; rw [upd_same] at e; simp [Value.ownBlock] at e; omega
    · rw [upd_ne hmn] at e
      rcases List.mem_append.1 hm with hm | hm
      · exact h3 m hm e
      · simp at hm; exact hmn hm
  · by_cases hmn : m = n
    · subst hmn; rw [upd_same] at hy; simp at hy
    · rw [upd_ne hmn] at hy
      rcases List.mem_append.1 hm with hm | hm
      · exact h4 m hm y hy e
      · simp at hm; exact hmn hm
theorem L1.step {w6 w7 : World} {n g c g6 c6 bh od cd : Nat} {e : Itm} (h : L1 w base M d1 extra ks rv dr) (hx : extra = [] ∨ extra = [n]) (he : n = e.1.dig.length) (hn : n ∈ ks) (hrv : rv n = .slice (some ⟨g, 0, none⟩) (dr n).length c) (hf : Fresh base M ks rv dr bh) (hB : Bs w bh od e.1.dig)
    (hF6 : Fr [g] w w6) (hO6 : w6.ownsRow base tDR 2 (.slice (some ⟨g6, 0, none⟩) ((dr n).length + 1) c6) ((dr n).length + 1) (encs (dr n) ++ [.slice (some ⟨bh, od, none⟩) e.1.dig.length cd, .int .u64 e.2]))
    (hg6 : g6 = g ∨ w.heap.size ≤ g6) (hF7 : Fr [M] w6 w7)
    (hP : ((ks.map fun n => (n, rv n)).lookup n = none ∧ Mp w7 M .i64 ((ks.map fun n => (n, rv n)) ++ [(n, .slice (some ⟨g6, 0, none⟩) ((dr n).length + 1) c6)])) ∨ ∃ j v0, (ks.map fun n => (n, rv n))[j]? = some (n, v0) ∧ (ks.map fun n => (n, rv n)).lookup n = some v0 ∧ Mp w7 M .i64 ((ks.map fun n => (n, rv n)).set j (n, .slice (some ⟨g6, 0, none⟩) ((dr n).length + 1) c6))) :
    L1 w7 base M (d1 ++ [e]) [] ks (upd rv n (.slice (some ⟨g6, 0, none⟩) ((dr n).length + 1) c6)) (upd dr n (dr n ++ [⟨bh, od, cd, e.2, e.1.dig⟩])) := by
  have hown : (rv n).ownBlock = some g := by rw [hrv]; rfl
  have hgl := h.tab.ownLt hn hown
  have hMl := h.tab.map.lt
  have hbg : bh ≠ g := fun e2 => hf.2.2.1 n hn (by rw [hown, e2])
  have hbl := hB.lt
  have hg6M : g6 ≠ M := by rcases hg6 with rfl | h <;> omega
  rcases hP with ⟨h0, _⟩ | ⟨j, v0, hj, _, hM7⟩
  · rw [look_map, if_pos hn] at h0; cases h0
  · refine h.set hx he hn (Fr.trans (S := M :: (rv n).ownBlock.toList) (hF6.mono (by rw [hown]; simp)) hF7 (by simp)) (own_fr hO6 hF7 (by intro k hk; simp at hk; subst hk; exact .inr (by simp [Value.ownBlock]; exact hg6M))) ?_ hM7 hj ⟨rfl, rfl⟩ ?_ hf.1 hf.2.1 ?_ hf.2.2.1 hf.2.2.2
    · rw [hown]; rcases hg6 with rfl | h
      · exact .inl rfl
      · exact .inr h
    · exact (hB.fr hF6 (by simpa using hbg)).fr hF7 (by simpa using hf.2.1)
    · rcases hg6 with rfl | h
      · exact hbg
      · show bh ≠ g6; omega
end
end Go.Proofs.Wx

namespace Go.Proofs.Wx
open Go Go.RowKit
theorem recWrite {w : World} {A : List UInt8} {g o n c k b so dc off : Nat} {dig : List UInt8} (hg : Blk w g (by8 A ++ List.replicate k (.int .u8 0)) 5 (0, 0)) (ho : o = A.length) (hn : n = dig.length + 8) (hk : n ≤ k) (hc : n ≤ c)
    (hb : Bs w b so dig) (hbg : b ≠ g) (hoff : off < 18446744073709551616) (hd : dig.length ≤ 200) :
    Calls Tryz.prog 280 #[.agg #[.slice (some ⟨b, so, none⟩) dig.length dc, .int .u64 off], .slice (some ⟨g, o, none⟩) n c] w fun e w' =>
      e = .returned (.tuple #[]) ∧ Blk w' g (by8 (A ++ (dig ++ Lib.leBytes 8 off)) ++ List.replicate (k - n) (.int .u8 0)) 5 (0, 0) ∧ Fr [g] w w' := by
  have hN := Lib.hid hn
  have hO := Lib.hid ho
  have hnn : (dig.length : Int) ≤ 200 := by omega
  have hmn : (dig.length : Int) ≤ (n : Int) := by omega
  have hnc : (n : Int) ≤ (c : Int) := by omega
  have hmc : (dig.length : Int) < (c : Int) := by omega
  have hcn : ¬ c = dig.length := by omega
  have hgl := hg.lt
  have hng : ∀ w1 : World, w.heap.size ≤ w1.heap.size → w1.heap.size ≠ g := fun w1 h => by omega
  clear hn ho hc hd
  go_enter Tryz.func280, Tryz.ntmps280
  go_wp2_with (first
    | (with_reducible refine list_bi .copy (fun K hK => ?_);  refine copyB _ _ 55 55 rfl 5 (by kernel_rfl) (by kernel_rfl) _ _ _ _ _ _ _ _ rfl rfl _ _ (by exact blkP) dig (hb.fr (S := []) (by exact frP) (by simp)) (by have := hN.out; show _ = min _ _; omega) (by have := hN.out; have := hO.out; simp [by8_length]; omega) (fun w1 hb1 hf1 => ?_); have hT1 := hf1.blk (b := w.heap.size) (Blk.drew (Blk.newAt rfl)) (by simp; omega); have tc1 := hT1.cells; have hF1 : Fr [g] w w1 := Fr.trans (S := [g]) (by exact frP) hf1 (by simp); clear hf1)
    | go_at_call 74; refine (putU64 (n := n - dig.length) (c := c - dig.length) (o := o + dig.length) hoff hb1.drew (by have := hN.out; omega) (by have := hN.out; have := hO.out; rw [lay_length (by simp [by8_length]; omega)]; simp [by8_length]; omega)).mono ?_; rintro e w2 ⟨rfl, hg2, hF2⟩
    | (refine wre 1 [(0,.free),(1,.free),(2,.free),(3,.look),(4,.act),(5,.free)] ?_)
    | (refine wre 2 [(0,.look),(1,.free),(2,.free),(3,.free),(4,.free),(5,.look),(6,.act)] ?_)
    | (with_reducible refine wEI ?_; (first | (refine wEN ?_; skip) | (refine wEF rfl (fun K hK => ?_); go_simp) | (refine wEL rfl rfl (fun K hK => ?_); go_simp) | (refine wER rfl (fun K hK => ?_); go_simp) | (refine wEM rfl (fun K hK => ?_); go_simp; try refine ⟨_, _, ⟨rfl, rfl⟩, ?_⟩) | (refine wEG rfl (fun K hK => ?_); go_simp) | (refine wpE_actp rfl rfl (fun K hK => ?_); simp only [List.getElem_toArray, List.getElem_cons_succ, List.getElem_cons_zero]; (first | (with_reducible refine op_bi .copy ?_;  refine copyB _ _ 55 55 rfl 5 (by kernel_rfl) (by kernel_rfl) _ _ _ _ _ _ _ _ rfl rfl _ _ (by exact blkP) dig (hb.fr (S := []) (by exact frP) (by simp)) (by have := hN.out; show _ = min _ _; omega) (by have := hN.out; have := hO.out; simp [by8_length]; omega) (fun w1 hb1 hf1 => ?_); have hT1 := hf1.blk (b := w.heap.size) (Blk.drew (Blk.newAt rfl)) (by simp; omega); have tc1 := hT1.cells; have hF1 : Fr [g] w w1 := Fr.trans (S := [g]) (by exact frP) hf1 (by simp); clear hf1))) | (refine wEA rfl (fun K hK => ?_); go_simp))))
  go_end0
  refine ⟨rfl, Blk.conv hg2 ?_, Fr.trans (S := [g]) hF1 (Fr.trans (S := [g]) (Fr.drew Fr.refl) hF2 (fun k hk _ => hk)) (fun k hk _ => hk)⟩
  have h1 := hN.out
  have h2 := hO.out
  subst h2
  rw [lay_step (by omega), show A.length + dig.length = (A ++ dig).length by simp, lay_step (by rw [Lib.leBytes_length]; omega), List.append_assoc, Lib.leBytes_length]
  congr 2
  omega
end Go.Proofs.Wx

namespace Go.Proofs.Wx
open Go Go.RowKit
/-- What a call that writes into the buffer may not touch: a block that is none of the buffer's. -/
theorem Wr.keep {p base : Nat} {w w' : World} {v v' : Value} {ys ys' : List UInt8} (h : Wr p base w v ys w' v' ys') {b : Nat} {cs : List Value} {T : TypeId} {fr : Nat × Nat} (hb : Blk w b cs T fr) (h1 : b ≠ p) (h2 : v.ownBlock ≠ some b) : Blk w' b cs T fr :=
  h.fr.blk hb (by simp; exact ⟨h1, h2⟩)
theorem Wr.keepB {p base : Nat} {w w' : World} {v v' : Value} {ys ys' : List UInt8} (h : Wr p base w v ys w' v' ys') {b o : Nat} {xs : List UInt8} (hb : Bs w b o xs) (h1 : b ≠ p) (h2 : v.ownBlock ≠ some b) : Bs w' b o xs :=
  hb.fr h.fr (by simp; exact ⟨h1, h2⟩)
theorem Wr.own_ne {p base : Nat} {w w' : World} {v v' : Value} {ys ys' : List UInt8} (h : Wr p base w v ys w' v' ys') {b : Nat} (hb : b < w.heap.size) (h2 : v.ownBlock ≠ some b) : v'.ownBlock ≠ some b := by
  intro e
  rcases h.own with e1 | ⟨k, e1, hk⟩
  · exact h2 (e1 ▸ e)
  · rw [e] at e1; cases e1; omega
theorem swMarshal {w : World} {p base sb ib wd L c n : Nat} {v : Value} {ys rows : List UInt8} (hBuf : Buf w p base v ys) (hS : Blk w sb [.int .u32 wd, .int .u64 n, .slice (some ⟨ib, 0, none⟩) L c] 413 (0, 0)) (hI : Bs w ib 0 rows) (hL : rows.length = L) (h0 : 0 < L) (hL2 : L < 1000000000) (hwd : wd < 4294967296)
    (hy : ys ≠ []) (hlen : ys.length < 1000000000) (hbase : base ≤ w.heap.size) (hsp : sb ≠ p) (hsv : v.ownBlock ≠ some sb) (hip : ib ≠ p) (hiv : v.ownBlock ≠ some ib) :
    Calls Tryz.prog 289 #[.pointer (some ⟨sb, 0, none⟩), BUFI p] w fun e w' => (∃ N : Int, e = .returned (.tuple #[.int .u64 N, .nilIface])) ∧ ∃ v', Wr p base w v ys w' v' (ys ++ (Lib.leBytes 4 wd ++ (Lib.leBytes 8 L ++ rows))) := by
  have hc := hS.cells
  have h32 := write32 hBuf hwd hy (by omega) hbase
  have hsl := hS.lt
  have hil := hI.lt
  have hLi : (L : Int) < 1000000000 := by omega
  have HL := Lib.hid (And.intro hL (And.intro h0 (And.intro hL2 (And.intro hlen hbase))))
  obtain ⟨A, hA⟩ : ∃ Z : List UInt8, Hid (Z = Lib.leBytes 4 wd) := ⟨_, rfl⟩
  obtain ⟨B, hB⟩ : ∃ Z : List UInt8, Hid (Z = Lib.leBytes 8 L) := ⟨_, rfl⟩
  have lA : Hid (A.length = 4) := by show _ = _; rw [hA.out, Lib.leBytes_length]
  have lB : Hid (B.length = 8) := by show _ = _; rw [hB.out, lb8]
  rw [← hA.out] at h32 ⊢
  rw [← hB.out]
  have h64 := fun (w1 : World) (v1 : Value) (hW : Wr p base w v ys w1 v1 (ys ++ A)) => write64 (x := L) hW.buf (by omega) (by simp [hy]) (by have := HL.out; have := lA.out; simp; omega) (by have := HL.out; have := hW.fr.size; omega)
  clear hL h0 hL2 hlen hbase hwd
  go_enter Tryz.func289, Tryz.ntmps289
  go_wp2_with (first
    | go_at_call 275; refine h32.mono ?_; rintro e w1 ⟨rfl, v1, hW1⟩; have hS1 := hW1.keep hS hsp hsv; have hI1 := hW1.keepB hI hip hiv; have hc1 := hS1.cells; have hv1 := hW1.own_ne hsl hsv; have hu1 := hW1.own_ne hil hiv; clear hc h32
    | go_at_call 283; refine (h64 _ _ hW1).mono ?_; rintro e w2 ⟨rfl, v2, hW2⟩; have hS2 := hW2.keep hS1 hsp hv1; have hI2 := hW2.keepB hI1 hip hu1; have hc2 := hS2.cells; have hv2 := hW2.own_ne hS1.lt hv1; have hu2 := hW2.own_ne hI1.lt hu1; rw [← hB.out] at hW2; have hW12 := (hW1.trans hW2).same (Fr.drew Fr.refl : Fr [] w2 w2.drew); clear hc1 h64
    | go_at_call 251; refine (bufWn (n := L) hW12.buf hI2.drew HL.out.1 HL.out.2.1 hip hu2 (fun e => absurd e (by simp [hy])) (by have := HL.out; have := lA.out; have := lB.out; simp; omega) (by have := HL.out; have := hW12.fr.size; omega)).mono ?_; rintro e w3 ⟨rfl, v3, hW3⟩
    | (refine wre 10 [(0,.free),(1,.free),(2,.free),(3,.free),(4,.look),(5,.free),(6,.free),(7,.free),(8,.act),(9,.free),(10,.free),(11,.free),(12,.free),(13,.free)] ?_)
    | (with_reducible refine wEI ?_; (first | (refine wEN ?_; skip) | (refine wEF rfl (fun K hK => ?_); go_simp) | (refine wEL rfl rfl (fun K hK => ?_); go_simp) | (refine wER rfl (fun K hK => ?_); go_simp) | (refine wEM rfl (fun K hK => ?_); go_simp; try refine ⟨_, _, ⟨rfl, rfl⟩, ?_⟩) | (refine wEG rfl (fun K hK => ?_); go_simp) | (refine wEA rfl (fun K hK => ?_); go_simp))))
  go_ret2
  refine ⟨⟨_, rfl⟩, v3, ?_⟩
  have := hW12.trans hW3
  rwa [List.append_assoc, List.append_assoc] at this
end Go.Proofs.Wx

namespace Go.Proofs.Wx.U64
open Go Go.RowKit Go.Sort
abbrev oSortU640 : List (Nat × Cls) := [(0,.free),(1,.free),(2,.free),(3,.free),(4,.free),(5,.free),(6,.free),(7,.look),(8,.free),(9,.free),(10,.free),(11,.free),(12,.look),(13,.act),(14,.free)]
abbrev oSortU641 : List (Nat × Cls) := [(0,.free),(1,.free),(2,.free),(3,.free),(4,.free),(5,.free),(6,.free),(7,.free),(8,.free),(9,.look),(10,.free),(11,.free),(12,.free),(13,.look),(14,.free),(15,.act),(16,.free),(17,.act)]
/-- The row at block g: numbers, and what lies behind them. -/
def row (g : Nat) (rest : List Value) : St Int where
  S d w := Blk w g (d.toList.map (Value.int .u64) ++ rest) 30 (0, 0)
  own := [g]
  fr := fun h hf hX => hf.blk h fun hm => hX _ hm (by simp)
  lt := fun h k hk => by simp at hk; subst hk; exact h.lt
section
variable {g n : Nat} {rest : List Value} {d : Array Int} {w0 w : World} {x y : Int}
theorem row_at (h : (row g rest).At w0 d w) (hn : d.size = n) {i : Nat} (hi : i < n) : ∃ x, w.cell? ⟨g, i, none⟩ = some (.int .u64 x) ∧ Hid (x = d[i]!) := by
  have h1 := Blk.cells h.1 i
  refine ⟨d[i]!, ?_, rfl⟩
  rw [h1, List.getElem?_append_left (by simp; omega)]
  have : i < d.size := by omega
  simp [this]
theorem row_free (h : (row g rest).At w0 d w) (i : Nat) : w.frozen? ⟨g, i, none⟩ = false := Blk.free h.1 i
theorem row_sw (h : (row g rest).At w0 d w) (hn : d.size = n) {i j : Nat} (hi : i < n) (hj : j < n) (hx : Hid (x = d[i]!)) (hy : Hid (y = d[j]!)) :
    (row g rest).At w0 (swp d i j) ((w.setCell ⟨g, i, none⟩ (.int .u64 y)).setCell ⟨g, j, none⟩ (.int .u64 x)) := by
  rw [hx.out, hy.out]
  refine h.swap ?_ (Fr.setCell (.inl (by simp [row])) (Fr.setCell (.inl (by simp [row])) Fr.refl))
  refine Blk.conv (Blk.set (Blk.set h.1)) ?_
  unfold swp
  rw [List.set_append_left _ _ (by simp; omega), List.set_append_left _ _ (by simp; omega)]
  congr 1
  simp [List.map_set]
theorem row_st (h : (row g rest).At w0 d w) (hn : d.size = n) {i j : Nat} (hj : j < n) (u : Value) : ∃ v, (w.setCell ⟨g, i, none⟩ u).cell? ⟨g, j, none⟩ = some v := by
  obtain ⟨x, hx, _⟩ := row_at h hn hj
  exact cell?_setCell_some hx
theorem ltT {a b : Int} (hx : Hid (x = a)) (hy : Hid (y = b)) (h : x < y) : ltInt a b = true := by rw [← hx.out, ← hy.out]; exact decide_eq_true h
theorem ltF {a b : Int} (hx : Hid (x = a)) (hy : Hid (y = b)) (h : ¬ x < y) : ltInt a b = false := by rw [← hx.out, ← hy.out]; exact decide_eq_false h
theorem wrk {z : Int} (k : Nat) (hz : z = (k : Int)) (hk : k < 1000000) : IntKind.i64.wrap z = (k : Int) := by rw [IntWalk.i64_in _ (by omega)]; exact hz
end
theorem lessU (x y : Int) (w : World) : Calls Tryz.prog 304 #[.int .u64 x, .int .u64 y] w fun e w' => e = .returned (.bool (decide (x < y))) ∧ w' = w := by
  have hN : ∀ z w, Calls Tryz.prog 314 #[.int .u64 z] w fun e w' => e = .returned (.bool false) ∧ w' = w := fun z w => by
    go_enter Tryz.func314, Tryz.ntmps314
    go_wp2
    go_ret
    exact ⟨by simp, rfl⟩
  go_enter Tryz.func304, Tryz.ntmps304
  go_wp2_with (first | (go_at_call 314; refine (hN _ _).mono ?_; rintro e w' ⟨rfl, rfl⟩))
  go_ret
  exact ⟨rfl, rfl⟩
variable {g n c : Nat} {rest : List Value}
theorem insSort {a b : Nat} {w0 w : World} {d : Array Int} (hA : (row g rest).At w0 d w) (hn : d.size = n) (hab : a ≤ b) (hb : b ≤ n) (big : n < 1000000) :
    Calls Tryz.prog 298 #[.slice (some ⟨g, 0, none⟩) n c, .int .i64 a, .int .i64 b] w fun e w' => e = .returned (.tuple #[]) ∧ (row g rest).At w0 (Sort.insertionSort ltInt d a b) w' := by
  go_enter Tryz.func298, Tryz.ntmps298
  go_wp2
  go_loopw [6] (fun vi wr => ∃ (i : Nat) (dk : Array Int), vi = .int .i64 i ∧ a < i ∧ i ≤ b + 1 ∧ dk.size = n ∧ (row g rest).At w0 dk wr ∧ Hid (insOuter ltInt a b i dk = insOuter ltInt a b (a + 1) d)) (fun vi _ => b + 1 - (intOf vi).toNat)
  case atStart => exact ⟨a + 1, d, by go_num, by omega, by omega, hn, hA, rfl⟩
  case round =>
    obtain ⟨i, dk, rfl, hai, hib, hsk, hA1, HO⟩ := hrel
    by_cases hlt : i < b
    · go_wp2
      go_loopw [7] (fun vj wr2 => ∃ (j : Nat) (dj : Array Int), vj = .int .i64 j ∧ a ≤ j ∧ j ≤ i ∧ dj.size = n ∧ (row g rest).At w0 dj wr2 ∧ Hid (insInner ltInt a j dj = insInner ltInt a i dk)) (fun vj _ => (intOf vj).toNat)
      case atStart => exact ⟨i, dk, rfl, by omega, Nat.le_refl _, hsk, hA1, rfl⟩
      case round =>
        clear hA1
        obtain ⟨j, dj, rfl, haj, hji, hsj, hA2, HI⟩ := hrel
        by_cases hja : a < j
        · obtain ⟨x, cx, hx⟩ := row_at hA2 hsj (i := j) (by omega)
          obtain ⟨y, cy, hy⟩ := row_at hA2 hsj (i := j - 1) (by omega)
          have fx := row_free hA2
          have j1 : j < n := by omega
          have j2 : j - 1 < n := by omega
          have wj := wrk (z := (j : Int) - 1) (j - 1) (by omega) (by omega)
          have sw := row_sw hA2 hsj (i := j) (j := j - 1) (by omega) (by omega) hx hy
          by_cases hlv : x < y
          · have hl := Lib.hid (ltT hx hy hlv)
            go_wp2_with (first
              | go_at_call 304; with_reducible refine (lessU _ _ _).mono ?_; rintro e w9 ⟨rfl, rfl⟩
              | (refine wre 4 oSortU640 ?_)
              | (refine wre 6 oSortU641 ?_)
              | (with_reducible refine wEI ?_; (first | (refine wEN ?_; skip) | (refine wEF rfl (fun K hK => ?_); go_simp) | (refine wEL rfl rfl (fun K hK => ?_); go_simp) | (refine wER rfl (fun K hK => ?_); go_simp) | (refine wEM rfl (fun K hK => ?_); go_simp; try refine ⟨_, _, ⟨rfl, rfl⟩, ?_⟩) | (refine wEG rfl (fun K hK => ?_); go_simp) | (refine wEA rfl (fun K hK => ?_); go_simp))))
            go_roundw
            case rel => exact ⟨j - 1, swp dj j (j - 1), rfl, by omega, by omega, by rw [size_swp]; exact hsj, by exact atP, (show Hid _ from by rw [← HI.out, insInner_go ltInt a j dj hja hl.out]; exact rfl)⟩
            case measure => simp [intOf]; omega
          · have hl := Lib.hid (ltF hx hy hlv)
            clear sw
            go_wp2_with (first
              | go_at_call 304; with_reducible refine (lessU _ _ _).mono ?_; rintro e w9 ⟨rfl, rfl⟩
              | (refine wre 4 oSortU640 ?_)
              | (refine wre 6 oSortU641 ?_)
              | (with_reducible refine wEI ?_; (first | (refine wEN ?_; skip) | (refine wEF rfl (fun K hK => ?_); go_simp) | (refine wEL rfl rfl (fun K hK => ?_); go_simp) | (refine wER rfl (fun K hK => ?_); go_simp) | (refine wEM rfl (fun K hK => ?_); go_simp; try refine ⟨_, _, ⟨rfl, rfl⟩, ?_⟩) | (refine wEG rfl (fun K hK => ?_); go_simp) | (refine wEA rfl (fun K hK => ?_); go_simp))))
            go_roundw
            case rel => exact ⟨i + 1, dj, by go_num, by omega, by omega, hsj, by exact atP, (show Hid _ from by rw [← HO.out, insOuter_go _ _ _ _ _ hlt, ← HI.out, insInner_stop _ _ _ _ (Or.inr hl.out)]; exact rfl)⟩
            case measure => simp [intOf]; omega
        · go_wp2_with (first
            | go_at_call 304; with_reducible refine (lessU _ _ _).mono ?_; rintro e w9 ⟨rfl, rfl⟩
            | (refine wre 4 oSortU640 ?_)
            | (refine wre 6 oSortU641 ?_)
            | (with_reducible refine wEI ?_; (first | (refine wEN ?_; skip) | (refine wEF rfl (fun K hK => ?_); go_simp) | (refine wEL rfl rfl (fun K hK => ?_); go_simp) | (refine wER rfl (fun K hK => ?_); go_simp) | (refine wEM rfl (fun K hK => ?_); go_simp; try refine ⟨_, _, ⟨rfl, rfl⟩, ?_⟩) | (refine wEG rfl (fun K hK => ?_); go_simp) | (refine wEA rfl (fun K hK => ?_); go_simp))))
          go_roundw
          case rel => exact ⟨i + 1, dj, by go_num, by omega, by omega, hsj, by exact atP, (show Hid _ from by rw [← HO.out, insOuter_go _ _ _ _ _ hlt, ← HI.out, insInner_stop _ _ _ _ (Or.inl (by omega))]; exact rfl)⟩
          case measure => simp [intOf]; omega
    · go_wp2
      go_end0
      exact ⟨rfl, by unfold Sort.insertionSort; rw [← HO.out, insOuter_stop _ _ _ _ _ hlt]; exact atP⟩
theorem rev_go {i j : Nat} {d : Array Int} (h : i < j) : reverseLoop i j d = reverseLoop (i + 1) (j - 1) (swp d i j) := by rw [reverseLoop, if_pos h]
theorem reverse {a b : Nat} {w0 w : World} {d : Array Int} (hA : (row g rest).At w0 d w) (hn : d.size = n) (hab : a ≤ b) (hb : b ≤ n) (big : n < 1000000) :
    Calls Tryz.prog 302 #[.slice (some ⟨g, 0, none⟩) n c, .int .i64 a, .int .i64 b] w fun e w' => e = .returned (.tuple #[]) ∧ (row g rest).At w0 (reverseRange d a b) w' := by
  go_enter Tryz.func302, Tryz.ntmps302
  go_wp2
  go_loopg [6, 7] (b - a) (fun k s6 s7 wr => ∃ (i jn : Nat) (jz : Int) (dk : Array Int), s6 = .int .i64 i ∧ s7 = .int .i64 jz ∧ ((i : Int) < jz → jz = jn ∧ jn < n) ∧ (¬ (i : Int) < jz → ¬ i < jn) ∧ jn - i ≤ k ∧
    dk.size = n ∧ (row g rest).At w0 dk wr ∧ Hid (reverseLoop i jn dk = reverseLoop a (b - 1) d))
  case atStart => exact ⟨a, b - 1, (b : Int) - 1, d, rfl, rfl, fun h => ⟨by omega, by omega⟩, fun h => by omega, by omega, hn, hA, rfl⟩
  case round =>
    obtain ⟨i, jn, jz, dk, rfl, rfl, h1, h2, hk, hds, hA1, HE⟩ := hrel
    by_cases hlt : (i : Int) < jz
    · obtain ⟨rfl, hjn⟩ := h1 hlt
      have hij : i < jn := by omega
      have hin : i < n := by omega
      obtain ⟨x, cx, hx⟩ := row_at hA1 hds hin
      obtain ⟨y, cy, hy⟩ := row_at hA1 hds hjn
      have fx := row_free hA1
      have sw := row_sw hA1 hds hin hjn hx hy
      clear h1 h2
      go_wp2_with (first
        | go_at_call 304; with_reducible refine (lessU _ _ _).mono ?_; rintro e w9 ⟨rfl, rfl⟩
        | (refine wre 3 [(0,.free),(1,.free),(2,.free),(3,.free),(4,.free),(5,.free),(6,.free),(7,.look),(8,.free),(9,.free),(10,.free),(11,.look),(12,.free),(13,.act),(14,.free),(15,.act)] ?_)
        | (with_reducible refine wEI ?_; (first | (refine wEN ?_; skip) | (refine wEF rfl (fun K hK => ?_); go_simp) | (refine wEL rfl rfl (fun K hK => ?_); go_simp) | (refine wER rfl (fun K hK => ?_); go_simp) | (refine wEM rfl (fun K hK => ?_); go_simp; try refine ⟨_, _, ⟨rfl, rfl⟩, ?_⟩) | (refine wEG rfl (fun K hK => ?_); go_simp) | (refine wEA rfl (fun K hK => ?_); go_simp))))
      go_roundg (jn - 1 - (i + 1))
      case measure => omega
      case rel => exact ⟨i + 1, jn - 1, (jn : Int) - 1, swp dk i jn, by simp, rfl, fun h => ⟨by omega, by omega⟩, fun h => by omega, Nat.le_refl _, by rw [size_swp]; exact hds, by exact atP, (show Hid _ from by rw [← HE.out, rev_go hij]; exact rfl)⟩
    · have hnot := h2 hlt
      go_wp2
      go_end0
      refine ⟨rfl, ?_⟩
      rw [reverseRange, ← HE.out, reverseLoop, if_neg hnot]
      exact atP
end Go.Proofs.Wx.U64
