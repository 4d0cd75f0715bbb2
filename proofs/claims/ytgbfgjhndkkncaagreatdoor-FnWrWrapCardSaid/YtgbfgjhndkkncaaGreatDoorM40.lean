import Derived.Test.YtgbfgjhndkkncaaGreatDoorM6
import Derived.Test.YtgbfgjhndkkncaaGreatDoorM10
import Derived.Test.YtgbfgjhndkkncaaGreatDoorM11
import Derived.Test.YtgbfgjhndkkncaaGreatDoorM16
import Derived.Test.YtgbfgjhndkkncaaGreatDoorM39
set_option maxRecDepth 100000
set_option maxHeartbeats 1000000
set_option linter.unusedVariables false
set_option linter.unusedSimpArgs false
set_option linter.deprecated false
set_option linter.all false
set_option linter.unusedSectionVars false
namespace Go.Proofs.Wx
open Go Go.RowKit
abbrev oSp50 : List (Nat × Cls) := [(0,.free),(1,.free),(2,.look),(3,.free),(4,.free),(5,.free),(6,.look),(7,.free),(8,.free),(9,.make),(10,.act),(11,.free)]
abbrev tEN : TypeId := 52
def enA (x : Itm) : Value := .agg #[.int .u64 x.1.v, .int .u64 x.1.codec, .int .u64 x.1.code, .string ⟨x.1.dig.toArray⟩, .int .u64 x.2]
def enL (x : Itm) : List Value := [.int .u64 x.1.v, .int .u64 x.1.codec, .int .u64 x.1.code, .string ⟨x.1.dig.toArray⟩, .int .u64 x.2]
def enC (l : List Itm) : List Value := l.flatMap enL
theorem enC_append (a b : List Itm) : enC (a ++ b) = enC a ++ enC b := by simp [enC]
theorem enC_length (l : List Itm) : (enC l).length = l.length * 5 := by
  induction l with
  | nil => rfl
  | cons x l ih => simp [enC, enL] at *; omega
theorem enC_get : ∀ {l : List Itm} {i : Nat} {x : Itm}, l[i]? = some x → ∀ j u, (enL x)[j]? = some u → (enC l)[i * 5 + j]? = some u
  | y :: l, 0, x, h, j, u, hu => by
    simp at h; subst h
    have hj : j < 5 := by have := (List.getElem?_eq_some_iff.1 hu).1; simpa [enL] using this
    have e : enC (y :: l) = enL y ++ enC l := by simp [enC]
    rw [e, List.getElem?_append_left (by simp [enL]; omega)]
    simpa using hu
  | y :: l, i + 1, x, h, j, u, hu => by
    have := enC_get (l := l) (i := i) (x := x) (by simpa using h) j u hu
    have e : enC (y :: l) = enL y ++ enC l := by simp [enC]
    rw [e, List.getElem?_append_right (by simp [enL]; omega)]
    rw [show (i + 1) * 5 + j - (enL y).length = i * 5 + j by simp [enL]; omega]
    exact this
/-- Entries in a row of a slice. -/
def EntsAt (w : World) (v : Value) (l : List Itm) : Prop := (l = [] ∧ ∃ a c, v = .slice a 0 c) ∨ ∃ g c rest, v = .slice (some ⟨g, 0, none⟩) l.length c ∧ l.length ≤ c ∧ Blk w g (enC l ++ rest) tEN (0, 0)
theorem EntsAt.fr {w w' : World} {v : Value} {l : List Itm} {S : List Nat} (h : EntsAt w v l) (hf : Fr S w w') (hS : ∀ g a n c, v = .slice (some a) n c → a.block = g → g ∉ S) : EntsAt w' v l := by
  rcases h with h | ⟨g, c, rest, h1, h3, h2⟩
  · exact .inl h
  · exact .inr ⟨g, c, rest, h1, h3, hf.blk h2 (hS g _ _ _ h1 rfl)⟩
theorem EntsAt.cells {w : World} {g n c : Nat} {l : List Itm} {i : Nat} {x : Itm} (h : EntsAt w (.slice (some ⟨g, 0, none⟩) n c) l) (hx : l[i]? = some x) :
    w.cell? ⟨g, i * 5, none⟩ = some (.int .u64 x.1.v) ∧ w.cell? ⟨g, i * 5 + 1, none⟩ = some (.int .u64 x.1.codec) ∧ w.cell? ⟨g, i * 5 + 2, none⟩ = some (.int .u64 x.1.code) ∧ w.cell? ⟨g, i * 5 + 3, none⟩ = some (.string ⟨x.1.dig.toArray⟩) ∧ w.cell? ⟨g, i * 5 + 4, none⟩ = some (.int .u64 x.2) := by
  rcases h with ⟨rfl, _⟩ | ⟨g', c', rest, h1, _, h2⟩
  · simp at hx
  · cases h1
    have hl : i < l.length := (List.getElem?_eq_some_iff.1 hx).1
    have key : ∀ j u, (enL x)[j]? = some u → w.cell? ⟨g, i * 5 + j, none⟩ = some u := fun j u hu => by
      have hj : j < 5 := by have := (List.getElem?_eq_some_iff.1 hu).1; simpa [enL] using this
      rw [h2.cell, List.getElem?_append_left (by rw [enC_length]; omega)]
      exact enC_get hx j u hu
    exact ⟨key 0 _ rfl, key 1 _ rfl, key 2 _ rfl, key 3 _ rfl, key 4 _ rfl⟩
theorem en_slice : Tryz.prog.underlying 27 = some (.slice 52) := by kernel_rfl
theorem en_info : (Tryz.prog.info? 52).map (fun i => (i.zero, i.size, i.bytes)) = some (some (.agg #[.int .u64 0, .int .u64 0, .int .u64 0, .string ⟨#[]⟩, .int .u64 0]), 5, 48) := by kernel_rfl
theorem newL {W : World} {n : Nat} {t : TypeId} {cs : List Value} (e : n = W.heap.size) : ∀ j x, cs[j]? = some x → (W.alloc (.cells cs.toArray t)).cell? ((⟨n, 0, none⟩ : Addr).add j) = some x := by
  intro j x hx
  rw [Addr.add_lit, Nat.zero_add, Blk.cell (Blk.newAt e)]; exact hx
theorem newLd {W : World} {n : Nat} {t : TypeId} {cs : List Value} (e : n = W.heap.size) : ∀ j x, cs[j]? = some x → (W.alloc (.cells cs.toArray t)).drew.cell? ((⟨n, 0, none⟩ : Addr).add j) = some x := newL e
theorem one5 {a b c d : Int} {s : ByteArray} : ∀ u ∈ [Value.int .u64 a, .int .u64 b, .int .u64 c, .string s, .int .u64 d], u.oneCell' = true := by
  intro u hu; simp at hu; rcases hu with rfl | rfl | rfl | rfl | rfl <;> rfl
theorem entsAt_snoc2 : ∀ (p : Nat) (l : List BlkM) (b : BlkM), entsAt p (l ++ [b]) = entsAt p l ++ (if b.cid.code = 0 then [] else [(b.cid, p + (secsB l).length)])
  | p, [], b => by simp [entsAt, secsB]
  | p, x :: l, b => by
    rw [List.cons_append, entsAt, entsAt, entsAt_snoc2, List.append_assoc]
    congr 2
    rw [show p + (secB x).length + (secsB l).length = p + (secsB (x :: l)).length by simp [secsB]; omega]
def genRel (w : World) (base : Nat) (c : CarM) (k : Nat) (s5 s14 : Value) (wr : World) : Prop :=
  ∃ i, s14 = .int .i64 (i : Nat) ∧ i + k = c.blocks.length ∧ wr.ownsRow base tEN 5 s5 (entsAt (headerB c.roots).length (c.blocks.take i)).length (enC (entsAt (headerB c.roots).length (c.blocks.take i))) ∧ Fr [] w wr
theorem own_ents {base : Nat} {w : World} {v : Value} {l : List Itm} (h : w.ownsRow base tEN 5 v l.length (enC l)) : EntsAt w v l := by
  rcases h.2 with ⟨rfl, h0⟩ | ⟨g, cap, cur, rfl, hb, hg, hnc, _, _, ht⟩
  · exact .inl ⟨List.eq_nil_of_length_eq_zero h0, none, 0, rfl⟩
  · refine .inr ⟨g, cap, cur.toList.drop (l.length * 5), rfl, hnc, ?_⟩
    have : Blk w g cur.toList tEN (0, 0) := hg
    exact this.conv (by rw [← ht, List.take_append_drop])
set_option maxRecDepth 1000000 in
set_option maxHeartbeats 12800000 in
theorem spGenerated {w : World} {ra ba : Option Addr} {rc bc : Nat} {c : CarM} (h : CarAt w ra ba c) (hok : c.Ok) :
    Calls Tryz.prog 6 #[carA ra ba rc bc c, .bool false] w fun e w' => ∃ v, e = .returned v ∧ EntsAt w' v c.ents ∧ Fr [] w w' := by
  have hpl := fun (w' : World) (he : w.Ext w') => spPlaces (rc := rc) (bc := bc) (h.ext he) hok
  have HL := Lib.hid (And.intro hok h)
  clear hok h
  unfold carA at *
  have hen : c.ents = entsAt (headerB c.roots).length c.blocks := rfl
  rw [hen]
  clear hen
  obtain ⟨N, hN⟩ : ∃ N, N = c.blocks.length := ⟨_, rfl⟩
  go_enter Tryz.func6, Tryz.ntmps6
  go_wp2_with (first
    | go_at_call 17; refine (hpl _ (World.Ext.alloc _ _)).mono ?_; rintro e w1 ⟨g, cp, rfl, hg1, hg2, hP, hF1⟩; clear hpl; have hT := hF1.blk (b := w.heap.size) (Blk.newAt rfl) (by simp); have tc := hT.cells; have hF01 : Fr [] w w1 := Fr.trans (S := []) (by exact frP) hF1 (by simp); clear hF1
    | (refine wre 7 oSp50 ?_)
    | (with_reducible refine wEI ?_; (first | (refine wEN ?_; skip) | (refine wEF rfl (fun K hK => ?_); go_simp) | (refine wEL rfl rfl (fun K hK => ?_); go_simp) | (refine wER rfl (fun K hK => ?_); go_simp) | (refine wEM rfl (fun K hK => ?_); go_simp; try refine ⟨_, _, ⟨rfl, rfl⟩, ?_⟩) | (refine wEG rfl (fun K hK => ?_); go_simp) | (refine wEA rfl (fun K hK => ?_); go_simp))))
  clear tc hT
  go_loopg [5, 14] c.blocks.length (fun k s5 s14 wr => genRel w1 w1.heap.size c k s5 s14 wr)
  case atStart => exact ⟨0, rfl, by omega, ⟨by simp [entsAt, enC], .inl ⟨rfl, by simp [entsAt]⟩⟩, Fr.refl⟩
  case round =>
    obtain ⟨i, rfl, hik, hO, hFr⟩ := hrel
    have hFw := hF01.trans hFr (by simp)
    by_cases hi : i < c.blocks.length
    · have hz : (i : Int) < (c.blocks.length : Int) := by omega
      have hi50 : i < 50 := by have := HL.out.1.blocks; omega
      obtain ⟨x, hx⟩ : ∃ x, x = c.blocks[i] := ⟨_, rfl⟩
      have hgc : c.blocks[i]? = some x := by rw [hx]; simp [hi]
      obtain ⟨b, o, rfl, x1, x2, x3, x4, x5⟩ := (HL.out.2.blocks.ext (Fr.ext hFw)) _ _ hgc
      have htk : c.blocks.take (i + 1) = c.blocks.take i ++ [x] := by rw [List.take_succ, hgc]; rfl
      have hsn := entsAt_snoc2 (headerB c.roots).length (c.blocks.take i) x
      have hel : (entsAt (headerB c.roots).length (c.blocks.take i)).length ≤ 50 := Nat.le_trans (entsAt_length _ _) (by simp; omega)
      have hp := hP i (by omega)
      rw [← World.cell?_of_block (w := w1) (w' := wr) (hFr.block g hg2 (by simp))] at hp
      have hgr : g < wr.heap.size := Nat.lt_of_lt_of_le hg2 hFr.size
      obtain ⟨Q, hQ⟩ : ∃ Q, Hid (Q = (headerB c.roots).length + (secsB (c.blocks.take i)).length) := ⟨_, rfl⟩
      rw [← hQ.out] at hp hsn
      have hQ2 : Q ≤ 1700000 := by
        have h1 := secsB_length (l := c.blocks.take i) (fun x hx => HL.out.1.cid x (List.mem_of_mem_take hx)) (fun x hx => HL.out.1.data x (List.mem_of_mem_take hx))
        have h2 : 32992 * (c.blocks.take i).length ≤ 32992 * 50 := Nat.mul_le_mul (Nat.le_refl _) (by simp; omega)
        have h3 := headerB_length HL.out.1.roots HL.out.1.root
        rw [hQ.out]; omega
      have wQ : IntKind.u64.wrap (Q : Int) = (Q : Int) := by simp [IntKind.wrap, IntKind.bits, IntKind.signed]; omega
      have hn1 : (i : Int) < ((c.blocks.length : Int) + 1) := by omega
      have h1s := hFr.size
      obtain ⟨L, hL⟩ : ∃ L, Hid (L = entsAt (headerB c.roots).length (c.blocks.take i)) := ⟨_, rfl⟩
      rw [← hL.out] at hO hsn hel
      have HQ := Lib.hid (And.intro hik (And.intro htk hsn))
      clear hik hgc htk hsn hx hP
      by_cases h0 : x.cid.code = 0
      · have hcz : (x.cid.code : Int) = 0 := by omega
        have H0 := Lib.hid h0
        clear h0
        go_wp2_with (first
          | (refine wre 7 oSp50 ?_)
          | (with_reducible refine wEI ?_; (first | (refine wEN ?_; skip) | (refine wEF rfl (fun K hK => ?_); go_simp) | (refine wEL rfl rfl (fun K hK => ?_); go_simp) | (refine wER rfl (fun K hK => ?_); go_simp) | (refine wEM rfl (fun K hK => ?_); go_simp; try refine ⟨_, _, ⟨rfl, rfl⟩, ?_⟩) | (refine wEG rfl (fun K hK => ?_); go_simp) | (refine wEA rfl (fun K hK => ?_); go_simp))))
        go_roundg (c.blocks.length - (i + 1))
        case measure => have := HQ.out.1; omega
        case rel =>
          have hF1 : Fr [] wr _ := Fr.alloc (o := .cells #[.int .u64 x.cid.v, .int .u64 x.cid.codec, .int .u64 x.cid.code, .string ⟨x.cid.dig.toArray⟩, .string ⟨x.data.toArray⟩] 48) Fr.refl
          refine ⟨i + 1, by first | (rw [wrap64_1 (by omega)]; done) | (simp; done), by have := HQ.out.1; omega, ?_, ?_⟩
          · rw [HQ.out.2.1, HQ.out.2.2, if_pos H0.out, List.append_nil]
            exact own_fr (S := []) hO (by exact frP) (by simp)
          · exact Fr.trans (S := []) (S' := []) hFr (by exact frP) (by simp)
      · have hcz : ¬ (x.cid.code : Int) = 0 := by omega
        have H0 := Lib.hid h0
        clear h0
        go_wp2_with (first
          | ((with_reducible refine list_bi .append (fun K hK => ?_));  refine appOwn _ _ 27 rfl w1.heap.size 52 (.agg #[.int .u64 0, .int .u64 0, .int .u64 0, .string ⟨#[]⟩, .int .u64 0]) 5 48 en_slice en_info rfl (by omega) _ L.length (enC L) rfl (own_fr (S := []) hO (by exact frP) (by simp)) _ 1 _ [.int .u64 x.cid.v, .int .u64 x.cid.codec, .int .u64 x.cid.code, .string ⟨x.cid.dig.toArray⟩, .int .u64 Q] rfl rfl (newLd (cs := [.int .u64 x.cid.v, .int .u64 x.cid.codec, .int .u64 x.cid.code, .string ⟨x.cid.dig.toArray⟩, .int .u64 Q]) (by simp)) one5 (by omega) (by omega) (by simp; omega) (fun v5 w5 hO5 hF5 => ?_))
          | (refine wre 7 oSp50 ?_)
          | (with_reducible refine wEI ?_; (first | (refine wEN ?_; skip) | (refine wEF rfl (fun K hK => ?_); go_simp) | (refine wEL rfl rfl (fun K hK => ?_); go_simp) | (refine wER rfl (fun K hK => ?_); go_simp) | (refine wEM rfl (fun K hK => ?_); go_simp; try refine ⟨_, _, ⟨rfl, rfl⟩, ?_⟩) | (refine wEG rfl (fun K hK => ?_); go_simp) | (refine wpE_actp rfl rfl (fun K hK => ?_); simp only [List.getElem_toArray, List.getElem_cons_succ, List.getElem_cons_zero]; (first | ((with_reducible refine op_bi .append ?_);  refine appOwn _ _ 27 rfl w1.heap.size 52 (.agg #[.int .u64 0, .int .u64 0, .int .u64 0, .string ⟨#[]⟩, .int .u64 0]) 5 48 en_slice en_info rfl (by omega) _ L.length (enC L) rfl (own_fr (S := []) hO (by exact frP) (by simp)) _ 1 _ [.int .u64 x.cid.v, .int .u64 x.cid.codec, .int .u64 x.cid.code, .string ⟨x.cid.dig.toArray⟩, .int .u64 Q] rfl rfl (newLd (cs := [.int .u64 x.cid.v, .int .u64 x.cid.codec, .int .u64 x.cid.code, .string ⟨x.cid.dig.toArray⟩, .int .u64 Q]) (by simp)) one5 (by omega) (by omega) (by simp; omega) (fun v5 w5 hO5 hF5 => ?_)))) | (refine wEA rfl (fun K hK => ?_); go_simp))))
        go_roundg (c.blocks.length - (i + 1))
        case measure => have := HQ.out.1; omega
        case rel =>
          refine ⟨i + 1, by first | (rw [wrap64_1 (by omega)]; done) | (simp; done), by have := HQ.out.1; omega, ?_, ?_⟩
          · rw [HQ.out.2.1, HQ.out.2.2, if_neg H0.out, enC_append, List.length_append]
            exact hO5
          · refine hFr.trans (Fr.trans (w := wr) (by exact frP) hF5 (fun k hk _ => hk)) ?_
            intro k hk hl
            have := own_ge hO k hk
            omega
    · have hz : ¬ (i : Int) < (c.blocks.length : Int) := by omega
      have hie : i = c.blocks.length := by omega
      have HI := Lib.hid hie
      clear hie hik
      go_wp2
      go_ret
      have := own_ents hO
      rw [HI.out, List.take_length] at this
      exact ⟨_, rfl, this, hFw⟩
def Apart1 (x y : Itm) : Prop := ¬ (x.1.code = y.1.code ∧ x.1.dig = y.1.dig)
def on1Rel (w : World) (l : List Itm) (k : Nat) (s : Value) (wr : World) : Prop :=
  ∃ i, s = .int .i64 (i : Nat) ∧ i + k = l.length ∧ OnceC (l.take i) ∧ Fr [] w wr
def on2Rel (w : World) (l : List Itm) (x : Itm) (n k : Nat) (s : Value) (wr : World) : Prop :=
  ∃ j, s = .int .i64 (j : Nat) ∧ j + k = n ∧ (∀ y ∈ l.take j, Apart1 y x) ∧ Fr [] w wr
set_option maxRecDepth 1000000 in
set_option maxHeartbeats 12800000 in
theorem spOnce {w : World} {v : Value} {l : List Itm} (h : EntsAt w v l) (hl : l.length ≤ 50) : Calls Tryz.prog 7 #[v, .int .u64 1025] w fun e w' => IsB (fun b => b = true → OnceC l) e ∧ Fr [] w w' := by
  obtain ⟨ad, c, rfl, hv⟩ : ∃ ad c, v = .slice ad l.length c ∧ (l ≠ [] → ∃ g, ad = some ⟨g, 0, none⟩ ∧ g < w.heap.size ∧ l.length ≤ c) := by
    rcases h with ⟨rfl, a, c, rfl⟩ | ⟨g, c, rest, h1, h3, h2⟩
    · exact ⟨a, c, rfl, fun h => absurd rfl h⟩
    · exact ⟨_, c, h1, fun _ => ⟨g, rfl, h2.lt, h3⟩⟩
  have HE := Lib.hid (And.intro h hl)
  have hlz : (l.length : Int) ≤ 50 := by omega
  clear h hl
  go_enter Tryz.func7, Tryz.ntmps7
  go_wp2
  go_loopg [11] l.length (fun k s wr => on1Rel w l k s wr)
  case atStart => exact ⟨0, rfl, by omega, by simp [OnceC], Fr.refl⟩
  case round =>
    obtain ⟨i, rfl, hik, hon, hFr⟩ := hrel
    by_cases hi : i < l.length
    · have hz : (i : Int) < (l.length : Int) := by omega
      obtain ⟨g, rfl, hgl, hlc⟩ := hv (by intro e; rw [e] at hi; simp at hi)
      obtain ⟨x, hx⟩ : ∃ x, x = l[i] := ⟨_, rfl⟩
      have hgc : l[i]? = some x := by rw [hx]; simp [hi]
      have hEr := HE.out.1.fr hFr (by simp)
      obtain ⟨x1, x2, x3, x4, x5⟩ := hEr.cells hgc
      have hi2 : (i : Int) ≤ (c : Int) := by omega
      have HQ := Lib.hid (And.intro hik (And.intro hgc hon))
      clear hik hgc hon hx hi
      go_wp2
      have hT0 : Blk (wr.alloc (.cells (enL x).toArray tEN)) wr.heap.size (enL x) tEN (0, 0) := Blk.newAt rfl
      have hF0 : Fr [] wr (wr.alloc (.cells (enL x).toArray tEN)) := Fr.alloc Fr.refl
      unfold enL at hT0 hF0
      generalize wr.alloc _ = w2 at *
      generalize wr.heap.size = T at *
      have hF02 := hFr.trans hF0 (by simp)
      clear hEr x1 x2 x3 x4 x5 hFr hF0
      go_loopg [20] i (fun k s w3 => on2Rel w2 l x i k s w3)
      case atStart => exact ⟨0, rfl, by omega, by simp, Fr.refl⟩
      case round =>
        rename World => w3
        obtain ⟨j, rfl, hjk, hap, hF3⟩ := hrel
        have hT3 := hF3.blk hT0 (by simp)
        have tc := hT3.cells
        have hFx := hF02.trans hF3 (by simp)
        clear hT0
        by_cases hj : j < i
        · have hz2 : (j : Int) < (i : Int) := by omega
          have hjl : j < l.length := by omega
          obtain ⟨y, hy⟩ : ∃ y, y = l[j] := ⟨_, rfl⟩
          have hgj : l[j]? = some y := by rw [hy]; simp [hjl]
          obtain ⟨y1, y2, y3, y4, y5⟩ := (HE.out.1.fr hFx (by simp)).cells hgj
          have HJ := Lib.hid (And.intro hjk (And.intro hgj hap))
          clear hjk hgj hap hy
          have hTl := hT3.lt
          by_cases hd : x.1.dig = y.1.dig
          · have hdn : x.1.dig.toArray = y.1.dig.toArray := by rw [hd]
            by_cases hc : x.1.code = y.1.code
            · have hcz : (x.1.code : Int) = (y.1.code : Int) := by omega
              have Hd := Lib.hid hd
              clear hd hc
              go_wp2
              go_ret
              exact ⟨⟨_, rfl, by intro h; cases h⟩, Fr.trans (S := []) (S' := []) hFx (by exact frP) (by simp)⟩
            · have hcz : ¬ (x.1.code : Int) = (y.1.code : Int) := by omega
              have Hc := Lib.hid hc
              clear hd hc
              go_wp2
              go_roundg (i - (j + 1))
              case measure => have := HJ.out.1; omega
              case rel =>
                refine ⟨j + 1, by first | (rw [wrap64_1 (by have := HE.out.2; omega)]; done) | (simp; done), by have := HJ.out.1; omega, ?_, Fr.trans (S := []) (S' := []) hF3 (by exact frP) (by simp)⟩
                obtain ⟨_, hgj, hap⟩ := HJ.out
                rw [List.take_succ, hgj]
                intro z hz
                rcases List.mem_append.1 hz with hz | hz
                · exact hap z hz
                · simp at hz; subst hz; exact fun e => Hc.out e.1.symm
          · have hdn : ¬ x.1.dig.toArray = y.1.dig.toArray := fun e => hd (by simpa using e)
            have Hd := Lib.hid hd
            clear hd
            go_wp2
            go_roundg (i - (j + 1))
            case measure => have := HJ.out.1; omega
            case rel =>
              refine ⟨j + 1, by first | (rw [wrap64_1 (by have := HE.out.2; omega)]; done) | (simp; done), by have := HJ.out.1; omega, ?_, Fr.trans (S := []) (S' := []) hF3 (by exact frP) (by simp)⟩
              obtain ⟨_, hgj, hap⟩ := HJ.out
              rw [List.take_succ, hgj]
              intro z hz
              rcases List.mem_append.1 hz with hz | hz
              · exact hap z hz
              · simp at hz; subst hz; exact fun e => Hd.out e.2.symm
        · have hz2 : ¬ (j : Int) < (i : Int) := by omega
          have hji : j = i := by omega
          have HJ := Lib.hid (And.intro hji hap)
          clear hji hap hjk
          go_wp2
          go_roundg (l.length - (i + 1))
          case measure => have := HQ.out.1; omega
          case rel =>
            refine ⟨i + 1, by first | (rw [wrap64_1 (by omega)]; done) | (simp; done), by have := HQ.out.1; omega, ?_, hFx⟩
            obtain ⟨hik, hgc, hon⟩ := HQ.out
            rw [List.take_succ, hgc]
            unfold OnceC at *
            rw [List.pairwise_append]
            refine ⟨hon, by simp, fun y hy z hz => ?_⟩
            simp at hz
            subst hz
            have := HJ.out.2 y (by rw [HJ.out.1]; exact hy)
            exact this
    · have hz : ¬ (i : Int) < (l.length : Int) := by omega
      have hie : i = l.length := by omega
      have HI := Lib.hid (And.intro hie hon)
      clear hie hik hon
      go_wp2
      go_ret
      refine ⟨⟨_, rfl, fun _ => ?_⟩, hFr⟩
      have := HI.out.2
      rw [HI.out.1, List.take_length] at this
      exact this
end Go.Proofs.Wx

namespace Go.Proofs.Wx
open Go Go.RowKit Go.Sort
/-- A row of machine integers in a slice's block, sorted by the shelf. -/
theorem putRow_blk {α : Type} [Inhabited α] {enc : α → Value} {w : World} {g m : Nat} {xs ys : List α} {rest : List Value} {T : TypeId} {os : Array Obj} (hB : Blk w g (xs.map enc ++ rest) T (0, 0)) (hl : ys.length = xs.length) :
    Blk (grow (putRow enc (Sort.ahead w m) g 0 ys.toArray) os) g (ys.map enc ++ rest) T (0, 0) ∧ Fr [g] w (grow (putRow enc (Sort.ahead w m) g 0 ys.toArray) os) := by
  have hlt := hB.lt
  have hmod : (putRow enc (Sort.ahead w m) g 0 ys.toArray).heap[g]? = some (.cells (ys.map enc ++ rest).toArray T (0, 0)) := by
    show ((w.heap.modify g (onCells (putCells enc 0 ys.toArray))))[g]? = _
    unfold Blk at hB
    rw [Array.getElem?_modify, if_pos rfl, hB]
    simp only [Option.map_some, onCells]
    congr 2
    unfold putCells
    apply Array.ext_getElem?
    intro k
    simp only [Array.getElem?_mapIdx, List.getElem?_toArray]
    by_cases hk : k < ys.length
    · have e1 : (ys.map enc ++ rest)[k]? = some (enc ys[k]) := by rw [List.getElem?_append_left (by simpa using hk)]; simp [hk]
      have e2 : (xs.map enc ++ rest)[k]? = some (enc (xs[k]'(by omega))) := by rw [List.getElem?_append_left (by simp; omega)]; simp [show k < xs.length by omega]
      rw [e1, e2]
      simp [hk]
    · have e1 : (ys.map enc ++ rest)[k]? = rest[k - ys.length]? := by rw [List.getElem?_append_right (by simp; omega)]; simp
      have e2 : (xs.map enc ++ rest)[k]? = rest[k - ys.length]? := by rw [List.getElem?_append_right (by simp; omega)]; simp [hl]
      rw [e1, e2]
      cases rest[k - ys.length]? <;> simp [hk]
  have hsz : (putRow enc (Sort.ahead w m) g 0 ys.toArray).heap.size = w.heap.size := by
    show (w.heap.modify g _).size = _
    simp
  refine ⟨?_, ⟨rfl, rfl, rfl, ?_, ?_⟩⟩
  · show ((putRow enc (Sort.ahead w m) g 0 ys.toArray).heap ++ os)[g]? = _
    rw [Array.getElem?_append_left (by rw [hsz]; exact hlt)]; exact hmod
  · show _ ≤ ((putRow enc (Sort.ahead w m) g 0 ys.toArray).heap ++ os).size
    rw [Array.size_append, hsz]; omega
  · intro b hb hn
    show ((putRow enc (Sort.ahead w m) g 0 ys.toArray).heap ++ os)[b]? = _
    rw [Array.getElem?_append_left (by rw [hsz]; exact hb)]
    show ((w.heap.modify g (onCells (putCells enc 0 ys.toArray))))[b]? = _
    rw [Array.getElem?_modify, if_neg (by intro e; exact hn (by simp [e]))]
theorem blk_holds {α : Type} [Inhabited α] {enc : α → Value} {w : World} {g : Nat} {xs : List α} {rest : List Value} {T : TypeId} (hB : Blk w g (xs.map enc ++ rest) T (0, 0)) : Holds enc w g 0 xs.toArray := by
  intro j hj
  have hj' : j < xs.length := by simpa using hj
  refine ⟨?_, hB.free _⟩
  rw [Nat.zero_add, hB.cell, List.getElem?_append_left (by simpa using hj')]
  simp [hj']
/-- A row of ints. -/
def NumsAt (k : IntKind) (T : TypeId) (w : World) (v : Value) (xs : List Nat) : Prop := (xs = [] ∧ ∃ a c, v = .slice a 0 c) ∨ ∃ g c rest, v = .slice (some ⟨g, 0, none⟩) xs.length c ∧ xs.length ≤ c ∧ Blk w g (xs.map (fun n : Nat => Value.int k n) ++ rest) T (0, 0)
theorem own_nums {k : IntKind} {T : TypeId} {base : Nat} {w : World} {v : Value} {ks : List Nat} (h : w.ownsRow base T 1 v ks.length (ks.map fun n : Nat => Value.int k n)) : (ks = [] ∧ v = .slice none 0 0) ∨ ∃ g c rest, v = .slice (some ⟨g, 0, none⟩) ks.length c ∧ base ≤ g ∧ ks.length ≤ c ∧ Blk w g (ks.map (fun n : Nat => Value.int k n) ++ rest) T (0, 0) := by
  rcases h.2 with ⟨rfl, h0⟩ | ⟨g, cap, cur, rfl, hb, hg, hnc, _, _, ht⟩
  · exact .inl ⟨List.eq_nil_of_length_eq_zero h0, rfl⟩
  · refine .inr ⟨g, cap, cur.toList.drop (ks.length * 1), rfl, hb, hnc, ?_⟩
    have : Blk w g cur.toList T (0, 0) := hg
    exact this.conv (by rw [← ht, List.take_append_drop])
/-- A slice that lies in a block that came behind w. -/
def NewS (w : World) (v : Value) : Prop := ∀ a n c, v = .slice (some a) n c → w.heap.size ≤ a.block
theorem asc_of_nodup {zs : List Nat} (hs : zs.Pairwise (· ≤ ·)) (hn : zs.Nodup) : zs.Pairwise (· < ·) := by
  induction zs with
  | nil => exact .nil
  | cons a l ih =>
    rw [List.pairwise_cons] at hs ⊢
    rw [List.nodup_cons] at hn
    refine ⟨fun x hx => ?_, ih hs.2 hn.2⟩
    have := hs.1 x hx
    have : a ≠ x := fun e => hn.1 (e ▸ hx)
    omega
theorem ints_slice : Tryz.prog.underlying 49 = some (.slice 3) := by kernel_rfl
theorem ints_info : (Tryz.prog.info? 3).map (fun i => (i.zero, i.size, i.bytes)) = some (some (.int .i64 0), 1, 8) := by kernel_rfl
@[go_sem] theorem run_mkMap2 {P : Program} (t : TypeId) (w : World) : (Instr.makeMap t none).run P w = .ok (.map (some w.heap.size)) (w.alloc (.map #[] 0)) := rfl
theorem bool_zero (w : World) : (zeroValue 4).run Tryz.prog w = .ok (.bool false) w := by kernel_rfl
theorem sort_nats {ks : List Nat} {w : World} {g m : Nat} {rest : List Value} {T : TypeId} {os : Array Obj} (hB : Blk w g (ks.map (fun n : Nat => Value.int .i64 n) ++ rest) T (0, 0)) :
    ∃ zs : List Nat, zs.Perm ks ∧ zs.Pairwise (· ≤ ·) ∧ Blk (grow (putRow (Value.int .i64) (Sort.ahead w m) g 0 ((ks.map fun n : Nat => (n : Int)).mergeSort fun x y => decide (x ≤ y)).toArray) os) g (zs.map (fun n : Nat => Value.int .i64 n) ++ rest) T (0, 0) ∧ Fr [g] w (grow (putRow (Value.int .i64) (Sort.ahead w m) g 0 ((ks.map fun n : Nat => (n : Int)).mergeSort fun x y => decide (x ≤ y)).toArray) os) := by
  have hB' : Blk w g ((ks.map fun n : Nat => (n : Int)).map (Value.int .i64) ++ rest) T (0, 0) := hB.conv (by rw [List.map_map]; rfl)
  have hp : ((ks.map fun n : Nat => (n : Int)).mergeSort fun x y => decide (x ≤ y)).Perm (ks.map fun n : Nat => (n : Int)) := List.mergeSort_perm _ _
  have hs := List.pairwise_mergeSort (le := fun x y : Int => decide (x ≤ y)) (fun a b c h1 h2 => by simp at *; omega) (fun a b => by simp; omega) (ks.map fun n : Nat => (n : Int))
  obtain ⟨h1, h2⟩ := putRow_blk (m := m) (os := os) (ys := (ks.map fun n : Nat => (n : Int)).mergeSort fun x y => decide (x ≤ y)) hB' hp.length_eq
  generalize (ks.map fun n : Nat => (n : Int)).mergeSort (fun x y => decide (x ≤ y)) = S at *
  have hcast : S = (S.map Int.toNat).map fun n : Nat => (n : Int) := by
    rw [List.map_map]
    conv => lhs; rw [← List.map_id S]
    refine List.map_congr_left fun z hz => ?_
    obtain ⟨n, _, rfl⟩ := List.mem_map.1 (hp.mem_iff.1 hz)
    simp
  refine ⟨S.map Int.toNat, ?_, ?_, h1.conv ?_, h2⟩
  · have := hp.map Int.toNat
    rw [List.map_map] at this
    refine this.trans ?_
    have e : ks.map (Int.toNat ∘ fun n : Nat => (n : Int)) = ks := by
      conv => rhs; rw [← List.map_id ks]
      exact List.map_congr_left fun z _ => by simp
    rw [e]
  · rw [List.pairwise_map]
    exact hs.imp fun h => by simp at h; omega
  · conv => lhs; rw [hcast, List.map_map]
    rfl
def wdRel (w : World) (base M : Nat) (l : List Itm) (k : Nat) (s3 s11 : Value) (wr : World) : Prop :=
  ∃ (i : Nat) (ks : List Nat), s11 = .int .i64 (i : Nat) ∧ i + k = l.length ∧ wr.ownsRow base 3 1 s3 ks.length (ks.map fun n : Nat => Value.int .i64 n) ∧ ks.Nodup ∧ (∀ x, x ∈ ks ↔ x ∈ (l.take i).map fun e => e.1.dig.length) ∧ ks.length ≤ i ∧ Mp wr M .i64 (ks.map fun n => (n, Value.bool true)) ∧ Fr [] w wr
set_option maxRecDepth 1000000 in
set_option maxHeartbeats 12800000 in
theorem spWidths {w : World} {v : Value} {l : List Itm} (h : EntsAt w v l) (hl : l.length ≤ 50) (hd : ∀ e ∈ l, e.1.dig.length ≤ 200) : Calls Tryz.prog 88 #[v] w fun e w' => ∃ s, e = .returned s ∧ NumsAt .i64 3 w' s (widthsOf l) ∧ NewS w s ∧ Fr [] w w' := by
  obtain ⟨ad, c, rfl, hv⟩ : ∃ ad c, v = .slice ad l.length c ∧ (l ≠ [] → ∃ g, ad = some ⟨g, 0, none⟩ ∧ g < w.heap.size ∧ l.length ≤ c) := by
    rcases h with ⟨rfl, a, c, rfl⟩ | ⟨g, c, rest, h1, h3, h2⟩
    · exact ⟨a, c, rfl, fun h => absurd rfl h⟩
    · exact ⟨_, c, h1, fun _ => ⟨g, rfl, h2.lt, h3⟩⟩
  have HE := Lib.hid (And.intro h (And.intro hl hd))
  have hlz : (l.length : Int) ≤ 50 := by omega
  clear h hl hd
  obtain ⟨M, hM⟩ : ∃ M, M = w.heap.size := ⟨_, rfl⟩
  go_enter Tryz.func88, Tryz.ntmps88
  go_wp2
  go_loopg [3, 11] l.length (fun k s3 s11 wr => wdRel w (M + 1) M l k s3 s11 wr)
  case atStart => exact ⟨0, [], rfl, by omega, ⟨by simp, .inl ⟨rfl, rfl⟩⟩, by simp, by simp, by simp, hM ▸ Mp.new, Fr.alloc Fr.refl⟩
  case round =>
    obtain ⟨i, ks, rfl, hik, hO, hnd, hmem, hkl, hMp, hFr⟩ := hrel
    subst hM
    have hks : ks.length ≤ 50 := by omega
    by_cases hi : i < l.length
    · have hz : (i : Int) < (l.length : Int) := by omega
      obtain ⟨g, rfl, hgl, hlc⟩ := hv (by intro e; rw [e] at hi; simp at hi)
      obtain ⟨x, hx⟩ : ∃ x, x = l[i] := ⟨_, rfl⟩
      have hgc : l[i]? = some x := by rw [hx]; simp [hi]
      have htk : l.take (i + 1) = l.take i ++ [x] := by rw [List.take_add_one, hgc]; rfl
      have hEr := HE.out.1.fr hFr (by simp)
      obtain ⟨x1, x2, x3, x4, x5⟩ := hEr.cells hgc
      have hi2 : (i : Int) ≤ (c : Int) := by omega
      have hM2 := hMp.fr (S := []) (w' := wr.alloc (.cells (enL x).toArray tEN)) (Fr.alloc Fr.refl) (by simp)
      have hlk := hM2.look (P := Tryz.prog) (T := 229) (K := 3) (E := 4) (by kernel_rfl) (by kernel_rfl) bool_zero x.1.dig.length false
      rw [look_map (f := fun _ => Value.bool true)] at hlk
      unfold enL at hlk hM2
      have h1s := hFr.size
      have hMl := hMp.lt
      have HQ := Lib.hid (And.intro hik (And.intro htk (And.intro hmem (And.intro hnd hkl))))
      have HI := Lib.hid hi
      clear hik hgc htk hmem hnd hx hEr hi hkl
      by_cases hn : x.1.dig.length ∈ ks
      · simp only [if_pos hn, Option.getD_some, Bool.false_eq_true, if_false] at hlk
        have HN := Lib.hid hn
        clear hn
        go_wp2
        go_roundg (l.length - (i + 1))
        case measure => have := HQ.out.1; omega
        case rel =>
          obtain ⟨hik, htk, hmem, hnd, hkl⟩ := HQ.out
          have hF1 : Fr [] wr (wr.alloc (.cells (enL x).toArray tEN)) := Fr.alloc Fr.refl
          refine ⟨i + 1, ks, by first | (rw [wrap64_1 (by have := HE.out.2.1; omega)]; done) | (simp; done), by omega, own_fr hO hF1 (by simp), hnd, ?_, by omega, hMp.fr hF1 (by simp), hFr.trans hF1 (by simp)⟩
          intro y
          rw [htk, List.map_append, List.mem_append, ← hmem]
          simp
          intro e; rw [e]; exact HN.out
      · simp only [if_neg hn, Option.getD_none, Bool.false_eq_true, if_false] at hlk
        have HN := Lib.hid hn
        clear hn
        go_wp2_with (first
          | ((with_reducible refine list_mapUpdate (fun K hK => ?_));  refine putStep _ _ _ 229 rfl (b := w.heap.size) (n := x.1.dig.length) (q := .i64) (x := .bool true) rfl rfl rfl hM2 (Kt := 3) (E := 4) (by kernel_rfl) (by kernel_rfl) (fun w5 hF5 hP5 => ?_); clear hlk)
          | ((with_reducible refine list_bi .append (fun K hK => ?_));  refine appOwn _ _ 49 rfl (w.heap.size + 1) 3 (.int .i64 0) 1 8 ints_slice ints_info rfl (by omega) _ ks.length (ks.map fun n : Nat => Value.int .i64 n) rfl (own_fr (S := []) (own_fr (S := [w.heap.size]) (own_fr (S := []) hO (Fr.alloc Fr.refl) (by simp)) hF5 (by intro k hk; simp at hk; subst hk; exact .inl (Nat.lt_succ_self _))) (by exact frP) (by simp)) _ 1 _ [.int .i64 x.1.dig.length] rfl rfl (newL (cs := [.int .i64 x.1.dig.length]) (by simp)) (by intro u hu; simp at hu; subst hu; rfl) (by omega) (by omega) (by have := hF5.size; simp at this ⊢; omega) (fun v6 w6 hO6 hF6 => ?_)))
        go_roundg (l.length - (i + 1))
        case measure => have := HQ.out.1; omega
        case rel =>
          obtain ⟨hik, htk, hmem, hnd, hkl⟩ := HQ.out
          have hM6 : Mp w5 w.heap.size .i64 ((ks ++ [x.1.dig.length]).map fun n => (n, Value.bool true)) := by
            rcases hP5 with ⟨_, h⟩ | ⟨j, v0, _, h, _⟩
            · rw [List.map_append]; exact h
            · rw [look_map (f := fun _ => Value.bool true), if_neg HN.out] at h; cases h
          have hF6' : Fr u3.ownBlock.toList w5 w6 := Fr.trans (S := u3.ownBlock.toList) (S' := u3.ownBlock.toList) (by exact frP) hF6 (fun k hk _ => hk)
          have hF1 : Fr [w.heap.size] wr w5 := Fr.trans (S := [w.heap.size]) (Fr.alloc Fr.refl) hF5 (fun k hk _ => hk)
          refine ⟨i + 1, ks ++ [x.1.dig.length], by first | (rw [wrap64_1 (by have := HE.out.2.1; have := HI.out; omega)]; done) | (simp; done), by have := HI.out; omega, ?_, ?_, ?_, by simp; omega, hM6.fr hF6' ?_, ?_⟩
          · rw [List.length_append, List.map_append]; exact hO6
          · rw [List.nodup_append]
            exact ⟨hnd, by simp, fun a ha b hb => by simp at hb; subst hb; exact fun e => HN.out (e ▸ ha)⟩
          · intro y
            rw [htk, List.map_append, List.mem_append, List.mem_append, ← hmem]
            simp
          · intro hk
            have := own_ge hO _ hk
            omega
          · refine (hFr.trans hF1 (fun k hk hl => by simp at hk; omega)).trans hF6' (fun k hk hl => ?_)
            have := own_ge hO k hk
            omega
    · have hz : ¬ (i : Int) < (l.length : Int) := by omega
      have hie : i = l.length := by omega
      have hwd : ∀ zs : List Nat, zs.Perm ks → zs.Pairwise (· ≤ ·) → zs = widthsOf l := by
        intro zs hp hs
        refine ascOf_unique (asc_of_nodup hs (hp.nodup_iff.2 hnd)) fun y => ?_
        rw [hp.mem_iff, hmem, hie, List.take_length]
      clear hmem hnd hie hik hi
      rcases own_nums hO with ⟨rfl, rfl⟩ | ⟨g, cp, rest, rfl, hbg, hcp, hB⟩
      · have hE := hwd [] (by simp) (by simp)
        have HW := Lib.hid hE
        clear hE hwd
        go_wp2_with (first
          | go_at_call 113; refine (Tryz.sort_Ints_none _ _ _).mono ?_; rintro e w7 ⟨rfl, rfl⟩)
        go_ret
        exact ⟨_, rfl, .inl ⟨HW.out.symm, _, _, rfl⟩, (fun a n c e => by cases e), hFr⟩
      · obtain ⟨KL, hKL⟩ : ∃ KL, KL = ks.length := ⟨_, rfl⟩
        have HK := Lib.hid hKL
        have hsort := Tryz.sort_Ints g 0 cp (ks.map fun n : Nat => (n : Int)) wr (blk_holds (rest := rest) (hB.conv (by rw [List.map_map]; rfl))) hB.lt (by simp; omega)
        rw [List.length_map, ← hKL] at hsort
        rw [← hKL]
        clear hKL
        go_wp2_with (first
          | go_at_call 113; refine hsort.mono ?_; rintro e w7 ⟨rfl, m, os, rfl⟩)
        go_ret
        obtain ⟨zs, hp, hs, hB7, hF7⟩ := sort_nats (m := m) (os := os) hB
        refine ⟨_, rfl, .inr ⟨g, cp, rest, ?_, ?_, by rw [← hwd zs hp hs]; exact hB7⟩, (fun a n c e => by cases e; show w.heap.size ≤ g; omega), hFr.trans hF7 (by intro k hk hl; simp at hk; omega)⟩
        · show Value.slice (some ⟨g, 0, none⟩) KL cp = _
          rw [← hwd zs hp hs, hp.length_eq, ← HK.out]
        · rw [← hwd zs hp hs, hp.length_eq]; exact hcp
end Go.Proofs.Wx

namespace Go.Proofs.Wx
open Go Go.RowKit Go.Sort
theorem own_ents2 {base : Nat} {w : World} {v : Value} {l : List Itm} (h : w.ownsRow base tEN 5 v l.length (enC l)) : EntsAt w v l ∧ ∀ a n c, v = .slice (some a) n c → base ≤ a.block := by
  refine ⟨own_ents h, fun a n c e => ?_⟩
  exact own_ge h a.block (by rw [e]; simp [Value.ownBlock])
theorem EntsAt.form {w : World} {v : Value} {l : List Itm} (h : EntsAt w v l) : ∃ ad c, v = .slice ad l.length c ∧ (l ≠ [] → ∃ g, ad = some ⟨g, 0, none⟩ ∧ g < w.heap.size ∧ l.length ≤ c) := by
  rcases h with ⟨rfl, a, c, rfl⟩ | ⟨g, c, rest, h1, h3, h2⟩
  · exact ⟨a, c, rfl, fun h => absurd rfl h⟩
  · exact ⟨_, c, h1, fun _ => ⟨g, rfl, h2.lt, h3⟩⟩
def cdRel (w : World) (l : List Itm) (n k : Nat) (s5 s10 : Value) (wr : World) : Prop :=
  ∃ (i : Nat), s10 = .int .i64 (i : Nat) ∧ i + k = l.length ∧ wr.ownsRow w.heap.size tEN 5 s5 (ofC (l.take i) n).length (enC (ofC (l.take i) n)) ∧ Fr [] w wr
set_option maxRecDepth 1000000 in
set_option maxHeartbeats 12800000 in
theorem spCoded {w : World} {v : Value} {l : List Itm} (h : EntsAt w v l) (hl : l.length ≤ 50) (n : Nat) : Calls Tryz.prog 59 #[v, .int .u64 n] w fun e w' => ∃ s, e = .returned s ∧ EntsAt w' s (ofC l n) ∧ NewS w s ∧ Fr [] w w' := by
  obtain ⟨ad, c, rfl, hv⟩ := h.form
  have HE := Lib.hid (And.intro h hl)
  have hlz : (l.length : Int) ≤ 50 := by omega
  clear h hl
  go_enter Tryz.func59, Tryz.ntmps59
  go_wp2
  go_loopg [5, 10] l.length (fun k s5 s10 wr => cdRel w l n k s5 s10 wr)
  case atStart => exact ⟨0, rfl, by omega, ⟨by simp [ofC, enC], .inl ⟨rfl, by simp [ofC]⟩⟩, Fr.refl⟩
  case round =>
    obtain ⟨i, rfl, hik, hO, hFr⟩ := hrel
    by_cases hi : i < l.length
    · have hz : (i : Int) < (l.length : Int) := by omega
      obtain ⟨g, rfl, hgl, hlc⟩ := hv (by intro e; rw [e] at hi; simp at hi)
      obtain ⟨x, hx⟩ : ∃ x, x = l[i] := ⟨_, rfl⟩
      have hgc : l[i]? = some x := by rw [hx]; simp [hi]
      have htk : ofC (l.take (i + 1)) n = ofC (l.take i) n ++ (if x.1.code = n then [x] else []) := by
        rw [List.take_add_one, hgc]; unfold ofC; rw [List.filter_append]; congr 1
        by_cases e : x.1.code = n <;> simp [e]
      have hEr := HE.out.1.fr hFr (by simp)
      obtain ⟨x1, x2, x3, x4, x5⟩ := hEr.cells hgc
      have hi2 : (i : Int) ≤ (c : Int) := by omega
      have h1s := hFr.size
      obtain ⟨L, hL⟩ : ∃ L, Hid (L = ofC (l.take i) n) := ⟨_, rfl⟩
      have hel : L.length ≤ 50 := by
        rw [hL.out]
        refine Nat.le_trans (List.length_filter_le _ _) ?_
        have := HE.out.2
        rw [List.length_take]; omega
      rw [← hL.out] at hO htk
      have HQ := Lib.hid (And.intro hik htk)
      have HI := Lib.hid hi
      clear hik hgc htk hx hEr hi
      have hF1 : Fr [] wr (wr.alloc (.cells (enL x).toArray tEN)) := Fr.alloc Fr.refl
      unfold enL at hF1
      by_cases hc : x.1.code = n
      · have hcz : (x.1.code : Int) = (n : Int) := by omega
        have HC := Lib.hid hc
        clear hc
        go_wp2_with (first
          | ((with_reducible refine list_bi .append (fun K hK => ?_));  refine appOwn _ _ 27 rfl w.heap.size 52 (.agg #[.int .u64 0, .int .u64 0, .int .u64 0, .string ⟨#[]⟩, .int .u64 0]) 5 48 en_slice en_info rfl (by omega) _ L.length (enC L) rfl (own_fr (S := []) hO (by exact frP) (by simp)) _ 1 _ [.int .u64 x.1.v, .int .u64 x.1.codec, .int .u64 n, .string ⟨x.1.dig.toArray⟩, .int .u64 x.2] rfl rfl (newL (cs := [.int .u64 x.1.v, .int .u64 x.1.codec, .int .u64 n, .string ⟨x.1.dig.toArray⟩, .int .u64 x.2]) (by simp)) one5 (by omega) (by omega) (by simp; omega) (fun v5 w5 hO5 hF5 => ?_)))
        go_roundg (l.length - (i + 1))
        case measure => have := HQ.out.1; omega
        case rel =>
          refine ⟨i + 1, by first | (rw [wrap64_1 (by have := HI.out; omega)]; done) | (simp; done), by have := HI.out; omega, ?_, ?_⟩
          · rw [HQ.out.2, if_pos HC.out, enC_append, List.length_append]
            have e : enC [x] = [.int .u64 x.1.v, .int .u64 x.1.codec, .int .u64 n, .string ⟨x.1.dig.toArray⟩, .int .u64 x.2] := by simp [enC, enL, HC.out]
            rw [e]
            exact hO5
          · refine hFr.trans (Fr.trans (w := wr) (by exact frP) hF5 (fun k hk _ => hk)) ?_
            intro k hk hl
            have := own_ge hO k hk
            omega
      · have hcz : ¬ (x.1.code : Int) = (n : Int) := by omega
        have HC := Lib.hid hc
        clear hc
        go_wp2
        go_roundg (l.length - (i + 1))
        case measure => have := HQ.out.1; omega
        case rel =>
          refine ⟨i + 1, by first | (rw [wrap64_1 (by have := HI.out; omega)]; done) | (simp; done), by have := HI.out; omega, ?_, hFr.trans hF1 (by simp)⟩
          rw [HQ.out.2, if_neg HC.out, List.append_nil]
          exact own_fr hO hF1 (by simp)
    · have hz : ¬ (i : Int) < (l.length : Int) := by omega
      have hie : i = l.length := by omega
      have HI := Lib.hid hie
      clear hie hik
      go_wp2
      go_ret
      rw [HI.out, List.take_length] at hO
      have := own_ents2 hO
      exact ⟨_, rfl, this.1, this.2, hFr⟩
end Go.Proofs.Wx
