import Derived.Test.YtgbfgjhndkkncaaGreatDoorM31
import Derived.Test.YtgbfgjhndkkncaaGreatDoorM34
import Derived.Test.YtgbfgjhndkkncaaGreatDoorM36
import Derived.Test.YtgbfgjhndkkncaaGreatDoorM40
import Derived.Test.YtgbfgjhndkkncaaGreatDoorM41
import Derived.Shelf.GgSortFunc.Whole
import Derived.Shelf.GgSortFunc.Tiny
set_option maxRecDepth 100000
set_option maxHeartbeats 1000000
set_option linter.unusedVariables false
set_option linter.unusedSimpArgs false
set_option linter.deprecated false
set_option linter.all false
set_option linter.unusedSectionVars false
namespace Go.Proofs.Wx
open Go Go.RowKit Go.Sort
theorem own_none {w : World} {T : TypeId} {size : Nat} : (w.alloc (.cells #[] T)).ownsRow w.heap.size T size (.slice (some ⟨w.heap.size, 0, none⟩) 0 0) 0 [] :=
  ⟨by simp, .inr ⟨w.heap.size, 0, #[], rfl, Nat.le_refl _, Blk.new (cs := []), Nat.le_refl _, by simp, by simp, by simp⟩⟩
theorem own_entsF {base L : Nat} {w : World} {v : Value} {l : List Itm} (h : w.ownsRow base tEN 5 v L (enC l)) (hL : L = l.length) (h0 : l ≠ []) : ∃ g c rest, v = .slice (some ⟨g, 0, none⟩) L c ∧ L ≤ c ∧ base ≤ g ∧ Blk w g (enC l ++ rest) tEN (0, 0) := by
  subst hL
  rcases h.2 with ⟨rfl, hz⟩ | ⟨g, cap, cur, rfl, hb, hg, hnc, _, _, ht⟩
  · exact absurd (List.eq_nil_of_length_eq_zero hz) h0
  · refine ⟨g, cap, cur.toList.drop (l.length * 5), rfl, hnc, hb, ?_⟩
    have : Blk w g cur.toList tEN (0, 0) := hg
    exact this.conv (by rw [← ht, List.take_append_drop])
/-- What ByDigest's sort does, of whatever length. -/
theorem sortBdAll {w : World} {P g c : Nat} {l : List Itm} {rest : List Value} (hP : Blk w P [.slice (some ⟨g, 0, none⟩) l.length c] 27 (0, 0)) (hB : Blk w g (enC l ++ rest) tEN (0, 0)) (hne : g ≠ P) (h50 : l.length ≤ 50) :
    Calls Tryz.prog 114 #[.iface 27 (.slice (some ⟨g, 0, none⟩) l.length c), .func (.func 115) #[] #[.pointer (some ⟨P, 0, none⟩)]] w fun e w' => e = .returned (.tuple #[]) ∧
      ∃ zs : List Itm, zs.Perm l ∧ zs.Pairwise (fun a b => a.1.dig ≤ b.1.dig) ∧ Blk w' g (enC zs ++ rest) tEN (0, 0) ∧ Fr [g, P] w w' ∧ Blk w' P [.slice (some ⟨g, 0, none⟩) l.length c] 27 (0, 0) := by
  by_cases h2 : 2 ≤ l.length
  · exact sortBd hP hB hne h2 h50
  · refine (sortBd1 (by omega)).mono ?_
    rintro e w' ⟨rfl, hF⟩
    refine ⟨rfl, l, .refl _, ?_, hF.blk hB (by simp), hF.mono (by simp), hF.blk hP (by simp)⟩
    match l, h2 with
    | [], _ => exact .nil
    | [a], _ => exact List.pairwise_singleton _ _
    | a :: b :: r, h2 => exact absurd (by simp) h2
set_option maxRecDepth 1000000 in
set_option maxHeartbeats 12800000 in
theorem spByDigest {w : World} {v : Value} {l : List Itm} (h : EntsAt w v l) (hl : l.length ≤ 50) (hd : Distinct l) : Calls Tryz.prog 89 #[v] w fun e w' => ∃ s, e = .returned s ∧ EntsAt w' s (sortD l) ∧ NewS w s ∧ Fr [] w w' := by
  obtain ⟨ad, c, rfl, hv⟩ := h.form
  have HE := Lib.hid (And.intro h (And.intro hl hd))
  have hlz : l.length ≤ 50 := hl
  clear h hl hd
  by_cases h0 : l = []
  · subst h0
    have z1 : ∀ a w, (loadCellsFrom a 0 0 #[]).run Tryz.prog w = .ok #[] w := fun _ _ => rfl
    have z2 : ∀ a w, (storeCells a []).run Tryz.prog w = .ok () w := fun _ _ => rfl
    clear hv
    go_enter Tryz.func89, Tryz.ntmps89
    cases ad
    all_goals
      go_wp2_with (first
        | (go_at_call 114; refine (sortBd1 (p := some ⟨w.heap.size, 0, none⟩) (n := 0) (c := 0) (by omega)).mono ?_; rintro e w7 ⟨rfl, hF7⟩; have pc7 := (hF7.blk (b := w.heap.size + 1) (cs := [.slice (some ⟨w.heap.size, 0, none⟩) 0 0]) (T := 27) (fr := (0, 0)) (Blk.newAt (by simp)) (by simp)).cells))
      go_ret
      refine ⟨_, rfl, .inl ⟨by simp [sortD], _, _, rfl⟩, (fun a n c e => ?_), Fr.trans (S := []) (S' := []) (by exact frP) hF7 (by simp)⟩
      have e2 : Value.slice (some ⟨w.heap.size, 0, none⟩) 0 0 = .slice (some a) n c := e
      cases e2; exact Nat.le_refl _
  · obtain ⟨g, rfl, hgl, hlc⟩ := hv h0
    obtain ⟨L, hL⟩ : ∃ L, Hid (L = l.length) := ⟨_, rfl⟩
    have hcell : ∀ w' : World, Fr [] w w' → ∀ (j : Nat) (u : Value), (enC l)[j]? = some u → w'.cell? ((⟨g, 0, none⟩ : Addr).add j) = some u := fun w' hf j u hu => by
      have h1 := HE.out.1.fr hf (by simp)
      rcases h1 with ⟨h, _⟩ | ⟨g', c', rest, e, _, hB⟩
      · exact absurd h h0
      · cases e
        rw [Addr.add_lit, Nat.zero_add, hB.cell, List.getElem?_append_left (List.getElem?_eq_some_iff.1 hu).1]; exact hu
    have HC := Lib.hid hcell
    have hone : ∀ u ∈ enC l, u.oneCell' = true := fun u hu => by
      obtain ⟨x, _, hx⟩ := List.mem_flatMap.1 hu
      simp [enL] at hx
      rcases hx with rfl | rfl | rfl | rfl | rfl <;> rfl
    have HO := Lib.hid hone
    have H0 := Lib.hid h0
    rw [← hL.out]
    have hLz : L ≤ 50 := by rw [hL.out]; exact hlz
    clear hcell hone h0 hlz hv
    go_enter Tryz.func89, Tryz.ntmps89
    go_wp2_with (first
      | ((with_reducible refine list_bi .append (fun K hK => ?_));  refine appOwn _ _ 27 rfl w.heap.size tEN (.agg #[.int .u64 0, .int .u64 0, .int .u64 0, .string ⟨#[]⟩, .int .u64 0]) 5 48 en_slice en_info rfl (by omega) _ 0 [] rfl own_none ⟨g, 0, none⟩ L c (enC l) rfl (by rw [enC_length, hL.out]) (HC.out _ (by exact frP)) HO.out (by omega) (by omega) (by simp) (fun v6 w6 hO6 hF6 => ?_); rw [Nat.zero_add, List.nil_append] at hO6; obtain ⟨g6, c6, rest6, rfl, hlc6, hb6, hB6⟩ := own_entsF hO6 hL.out H0.out; have hg6 := hB6.lt; have hF6' : Fr [] w w6 := Fr.trans (S := []) (by exact frP) hF6 (by intro k hk hl; have := own_ge (own_none (w := w) (T := tEN) (size := 5)) k hk; omega); have hW := hL.out; have hsort := sortBdAll (w := w6.alloc (.cells #[.slice (some ⟨g6, 0, none⟩) L c6] 27)) (P := w6.heap.size) (g := g6) (c := c6) (l := l) (rest := rest6) (by rw [← hL.out]; exact Blk.new) (Blk.alloc hB6) (by omega) HE.out.2.1; rw [← hL.out] at hsort; clear hW hO6 hF6)
      | go_at_call 114; (refine hsort.mono ?_); rintro e w7 ⟨rfl, zs, hp, hs, hB7, hF7, hP7⟩; have pc7 := hP7.cells; clear hsort)
    go_ret
    have hwd : zs = sortD l := sortD_unique hp hs HE.out.2.2
    have hzl : L = (sortD l).length := by rw [hL.out, ← hwd, hp.length_eq]
    refine ⟨_, rfl, .inr ⟨g6, c6, rest6, by rw [← hzl]; rfl, by omega, by rw [← hwd]; exact hB7⟩, (fun a n c e => ?_), Fr.trans (S := []) (S' := [g6, w6.heap.size]) (Fr.alloc hF6') hF7 (by intro k hk hl; have := hF6'.size; simp at hk; omega)⟩
    have e2 : Value.slice (some ⟨g6, 0, none⟩) L c6 = .slice (some a) n c := e
    cases e2; exact hb6
theorem byD : ByD := fun _ _ _ h hl hd => spByDigest h hl hd
end Go.Proofs.Wx

namespace Go.Proofs.Wx
open Go Go.RowKit Go.Sort Go.Lib
theorem cdLess {W : World} {g c P n : Nat} {G : Nat → Int} (hs : W.cell? ⟨P, 0, none⟩ = some (.slice (some ⟨g, 0, none⟩) n c)) (hc : ∀ t, t < n → W.cell? ⟨g, 0 + t, none⟩ = some (.int .u64 (G t))) (i j : Nat) (hi : i < n) (hj : j < n) :
    Calls Tryz.prog 91 #[.int .i64 i, .int .i64 j, .pointer (some ⟨P, 0, none⟩)] W fun e w' => e = .returned (.bool (decide (G i < G j))) ∧ ∃ q, w' = W.drewN q := by
  have ci := hc i hi
  have cj := hc j hj
  rw [Nat.zero_add] at ci cj
  have hi' : (i : Int) < (n : Int) := by omega
  have hj' : (j : Int) < (n : Int) := by omega
  clear hc hi hj
  go_enter Tryz.func91, Tryz.ntmps91
  go_wp2_with (first
    | (refine wre 1 [(0,.look),(1,.free),(2,.free),(3,.look),(4,.look),(5,.free),(6,.free),(7,.look),(8,.free),(9,.free)] ?_)
    | (with_reducible refine wEI ?_; (first | (refine wEN ?_; skip) | (refine wEF rfl (fun K hK => ?_); go_simp) | (refine wEL rfl rfl (fun K hK => ?_); go_simp) | (refine wER rfl (fun K hK => ?_); go_simp) | (refine wEM rfl (fun K hK => ?_); go_simp; try refine ⟨_, _, ⟨rfl, rfl⟩, ?_⟩) | (refine wEG rfl (fun K hK => ?_); go_simp) | (refine wEA rfl (fun K hK => ?_); go_simp))))
  go_ret
  exact ⟨rfl, 1, rfl⟩
noncomputable def cdT : TypeInfo := (Tryz.prog.info? 115).get (by kernel_rfl)
noncomputable def cdE : TypeInfo := (Tryz.prog.info? 30).get (by kernel_rfl)
theorem cdK (n : Nat) (h2 : 2 ≤ n) : Lib.swapperK n cdE 11 = 5 := by
  have a : cdE.hasPointers = false := by kernel_rfl
  have b : cdE.bytes = 8 := by kernel_rfl
  have c : (n == 0) = false := by simp; omega
  have d : (n == 1) = false := by simp; omega
  simp [Lib.swapperK, a, b, c, d]
theorem sortCd {w : World} {P g c : Nat} {ks : List Nat} {rest : List Value} (hP : Blk w P [.slice (some ⟨g, 0, none⟩) ks.length c] 115 (0, 0)) (hB : Blk w g (ks.map (fun n : Nat => Value.int .u64 n) ++ rest) 30 (0, 0)) (hne : P ≠ g) (h2 : 2 ≤ ks.length) (h50 : ks.length ≤ 50) :
    Calls Tryz.prog 90 #[.iface 115 (.slice (some ⟨g, 0, none⟩) ks.length c), .func (.func 91) #[] #[.pointer (some ⟨P, 0, none⟩)]] w fun e w' => e = .returned (.tuple #[]) ∧
      ∃ zs : List Nat, zs.Perm ks ∧ zs.Pairwise (· ≤ ·) ∧ Blk w' g (zs.map (fun n : Nat => Value.int .u64 n) ++ rest) 30 (0, 0) ∧ Fr [g] w w' := by
  have hB' : Blk w g ((ks.map fun n : Nat => (n : Int)).map (Value.int .u64) ++ rest) 30 (0, 0) := hB.conv (by rw [List.map_map]; rfl)
  obtain ⟨d, hd⟩ : ∃ d : Array Int, d = (ks.map fun n : Nat => (n : Int)).toArray := ⟨_, rfl⟩
  have hds : d.size = ks.length := by rw [hd]; simp
  have hH : Holds (Value.int .u64) w g 0 d := hd ▸ blk_holds hB'
  have hless : LessReads Tryz.prog 91 #[.pointer (some ⟨P, 0, none⟩)] (Value.int .u64) ltInt g 0 d.size w := by
    intro m os dk hs i j hi hj
    have e : sortWorld (Value.int .u64) w g 0 m dk os = putRow (Value.int .u64) (grow (Sort.ahead w m) os) g 0 dk := by
      unfold sortWorld; rw [putRow_grow _ (Sort.ahead w m) _ g 0 _ hB.lt]
    have hHg : Holds (Value.int .u64) (grow (Sort.ahead w m) os) g 0 d := holds_grow _ _ _ g 0 d hB.lt (holds_ahead _ _ _ _ _ _ hH)
    refine cdLess (g := g) (c := c) (P := P) (n := d.size) (G := fun t => dk[t]!) ?_ (fun t ht => ?_) i j hi hj
    · rw [e, cell?_putRow_other _ _ g 0 dk _ (Or.inl (by exact hne)), cell?_grow _ _ _ (by exact hP.lt)]
      show w.cell? _ = _
      rw [hP.cell, hds]; rfl
    · rw [e]; exact cell?_putRow _ _ g 0 d dk hHg hs t (by omega)
  have hS := Any.sort_Slice_sorted Tryz.laysGg6 115 30 cdT cdE (by kernel_rfl) (by kernel_rfl) (by kernel_rfl) (by kernel_rfl) 11 (fun _ => by kernel_rfl) (by kernel_rfl) (fun _ => by kernel_rfl) (Value.int .u64) (fun _ => rfl) ltInt swo_ltInt 91 _
    (enters_of Tryz.func91 (by kernel_rfl) rfl) g 0 c d (by omega) (by omega) 141 (by rw [cdK _ (by omega)]; kernel_rfl) true
    (fun args W => run_callFunc_extern Tryz.func141 (by kernel_rfl) (by kernel_rfl) (by kernel_rfl) (e := Extern.ReflectliteSwapper.swap true) (by kernel_rfl) args W) w hless hH hB.lt
  change Calls Tryz.prog 90 _ _ _ at hS
  rw [hds] at hS
  refine hS.mono ?_
  rintro e w' ⟨rfl, d', m, os, hp, hs, rfl⟩
  obtain ⟨hp2, hs2⟩ := sorted_list hds hp hs
  rw [hd] at hp2
  simp only [List.toList_toArray] at hp2
  obtain ⟨h1, h2'⟩ := putRow_blk (m := m) (os := os) (ys := d'.toList) hB' hp2.length_eq
  rw [Array.toArray_toList] at h1 h2'
  generalize d'.toList = S at *
  have hcast : S = (S.map Int.toNat).map fun n : Nat => (n : Int) := by
    rw [List.map_map]
    conv => lhs; rw [← List.map_id S]
    refine List.map_congr_left fun z hz => ?_
    obtain ⟨n, _, rfl⟩ := List.mem_map.1 (hp2.mem_iff.1 hz)
    simp
  refine ⟨rfl, S.map Int.toNat, ?_, ?_, h1.conv ?_, h2'⟩
  · have := hp2.map Int.toNat
    rw [List.map_map] at this
    refine this.trans ?_
    have e : ks.map (Int.toNat ∘ fun n : Nat => (n : Int)) = ks := by
      conv => rhs; rw [← List.map_id ks]
      exact List.map_congr_left fun z _ => by simp
    rw [e]
  · rw [List.pairwise_map]
    exact hs2.imp fun h => by omega
  · conv => lhs; rw [hcast, List.map_map]
    rfl
theorem sortCd1 {w : World} {lb : Array Value} {p : Option Addr} {n c : Nat} (h1 : n ≤ 1) :
    Calls Tryz.prog 90 #[.iface 115 (.slice p n c), .func (.func 91) #[] lb] w fun e w' => e = .returned (.tuple #[]) ∧ Fr [] w w' := by
  have key : ∀ k f, Lib.swapperK n cdE 11 = k → Tryz.prog.funcs.findIdx? (·.name == "internal/reflectlite" ++ ".Swapper$" ++ toString k) = some f → Calls Tryz.prog 90 #[.iface 115 (.slice p n c), .func (.func 91) #[] lb] w fun e w' => e = .returned (.tuple #[]) ∧ Fr [] w w' := by
    intro k f hk hf
    have hS := Any.sort_Slice_tiny Tryz.laysGg6 115 30 cdT cdE (by kernel_rfl) (by kernel_rfl) (by kernel_rfl) (by kernel_rfl) 11 (fun _ => by kernel_rfl) p n c h1 f (by rw [hk]; exact hf) (.func 91) #[] lb w
    change Calls Tryz.prog 90 _ _ _ at hS
    refine hS.mono ?_
    rintro e w' ⟨rfl, os, rfl⟩
    refine ⟨rfl, rfl, rfl, rfl, ?_, fun b hb _ => ?_⟩
    · show w.heap.size ≤ (w.heap ++ os).size
      rw [Array.size_append]; omega
    · show (w.heap ++ os)[b]? = _
      rw [Array.getElem?_append_left hb]
  have : n = 0 ∨ n = 1 := by omega
  rcases this with rfl | rfl
  · exact key 1 137 (by simp [Lib.swapperK]) (by kernel_rfl)
  · exact key 2 138 (by simp [Lib.swapperK]) (by kernel_rfl)
end Go.Proofs.Wx

namespace Go.Proofs.Wx
open Go Go.RowKit
/-- Codes. -/
def CdC : Prop := ∀ (w : World) (v : Value) (l : List Itm), EntsAt w v l → l.length ≤ 50 → Calls Tryz.prog 57 #[v] w fun e w' => ∃ s, e = .returned s ∧ NumsAt .u64 30 w' s (codesOf l) ∧ NewS w s ∧ Fr [] w w'
theorem codesOf_length (l : List Itm) : (codesOf l).length ≤ l.length := by
  have := ascOf_length (l.map fun e => e.1.code)
  simpa [codesOf] using this
theorem newS_sep {base : Nat} {w : World} {v s : Value} {xs : List UInt8} (h : OwnB base w v xs) (hs : NewS w s) : ∀ a n c, s = .slice (some a) n c → v.ownBlock ≠ some a.block := by
  intro a n c e e2
  have := (ownB_lt h _ e2).2
  have := hs a n c e
  omega
def bdRel (w1 : World) (base : Nat) (l : List Itm) (k : Nat) (s6 s22 : Value) (wr : World) : Prop :=
  ∃ j : Nat, s22 = .int .i64 (j : Nat) ∧ j + k = (codesOf l).length ∧ OwnB base wr s6 (Lib.leBytes 4 (codesOf l).length ++ ((codesOf l).take j).flatMap (codeB l)) ∧ Fr [] w1 wr
set_option maxRecDepth 1000000 in
set_option maxHeartbeats 12800000 in
theorem spBody {w : World} {vl : Value} {l : List Itm} (hBD : ByD) (hCd : CdC) (h : EntsAt w vl l) (hl : l.length ≤ 50) (hd : ∀ e ∈ l, e.1.dig.length ≤ 200) (hD : OnceC l) :
    Calls Tryz.prog 26 #[vl, .int .u64 1025] w fun e w' => e = .returned (.string ⟨(idxB l).toArray⟩) ∧ Fr [] w w' := by
  unfold CdC at hCd
  have hcd := hCd w vl l h hl
  have hcl := codesOf_length l
  obtain ⟨CL, hCL⟩ : ∃ CL, CL = (codesOf l).length := ⟨_, rfl⟩
  have hCz : CL ≤ 50 := by omega
  have wCL : IntKind.u64.wrap (CL : Int) = (CL : Int) := by simp [IntKind.wrap, IntKind.bits, IntKind.signed]; omega
  have HL := Lib.hid (And.intro h (And.intro hl (And.intro hd hD)))
  have HCL := Lib.hid hCL
  clear hCd h hl hd hD hcl hCL
  go_enter Tryz.func26, Tryz.ntmps26
  go_wp2_with (first
    | go_at_call 57; (with_reducible refine hcd.mono ?_); rintro e w1 ⟨sa, rfl, hNa, hNw, hF1⟩; clear hcd; obtain ⟨ada, ca, rfl, hva⟩ : ∃ ada ca, sa = .slice ada CL ca ∧ (CL ≠ 0 → ∃ ga rest, ada = some ⟨ga, 0, none⟩ ∧ CL ≤ ca ∧ Blk w1 ga ((codesOf l).map (fun n : Nat => Value.int .u64 n) ++ rest) 30 (0, 0)) := (by have := HCL.out; rcases hNa with ⟨h0, a, c, rfl⟩ | ⟨g, c, rest, rfl, hc, hB⟩; (rw [h0] at this; subst this; exact ⟨a, c, rfl, fun h => absurd rfl h⟩); (rw [← this] at hc ⊢; exact ⟨_, c, rfl, fun _ => ⟨g, rest, rfl, hc, hB⟩⟩)); clear hNa hNw
    | go_at_call 58; (with_reducible refine (spLow4 CL (ownB_nil (base := w1.heap.size)) (Nat.le_refl _) (by simp)).mono ?_); rintro e w2 ⟨v2, rfl, hA2⟩)
  go_loopg [6, 22] CL (fun k s6 s22 wr => bdRel w1 w1.heap.size l k s6 s22 wr)
  case atStart => exact ⟨0, rfl, by have := HCL.out; omega, by have := hA2.own; rw [HCL.out] at this; simpa using this, hA2.fr.mono (by simp [Value.ownBlock])⟩
  case round =>
    obtain ⟨j, rfl, hjk, hO, hFr⟩ := hrel
    by_cases hj : j < CL
    · have hz : (j : Int) < (CL : Int) := by omega
      obtain ⟨ga, rest, rfl, hca, hBa⟩ := hva (by omega)
      have hBr := hFr.blk hBa (by simp)
      have hjw : j < (codesOf l).length := by have := HCL.out; omega
      obtain ⟨n, hn⟩ : ∃ n, n = (codesOf l)[j] := ⟨_, rfl⟩
      have hgn : (codesOf l)[j]? = some n := by rw [hn]; simp [hjw]
      have hcell : wr.cell? ⟨ga, j, none⟩ = some (.int .u64 n) := by
        rw [hBr.cell, List.getElem?_append_left (by simpa using hjw), List.getElem?_map, hgn]; rfl
      have hjc : (j : Int) < (ca : Int) := by omega
      have htk : (codesOf l).take (j + 1) = (codesOf l).take j ++ [n] := by rw [List.take_add_one, hgn]; rfl
      obtain ⟨Z, hZ⟩ : ∃ Z, Hid (Z = Lib.leBytes 4 (codesOf l).length ++ ((codesOf l).take j).flatMap (codeB l)) := ⟨_, Lib.hid rfl⟩
      have hZl : Z.length ≤ 4 + 520612 * 50 := by
        rw [hZ.out]
        simp only [List.length_append, Lib.leBytes_length]
        have h2 := codesB_length HL.out.2.1 HL.out.2.2.1 ((codesOf l).take j)
        have h3 : ((codesOf l).take j).length ≤ 50 := by rw [List.length_take]; omega
        omega
      rw [← hZ.out] at hO
      have hZ8 : (Z ++ Lib.leBytes 8 n).length < 100000000 := by simp only [List.length_append, Lib.leBytes_length]; omega
      have HS := Lib.hid (And.intro hjk (And.intro htk hj))
      have hlc : (ofC l n).length ≤ 50 := Nat.le_trans (List.length_filter_le _ _) HL.out.2.1
      have hldg : ∀ e ∈ ofC l n, e.1.dig.length ≤ 200 := fun e he => HL.out.2.2.1 e (List.mem_filter.1 he).1
      have hldi : Distinct (ofC l n) := HL.out.2.2.2.ofC n
      have hE1 := (HL.out.1.fr hF1 (by simp)).fr hFr (by simp)
      have h50 := HL.out.2.1
      clear hjk htk hj hjw hn hgn
      have hge := own_ge hO
      go_wp2_with (first
        | go_at_call 58; (with_reducible refine (spLow8 n hO hFr.size (by omega)).mono ?_); rintro e w5 ⟨v5, rfl, hA5⟩; have hF5 : Fr [] w1 w5 := hFr.trans hA5.fr (fun k hk hl => by have := hge k hk; omega); have hE5 := (HL.out.1.fr hF1 (by simp)).fr hF5 (by simp)
        | go_at_call 59; (with_reducible refine (spCoded hE5 h50 n).mono ?_); rintro e w6 ⟨sv, rfl, hE6, hS6, hF6⟩; clear hE5
        | go_at_call 56; (with_reducible refine (spSorted hBD (hA5.own.fr hF6 (by simp)) (Nat.le_trans hF5.size hF6.size) hE6 hlc hldg hldi (newS_sep hA5.own hS6) hZ8).mono ?_); rintro e w7 ⟨v7, rfl, hA7⟩)
      go_roundg (CL - (j + 1))
      case measure => have := HS.out.1; have := HS.out.2.2; have := HCL.out; omega
      case rel =>
        refine ⟨j + 1, by first | (rw [wrap64_1 (by omega)]; done) | (simp; done), by have := HS.out.2.2; have := HCL.out; omega, ?_, (hF5.trans hF6 (by simp)).trans hA7.fr (fun k hk hl => by have := (ownB_lt hA5.own k (by simpa using hk)).1; omega)⟩
        have := hA7.own
        rw [hZ.out] at this
        rw [HS.out.2.1]
        simpa [List.flatMap_append, codeB, List.append_assoc] using this
    · have hz : ¬ (j : Int) < (CL : Int) := by omega
      have hje : j = (codesOf l).length := by have := HCL.out; omega
      rw [hje, List.take_length] at hO
      obtain ⟨g, c, hu6, hg, hB⟩ := ownB_row hO (by intro e; have := congrArg List.length e; simp [Lib.leBytes_length] at this)
      subst hu6
      obtain ⟨X, hX⟩ : ∃ X, Hid (X = Lib.leBytes 4 (codesOf l).length ++ (codesOf l).flatMap (codeB l)) := ⟨_, Lib.hid rfl⟩
      rw [← hX.out] at hB hO ⊢
      have hrun := run_str (c := c) hB
      clear hje hjk hj
      go_wp2
      go_ret
      unfold idxB
      rw [← hX.out]
      exact ⟨rfl, hF1.trans hFr (by simp)⟩
theorem idxB_len {l : List Itm} (hl : l.length ≤ 50) (hd : ∀ e ∈ l, e.1.dig.length ≤ 200) : (idxB l).length ≤ 26030604 := by
  unfold idxB
  simp only [List.length_append, Lib.leBytes_length]
  have h2 := codesB_length hl hd (codesOf l)
  have h3 := codesOf_length l
  have : 520612 * (codesOf l).length ≤ 520612 * 50 := Nat.mul_le_mul_left _ (by omega)
  omega
set_option maxRecDepth 1000000 in
set_option maxHeartbeats 12800000 in
theorem spIndexBytes {w : World} {vl : Value} {l : List Itm} (hBD : ByD) (hCd : CdC) (h : EntsAt w vl l) (hl : l.length ≤ 50) (hd : ∀ e ∈ l, e.1.dig.length ≤ 200) (hD : OnceC l) :
    Calls Tryz.prog 12 #[vl, .int .u64 1025] w fun e w' => e = .returned (.string ⟨([129, 8] ++ idxB l).toArray⟩) ∧ Fr [] w w' := by
  have h1 := fun w => spVarint (w := w) (n := 1025) (by omega)
  have h2 := fun (w' : World) (hF : Fr [] w w') => spBody hBD hCd (h.fr hF (by simp)) hl hd hD
  have hil := idxB_len hl hd
  have hil2 : ¬ (9223372036854775807 < 2 + (idxB l).length) := by omega
  have hu : Lib.uvarint 1025 = [129, 8] := by simp [Lib.uvarint]
  rw [hu] at h1
  clear hu h hl hd hD
  go_enter Tryz.func12, Tryz.ntmps12
  go_wp2_with (first
    | go_at_call 25; refine (h1 _).mono ?_; rintro e w1 ⟨g1, c1, rfl, hg1, hB1, hF1⟩; (try go_simp); refine hK _ _ (Fr.ext hF1) ?_; clear h1
    | (with_reducible refine wEI ?_); (refine wpE_str _ rfl rfl rfl hB1 rfl rfl ?_); (try go_simp); clear hB1
    | go_at_call 26; refine (h2 _ (Fr.trans (S := []) (Fr.drew Fr.refl) hF1 (by simp))).mono ?_; rintro e w2 ⟨rfl, hF2⟩; (try go_simp); refine hK _ _ (Fr.ext hF2) ?_; clear h2
    | (refine wre 1 [(0,.free),(3,.free),(4,.free),(1,.grow),(2,.look),(5,.grow),(6,.free),(7,.free)] ?_)
    | (with_reducible refine wEI ?_; (first | (refine wEN ?_; skip) | (refine wEF rfl (fun K hK => ?_); go_simp) | (refine wEL rfl rfl (fun K hK => ?_); go_simp) | (refine wER rfl (fun K hK => ?_); go_simp) | (refine wEM rfl (fun K hK => ?_); go_simp; try refine ⟨_, _, ⟨rfl, rfl⟩, ?_⟩) | (refine wEG rfl (fun K hK => ?_); go_simp) | (refine wEA rfl (fun K hK => ?_); go_simp))))
  go_ret
  refine ⟨by simp, ?_⟩
  exact (Fr.trans (S := []) (Fr.drew Fr.refl) hF1 (by simp)).trans hF2 (by simp)
end Go.Proofs.Wx

namespace Go.Proofs.Wx
open Go Go.RowKit Go.Sort
theorem cds_slice : Tryz.prog.underlying 115 = some (.slice 30) := by kernel_rfl
theorem cds_info : (Tryz.prog.info? 30).map (fun i => (i.zero, i.size, i.bytes)) = some (some (.int .u64 0), 1, 8) := by kernel_rfl
theorem own_form {base n : Nat} {w : World} {T : TypeId} {v : Value} {xs : List Value} (h : w.ownsRow base T 1 v (n + 1) xs) : ∃ g c, v = .slice (some ⟨g, 0, none⟩) (n + 1) c := by
  rcases h.2 with ⟨_, h0⟩ | ⟨g, cap, cur, rfl, _⟩
  · omega
  · exact ⟨g, cap, rfl⟩
def coRel (w : World) (P M : Nat) (l : List Itm) (k : Nat) (s10 : Value) (wr : World) : Prop :=
  ∃ (i : Nat) (ks : List Nat) (s : Value), s10 = .int .i64 (i : Nat) ∧ i + k = l.length ∧ wr.ownsRow (M + 1) 30 1 s ks.length (ks.map fun n : Nat => Value.int .u64 n) ∧ ks.Nodup ∧ (∀ x, x ∈ ks ↔ x ∈ (l.take i).map fun e => e.1.code) ∧ ks.length ≤ i ∧ Mp wr M .u64 (ks.map fun n => (n, Value.bool true)) ∧ Blk wr P [s] 115 (0, 0) ∧ Fr [] w wr
set_option maxRecDepth 1000000 in
set_option maxHeartbeats 12800000 in
theorem spCodes {w : World} {v : Value} {l : List Itm} (h : EntsAt w v l) (hl : l.length ≤ 50) : Calls Tryz.prog 57 #[v] w fun e w' => ∃ s, e = .returned s ∧ NumsAt .u64 30 w' s (codesOf l) ∧ NewS w s ∧ Fr [] w w' := by
  obtain ⟨ad, c, rfl, hv⟩ := h.form
  have HE := Lib.hid (And.intro h hl)
  have hlz : (l.length : Int) ≤ 50 := by omega
  clear h hl
  go_enter Tryz.func57, Tryz.ntmps57
  go_wp2
  go_loopg [10] l.length (fun k s10 wr => coRel w w.heap.size (w.heap.size + 1) l k s10 wr)
  case atStart =>
    refine ⟨0, [], .slice none 0 0, rfl, by omega, ⟨by simp, .inl ⟨rfl, rfl⟩⟩, by simp, by simp, by simp, ?_, ?_, Fr.alloc (Fr.alloc Fr.refl)⟩
    · have := Mp.new (w := w.alloc (.cells #[Value.slice none 0 0] 115)) (q := .u64)
      simpa using this
    · exact Blk.alloc (Blk.newAt rfl)
  case round =>
    obtain ⟨i, ks, s, rfl, hik, hO, hnd, hmem, hkl, hMp, hP, hFr⟩ := hrel
    have hks : ks.length ≤ 50 := by omega
    by_cases hi : i < l.length
    · have hz : (i : Int) < (l.length : Int) := by omega
      obtain ⟨g, rfl, hgl, hlc⟩ := hv (by intro e; rw [e] at hi; simp at hi)
      obtain ⟨x, hx⟩ : ∃ x, x = l[i] := ⟨_, rfl⟩
      have hgc : l[i]? = some x := by rw [hx]; simp [hi]
      have htk : l.take (i + 1) = l.take i ++ [x] := by rw [List.take_add_one, hgc]; rfl
      have hEr := HE.out.1.fr hFr (by simp)
      obtain ⟨x1, x2, x3, x4, x5⟩ := hEr.cells hgc
      have hi2 : (i : Int) ≤ (c : Int) := by omega
      have hF1 : Fr [] wr (wr.alloc (.cells (enL x).toArray tEN)) := Fr.alloc Fr.refl
      have hM2 := hMp.fr hF1 (by simp)
      have hlk := hM2.look (P := Tryz.prog) (T := 171) (K := 30) (E := 4) (by kernel_rfl) (by kernel_rfl) bool_zero x.1.code false
      rw [look_map (f := fun _ => Value.bool true)] at hlk
      unfold enL at hlk hM2 hF1
      have h1s := hFr.size
      have hMl := hMp.lt
      have hPc := hP.cells
      have hPs : w.heap.size ∉ s.ownBlock.toList := fun hm => by have := own_ge hO _ hm; omega
      have HQ := Lib.hid (And.intro hik (And.intro htk (And.intro hmem (And.intro hnd hkl))))
      have HI := Lib.hid hi
      clear hik hgc htk hmem hnd hx hEr hi hkl
      by_cases hn : x.1.code ∈ ks
      · simp only [if_pos hn, Option.getD_some, Bool.false_eq_true, if_false] at hlk
        have HN := Lib.hid hn
        clear hn
        go_wp2
        go_roundg (l.length - (i + 1))
        case measure => have := HQ.out.1; omega
        case rel =>
          obtain ⟨hik, htk, hmem, hnd, hkl⟩ := HQ.out
          refine ⟨i + 1, ks, s, by first | (rw [wrap64_1 (by have := HE.out.2; omega)]; done) | (simp; done), by omega, own_fr hO hF1 (by simp), hnd, ?_, by omega, hMp.fr hF1 (by simp), hF1.blk hP (by simp), hFr.trans hF1 (by simp)⟩
          intro y
          rw [htk, List.map_append, List.mem_append, ← hmem]
          simp
          intro e; rw [e]; exact HN.out
      · simp only [if_neg hn, Option.getD_none, Bool.false_eq_true, if_false] at hlk
        have HN := Lib.hid hn
        clear hn
        go_wp2_with (first
          | ((with_reducible refine list_mapUpdate (fun K hK => ?_));  refine putStep _ _ _ 171 rfl (b := w.heap.size + 1) (n := x.1.code) (q := .u64) (x := .bool true) rfl rfl rfl hM2 (Kt := 30) (E := 4) (by kernel_rfl) (by kernel_rfl) (fun w5 hF5 hP5 => ?_); clear hlk; have hT5 := hF5.blk (b := wr.heap.size) (cs := [.int .u64 x.1.v, .int .u64 x.1.codec, .int .u64 x.1.code, .string ⟨x.1.dig.toArray⟩, .int .u64 x.2]) (T := tEN) (fr := (0, 0)) (by (exact Blk.conv (by repeat (first | (with_reducible assumption) | (with_reducible apply Blk.drew) | (with_reducible apply Blk.drewN) | (with_reducible apply Blk.set) | (with_reducible apply Blk.setRow) | (with_reducible exact Blk.new) | (exact Blk.newAt rfl) | (with_reducible apply Blk.setNe (by (first | (with_reducible assumption) | (simp; omega) | (simp [*]; done)))) | (with_reducible apply Blk.setRowNe (by (first | (with_reducible assumption) | (simp; omega) | (simp [*]; done)))) | (with_reducible apply Blk.alloc))) (by first | rfl | (simp; done) | (simp; omega)))) (by simp; omega); have hPb5 := hF5.blk (hF1.blk hP (by simp)) (by simp); have tc5 := hT5.cells; have pc5 := hPb5.cells; have hO5' := own_fr (S := [w.heap.size + 1]) (own_fr (S := []) hO hF1 (by simp)) hF5 (by intro k hk; simp at hk; subst hk; exact .inl (Nat.lt_succ_self _)))
          | ((with_reducible refine list_bi .append (fun K hK => ?_));  refine app1v _ _ 115 30 rfl cds_slice cds_info rfl (by omega) (w.heap.size + 1 + 1) s ks.length (ks.map fun n : Nat => Value.int .u64 n) rfl (own_fr (S := []) hO5' (by exact frP) (by simp)) w5.heap.size 1 rfl (.int .u64 x.1.code) rfl (World.cell?_alloc_new _ _ _ 0) (by omega) (by have := hF5.size; simp at this ⊢; omega) (fun v6 w6 hO6 hF6 => ?_); obtain ⟨g6, c6, rfl⟩ := own_form hO6; have hF56 : Fr s.ownBlock.toList w5 w6 := Fr.trans (S := s.ownBlock.toList) (S' := s.ownBlock.toList) (by exact frP) hF6 (fun k hk _ => hk); have hPb6 := hF56.blk hPb5 hPs; have pc6 := hPb6.cells; have pf6 := hPb6.free; clear tc5 pc5))
        go_roundg (l.length - (i + 1))
        case measure => have := HQ.out.1; omega
        case rel =>
          obtain ⟨hik, htk, hmem, hnd, hkl⟩ := HQ.out
          have hM6 : Mp w5 (w.heap.size + 1) .u64 ((ks ++ [x.1.code]).map fun n => (n, Value.bool true)) := by
            rcases hP5 with ⟨_, h⟩ | ⟨j, v0, _, h, _⟩
            · rw [List.map_append]; exact h
            · rw [look_map (f := fun _ => Value.bool true), if_neg HN.out] at h; cases h
          have hg6 := own_ge hO6 g6 (by simp [Value.ownBlock])
          have hFS : Fr [w.heap.size] w6 (w6.setCell ⟨w.heap.size, 0, none⟩ (.slice (some ⟨g6, 0, none⟩) (ks.length + 1) c6)) := Fr.setCell (.inl (by simp)) Fr.refl
          have hF15 : Fr [w.heap.size + 1] wr w5 := Fr.trans (S := [w.heap.size + 1]) (hF1.mono (by simp)) hF5 (fun k hk _ => hk)
          refine ⟨i + 1, ks ++ [x.1.code], _, by first | (rw [wrap64_1 (by have := HE.out.2; have := HI.out; omega)]; done) | (simp; done), by have := HI.out; omega, own_fr (S := [w.heap.size]) (by rw [List.length_append, List.map_append]; exact hO6) hFS (by intro k hk; simp at hk; subst hk; exact .inl (by omega)), ?_, ?_, by simp; omega, (hM6.fr hF56 (fun hk => by have := own_ge hO _ hk; omega)).fr hFS (by simp), hPb6.set, ((hFr.trans hF15 (fun k hk hl => by simp at hk; omega)).trans hF56 (fun k hk hl => by have := own_ge hO k hk; omega)).trans hFS (fun k hk hl => by simp at hk; omega)⟩
          · rw [List.nodup_append]
            exact ⟨hnd, by simp, fun a ha b hb => by simp at hb; subst hb; exact fun e => HN.out (e ▸ ha)⟩
          · intro y
            rw [htk, List.map_append, List.mem_append, List.mem_append, ← hmem]
            simp
    · have hz : ¬ (i : Int) < (l.length : Int) := by omega
      have hie : i = l.length := by omega
      have hwd : ∀ zs : List Nat, zs.Perm ks → zs.Pairwise (· ≤ ·) → zs = codesOf l := by
        intro zs hp hs
        refine ascOf_unique (asc_of_nodup hs (hp.nodup_iff.2 hnd)) fun y => ?_
        rw [hp.mem_iff, hmem, hie, List.take_length]
      clear hmem hnd hie hik hi hMp hkl
      have hPc := hP.cells
      have HP := Lib.hid hP
      rcases own_nums hO with ⟨rfl, rfl⟩ | ⟨g, cp, rest, rfl, hbg, hcp, hB⟩
      · have hE := hwd [] (by simp) (by simp)
        have HW := Lib.hid hE
        clear hE hwd
        go_wp2_with (first
          | go_at_call 90; refine (sortCd1 (p := none) (n := 0) (c := 0) (by omega)).mono ?_; rintro e w7 ⟨rfl, hF7⟩; have pc7 := (hF7.blk HP.out (by simp)).cells)
        go_ret
        exact ⟨_, rfl, .inl ⟨HW.out.symm, _, _, rfl⟩, (fun a n c e => by cases e), hFr.trans hF7 (by simp)⟩
      · have hPg : w.heap.size ≠ g := by omega
        obtain ⟨KL, hKL⟩ : ∃ KL, KL = ks.length := ⟨_, rfl⟩
        have HK := Lib.hid hKL
        have hsort : Calls Tryz.prog 90 #[.iface 115 (.slice (some ⟨g, 0, none⟩) KL cp), .func (.func 91) #[] #[.pointer (some ⟨w.heap.size, 0, none⟩)]] wr fun e w' => e = .returned (.tuple #[]) ∧
            ∃ zs : List Nat, zs.Perm ks ∧ zs.Pairwise (· ≤ ·) ∧ Blk w' g (zs.map (fun n : Nat => Value.int .u64 n) ++ rest) 30 (0, 0) ∧ Fr [g] wr w' := by
          rw [hKL]
          by_cases h2 : 2 ≤ ks.length
          · exact sortCd hP hB hPg h2 hks
          · refine (sortCd1 (by omega)).mono ?_
            rintro e w' ⟨rfl, hF⟩
            refine ⟨rfl, ks, .refl _, ?_, hF.blk hB (by simp), hF.mono (by simp)⟩
            match ks, h2 with
            | [], _ => exact .nil
            | [a], _ => exact List.pairwise_singleton _ _
            | a :: b :: r, h2 => exact absurd (by simp) h2
        rw [← hKL] at hPc
        clear hKL hP
        go_wp2_with (first
          | go_at_call 90; refine hsort.mono ?_; rintro e w7 ⟨rfl, zs, hp, hs, hB7, hF7⟩; have pc7 := (hF7.blk HP.out (by simpa using hPg)).cells; rw [← HK.out] at pc7)
        go_ret
        refine ⟨_, rfl, .inr ⟨g, cp, rest, ?_, ?_, by rw [← hwd zs hp hs]; exact hB7⟩, (fun a n c e => ?_), hFr.trans hF7 (by intro k hk hl; simp at hk; omega)⟩
        · show Value.slice (some ⟨g, 0, none⟩) KL cp = _
          rw [← hwd zs hp hs, hp.length_eq, ← HK.out]
        · rw [← hwd zs hp hs, hp.length_eq]; exact hcp
        · have e2 : Value.slice (some ⟨g, 0, none⟩) KL cp = .slice (some a) n c := e
          cases e2; show w.heap.size ≤ g; omega
theorem cdC : CdC := fun _ _ _ h hl => spCodes h hl
end Go.Proofs.Wx

namespace Go.Proofs.Wx
open Go Go.RowKit Go.Sort
theorem bitLenAux_eq : ∀ (f x : Nat), x < 2 ^ f → Lib.bitLenAux f x = bitsLen x
  | 0, x, h => by
    have : x = 0 := by simp at h; exact h
    subst this; rfl
  | f + 1, x, h => by
    unfold Lib.bitLenAux
    by_cases h0 : x = 0
    · subst h0; rfl
    · rw [if_neg h0, bitLenAux_eq f (x / 2) (by rw [Nat.pow_succ] at h; omega)]
      unfold bitsLen
      rw [if_neg h0]
      by_cases h1 : x / 2 = 0
      · have : x = 1 := by omega
        subst this; rfl
      · rw [if_neg h1]
        conv => rhs; rw [Nat.log2_def, if_pos (show x ≥ 2 by omega)]
        omega
theorem lenC : LenC := fun L w hL => by
  have h := Tryz.bits_Len (L : Int) w (by omega) (by omega)
  refine h.mono fun e w' ⟨h1, h2⟩ => ⟨?_, h2⟩
  rw [h1, Int.toNat_natCast]
  have := bitLenAux_eq 64 L (by omega)
  unfold Lib.bitLen
  rw [this]
theorem wrap_file (c : CarM) : wrapB c = fileB 0 0 51 c.bytes.length (51 + c.bytes.length) c.bytes ([129, 8] ++ idxB c.ents) := by
  simp [wrapB, fileB, headB, hdrB]
set_option maxRecDepth 1000000 in
set_option maxHeartbeats 12800000 in
theorem spLaw {ea aa : Addr} {w : World} {ra ba : Option Addr} {rc bc : Nat} {c : CarM} (h : CarAt w ra ba c) (hG : Gl ea w) (hA : w.cell? ⟨0, 0, none⟩ = some (.iface 193 (.pointer (some aa)))) :
    Calls Tryz.prog 3 #[carA ra ba rc bc c] w fun e w' => e = .returned (.bool true) ∧ Fr [] w w' := by
  have hgs := hG.size
  have hfit := fun (w' : World) (hF : Fr [] w w') => zzFits4 (rc := rc) (bc := bc) (h.ext (Fr.ext hF))
  have hgood := fun (w' : World) (hF : Fr [] w w') => spGood (rc := rc) (bc := bc) (h.ext (Fr.ext hF))
  have hgen := fun (w' : World) (hF : Fr [] w w') (hok : c.Ok) => spGenerated (rc := rc) (bc := bc) (h.ext (Fr.ext hF)) hok
  have hcar := fun (w' : World) (hF : Fr [] w w') (hok : c.Ok) => spCar1 (rc := rc) (bc := bc) (h.ext (Fr.ext hF)) hok
  have hone := fun (w' : World) (hF : Fr [] w w') => spWrOne (aa := aa) (hG.fr hF (by simp)) (by rw [World.cell?_of_block (w := w) (hF.block 0 (by omega) (by simp))]; exact hA) lenC
  have hwr := fun (w' : World) (hF : Fr [] w w') (hok : c.Ok) (hon : OnceC c.ents) => wrWrap hok hon (hG.fr hF (by simp)) lenC
  have hnh := fun (w' : World) (hok : c.Ok) => spNewHead (n := c.bytes.length) (by have := hok.length; omega) w'
  have hix := fun (w' : World) (v : Value) (hok : c.Ok) (hon : OnceC c.ents) (hE : EntsAt w' v c.ents) => spIndexBytes byD cdC hE hok.ents.2 (fun e he => (hok.ents.1 e he).1.len) hon
  have hfb := fun (w' : World) (hok : c.Ok) => spFile (w := w') (a := 0) (b := 0) (c := 51) (d := c.bytes.length) (e := 51 + c.bytes.length) (data := c.bytes) (index := [129, 8] ++ idxB c.ents) (by omega) (by omega) (by have := hok.length; omega) (by have := idxB_len hok.ents.2 (fun e he => (hok.ents.1 e he).1.len); simp; omega) (by omega)
  rw [← wrap_file] at hfb
  have hbn : c.Ok → IntKind.u64.wrap (c.bytes.length : Int) = (c.bytes.length : Int) := fun hok => by have := hok.length; rw [IntKind.wrap_u64]; omega
  have hcz : c.Ok → (c.bytes.length : Int) ≤ 1700000 := fun hok => by have := hok.length; omega
  obtain ⟨xs, hxs⟩ : ∃ xs, Hid (xs = c.bytes) := ⟨_, rfl⟩
  obtain ⟨ws, hws⟩ : ∃ ws, Hid (ws = wrapB c) := ⟨_, rfl⟩
  obtain ⟨ys, hys⟩ : ∃ ys, Hid (ys = [129, 8] ++ idxB c.ents) := ⟨_, Lib.hid rfl⟩
  rw [← hxs.out] at hcar hwr hnh hfb hbn hcz
  rw [← hws.out] at hwr hfb
  rw [← hys.out] at hix hfb
  have HH := Lib.hid (And.intro hfit (And.intro hgood (And.intro hgen (And.intro hcar (And.intro hone (And.intro hwr (And.intro hnh (And.intro hix (And.intro hfb (And.intro hbn hcz))))))))))
  clear hfit hgood hgen hcar hone hwr hnh hix hfb hbn hcz
  go_enter Tryz.func3, Tryz.ntmps3
  go_wp2_with (first
    | go_at_call 4; refine (HH.out.1 _ (by exact frP)).mono ?_; rintro e w1 ⟨⟨b1, rfl, hq1⟩, hF1⟩; have hF01 : Fr [] w w1 := Fr.trans (S := []) (S' := []) (Fr.alloc Fr.refl) hF1 (by simp); have hT1 := hF1.blk (b := w.heap.size) (cs := [.slice ra c.roots.length rc, .slice ba c.blocks.length bc]) (T := 25) (fr := (0, 0)) Blk.new (by simp); have tc1 := hT1.cells; clear hq1 hF1
    | go_at_call 5; refine (HH.out.2.1 _ hF01).mono ?_; rintro e w2 ⟨⟨b2, rfl, hq2⟩, hF2⟩; have hF02 := hF01.trans hF2 (by simp); have hT2 := hF2.blk hT1 (by simp); have tc2 := hT2.cells; clear tc1 hF2 hT1
    | go_at_call 6; have hok : c.Ok := hq2 (by simpa using (show (!b2) = false by assumption)); have HO := Lib.hid hok; clear hok hq2; refine (HH.out.2.2.1 _ hF02 HO.out).mono ?_; rintro e w3 ⟨v3, rfl, hE3, hF3⟩; have hF03 := hF02.trans hF3 (by simp); have hT3 := hF3.blk hT2 (by simp); have tc3 := hT3.cells; clear tc2 hF3 hT2
    | go_at_call 7; refine (spOnce hE3 HO.out.ents.2).mono ?_; rintro e w4 ⟨⟨b4, rfl, hq4⟩, hF4⟩; have hF04 := hF03.trans hF4 (by simp); have hT4 := hF4.blk hT3 (by simp); have tc4 := hT4.cells; have hE4 := hE3.fr hF4 (by simp); clear tc3 hF4 hT3 hE3
    | go_at_call 8; have hon : OnceC c.ents := hq4 (by simpa using (show (!b4) = false by assumption)); have HN := Lib.hid hon; clear hon hq4; refine (HH.out.2.2.2.1 _ hF04 HO.out).mono ?_; rintro e w5 ⟨rfl, hF5⟩; have hF05 := hF04.trans hF5 (by simp); have hE5 := hE4.fr hF5 (by simp); clear tc4 hF5 hT4 hE4
    | go_at_call 9; refine (HH.out.2.2.2.2.2.1 _ hF05 HO.out HN.out).mono ?_; rintro e w6 ⟨rfl, hF6⟩; have hF06 := hF05.trans hF6 (by simp); have hE6 := hE5.fr hF6 (by simp); have hwx := HH.out.2.2.2.2.2.2.2.2.2.1 HO.out; clear hF6 hE5
    | go_at_call 11; refine (HH.out.2.2.2.2.2.2.1 _ HO.out).mono ?_; rintro e w7 ⟨rfl, hF7⟩; have hF07 := hF06.trans hF7 (by simp); have hE7 := hE6.fr hF7 (by simp); clear hF7 hE6
    | go_at_call 12; refine (HH.out.2.2.2.2.2.2.2.1 _ _ HO.out HN.out hE7).mono ?_; rintro e w8 ⟨rfl, hF8⟩; have hF08 := hF07.trans hF8 (by simp); clear hF8 hE7
    | go_at_call 10; refine (HH.out.2.2.2.2.2.2.2.2.1 _ HO.out).mono ?_; rintro e w9 ⟨rfl, hF9⟩; have hF09 := hF08.trans hF9 (by simp); clear hF9
    | go_at_call 13; refine (HH.out.2.2.2.2.1 _ hF09).mono ?_; rintro e wa ⟨rfl, hFa⟩)
  · go_ret
    exact ⟨rfl, hF01⟩
  · go_ret
    exact ⟨rfl, hF02⟩
  · go_ret
    exact ⟨rfl, hF04⟩
  · go_ret
    exact ⟨rfl, hF09.trans hFa (by simp)⟩
end Go.Proofs.Wx
