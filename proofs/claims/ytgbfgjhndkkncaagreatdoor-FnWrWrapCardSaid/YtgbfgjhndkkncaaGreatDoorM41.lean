import Derived.Test.YtgbfgjhndkkncaaGreatDoorM6
import Derived.Test.YtgbfgjhndkkncaaGreatDoorM13
import Derived.Test.YtgbfgjhndkkncaaGreatDoorM31
import Derived.Test.YtgbfgjhndkkncaaGreatDoorM39
import Derived.Test.YtgbfgjhndkkncaaGreatDoorM40
import Derived.Test.YtgbfgjhndkkncaaGreatDoorProg
import Derived.Shelf.GgSortMore.Stable
import Derived.Shelf.GgSortFunc.SmallK
set_option maxRecDepth 100000
set_option maxHeartbeats 1000000
set_option linter.unusedVariables false
set_option linter.unusedSimpArgs false
set_option linter.deprecated false
set_option linter.all false
set_option linter.unusedSectionVars false
namespace Go
theorem wpET_look3 {P : Program} {B : Option Nat} {ops : Array Oper} {Q : Exit → Act → World → Prop} {t : ET} {i : Nat} {o : Oper} {a : Act} {w : World} {v : Value} (ho : ops[i]? = some o) (hg : o.guard = none)
    (h1 : ∀ w2, World.ExtO B w w2 → (execOp a.eval o).run P w2 = .ok (.value v) w2) (h2 : ∀ K : Act → World → Prop, (∀ a w, wpET P B ops Q t a w → K a w) → K (a.put o.dst v) w) : wpET P B ops Q (.one i .look t) a w :=
  wpET_look2 ho hg h1 (h2 _ (fun _ _ h => h))
end Go
namespace Go.Proofs.Wx
open Go Go.RowKit Go.Sort
/-- By digests, then by offsets. -/
def ltI (x y : Itm) : Bool := if x.1.dig = y.1.dig then decide (x.2 < y.2) else decide (x.1.dig < y.1.dig)
theorem ExtO.cellB {B : Nat} {w w2 : World} {b o : Nat} {v : Value} (h : World.ExtO (some B) w w2) (hB : B ≤ w.heap.size) (hb : b < B) (hc : w.cell? ⟨b, o, none⟩ = some v) : w2.cell? ⟨b, o, none⟩ = some v := by
  rw [World.cell?_of_block (w := w) ((h hB).2 b hb)]; exact hc
theorem ExtO.via {W w1 w2 : World} (h1 : Fr [] W w1) (h2 : Fr [] W w2) (hs : w1.heap.size ≤ w2.heap.size) : World.ExtO (some W.heap.size) w1 w2 := fun _ => ⟨hs, fun b hl => by rw [h2.block b hl (by simp), h1.block b hl (by simp)]⟩
theorem bdLess {W : World} {g c P n : Nat} {x y : Itm} (hs : W.cell? ⟨P, 0, none⟩ = some (.slice (some ⟨g, 0, none⟩) n c)) (hP : P < W.heap.size) (hg : g < W.heap.size) (i j : Nat) (hi : i < n) (hj : j < n)
    (hx : ∀ k u, (enL x)[k]? = some u → W.cell? ⟨g, i * 5 + k, none⟩ = some u) (hy : ∀ k u, (enL y)[k]? = some u → W.cell? ⟨g, j * 5 + k, none⟩ = some u) :
    Calls Tryz.prog 115 #[.int .i64 i, .int .i64 j, .pointer (some ⟨P, 0, none⟩)] W fun e w' => e = .returned (.bool (ltI x y)) ∧ Fr [] W w' := by
  have hi' : (i : Int) < (n : Int) := by omega
  have hj' : (j : Int) < (n : Int) := by omega
  obtain ⟨dx, hdx⟩ : ∃ dx : ByteArray, Hid (dx = ⟨x.1.dig.toArray⟩) := ⟨_, Lib.hid rfl⟩
  obtain ⟨dy, hdy⟩ : ∃ dy : ByteArray, Hid (dy = ⟨y.1.dig.toArray⟩) := ⟨_, Lib.hid rfl⟩
  have x0 : W.cell? ⟨g, i * 5, none⟩ = _ := hx 0 _ rfl
  have x1 := hx 1 _ rfl
  have x2 := hx 2 _ rfl
  have x3 := hx 3 _ rfl
  have x4 := hx 4 _ rfl
  have y0 : W.cell? ⟨g, j * 5, none⟩ = _ := hy 0 _ rfl
  have y1 := hy 1 _ rfl
  have y2 := hy 2 _ rfl
  have y3 := hy 3 _ rfl
  have y4 := hy 4 _ rfl
  rw [← hdx.out] at x3
  rw [← hdy.out] at y3
  have LS : ∀ w2, World.ExtO (some W.heap.size) W.drew w2 → w2.cell? ⟨P, 0, none⟩ = some (.slice (some ⟨g, 0, none⟩) n c) := fun w2 he => ExtO.cellB he (Nat.le_refl _) hP hs
  have LX : ∀ w2, World.ExtO (some W.heap.size) W.drew w2 → w2.cell? ⟨g, i * 5, none⟩ = some (.int .u64 x.1.v) ∧ w2.cell? ⟨g, i * 5 + 1, none⟩ = some (.int .u64 x.1.codec) ∧ w2.cell? ⟨g, i * 5 + 2, none⟩ = some (.int .u64 x.1.code) ∧ w2.cell? ⟨g, i * 5 + 3, none⟩ = some (.string dx) ∧ w2.cell? ⟨g, i * 5 + 4, none⟩ = some (.int .u64 x.2) :=
    fun w2 he => ⟨ExtO.cellB he (Nat.le_refl _) hg x0, ExtO.cellB he (Nat.le_refl _) hg x1, ExtO.cellB he (Nat.le_refl _) hg x2, ExtO.cellB he (Nat.le_refl _) hg x3, ExtO.cellB he (Nat.le_refl _) hg x4⟩
  have LY : ∀ w2, World.ExtO (some W.heap.size) W.drew w2 → w2.cell? ⟨g, j * 5, none⟩ = some (.int .u64 y.1.v) ∧ w2.cell? ⟨g, j * 5 + 1, none⟩ = some (.int .u64 y.1.codec) ∧ w2.cell? ⟨g, j * 5 + 2, none⟩ = some (.int .u64 y.1.code) ∧ w2.cell? ⟨g, j * 5 + 3, none⟩ = some (.string dy) ∧ w2.cell? ⟨g, j * 5 + 4, none⟩ = some (.int .u64 y.2) :=
    fun w2 he => ⟨ExtO.cellB he (Nat.le_refl _) hg y0, ExtO.cellB he (Nat.le_refl _) hg y1, ExtO.cellB he (Nat.le_refl _) hg y2, ExtO.cellB he (Nat.le_refl _) hg y3, ExtO.cellB he (Nat.le_refl _) hg y4⟩
  have HS := Lib.hid LS
  have HX := Lib.hid LX
  have HY := Lib.hid LY
  clear hx hy hs x0 x1 x2 x3 x4 y0 y1 y2 y3 y4 hi hj LS LX LY
  have KE : Hid (((!dx.toList == dy.toList) = true → Op.bytesLess dx.toList dy.toList = ltI x y) ∧ ((!dx.toList == dy.toList) = false → decide (x.2 < y.2) = ltI x y)) := by
    refine Lib.hid ?_
    have e1 : dx.toList = x.1.dig := by rw [hdx.out, Lib.toList_data]
    have e2 : dy.toList = y.1.dig := by rw [hdy.out, Lib.toList_data]
    rw [e1, e2]
    unfold ltI
    by_cases h : x.1.dig = y.1.dig
    · simp [h]
    · simp [h, bytesLess_eq]
  go_enter Tryz.func115, Tryz.ntmps115
  go_wp2_with fail
  refine wp_region_treeB (some W.heap.size) mixed (fun i => if i = 0 ∨ i = 3 ∨ i = 4 ∨ i = 7 then .look else if i = 1 ∨ i = 2 ∨ i = 5 ∨ i = 6 then .free else if i = 8 ∨ i = 9 then .make else .grow)
    (.one 0 .look (.one 1 .free (.one 2 .free (.one 3 .look (.one 4 .look (.one 5 .free (.one 6 .free (.one 7 .look (.two 8 .make (.one 9 .make (.one 10 .grow (.one 11 .grow .nil))) 9 .make (.one 8 .make (.one 10 .grow (.one 11 .grow .nil)))))))))))) (by kernel_rfl) ?_
  refine wpET_look3 (i := 0) (v := .slice (some ⟨g, 0, none⟩) n c) rfl rfl (fun w2 he => by have q := HS.out w2 he; go_simp; done) (fun K hK => ?_); go_simp
  refine hK _ _ ?_; clear hK K
  refine wpET_free rfl rfl (fun K hK => ?_); go_simp; try refine ⟨_, ⟨fun _ => rfl, ?_⟩⟩
  refine hK _ _ ?_; clear hK K
  refine wpET_free rfl rfl (fun K hK => ?_); go_simp; try refine ⟨_, ⟨fun _ => rfl, ?_⟩⟩
  refine hK _ _ ?_; clear hK K
  refine wpET_look3 (i := 3) (v := .agg #[.int .u64 x.1.v, .int .u64 x.1.codec, .int .u64 x.1.code, .string dx, .int .u64 x.2]) rfl rfl (fun w2 he => by obtain ⟨q0, q1, q2, q3, q4⟩ := HX.out w2 he; go_simp; done) (fun K hK => ?_); go_simp
  refine hK _ _ ?_; clear hK K
  refine wpET_look3 (i := 4) (v := .slice (some ⟨g, 0, none⟩) n c) rfl rfl (fun w2 he => by have q := HS.out w2 he; go_simp; done) (fun K hK => ?_); go_simp
  refine hK _ _ ?_; clear hK K
  refine wpET_free rfl rfl (fun K hK => ?_); go_simp; try refine ⟨_, ⟨fun _ => rfl, ?_⟩⟩
  refine hK _ _ ?_; clear hK K
  refine wpET_free rfl rfl (fun K hK => ?_); go_simp; try refine ⟨_, ⟨fun _ => rfl, ?_⟩⟩
  refine hK _ _ ?_; clear hK K
  refine wpET_look3 (i := 7) (v := .agg #[.int .u64 y.1.v, .int .u64 y.1.codec, .int .u64 y.1.code, .string dy, .int .u64 y.2]) rfl rfl (fun w2 he => by obtain ⟨q0, q1, q2, q3, q4⟩ := HY.out w2 he; go_simp; done) (fun K hK => ?_); go_simp
  refine hK _ _ ?_; clear hK K
  refine wpET_two ?_ ?_
  · refine eOp_make rfl rfl (fun K hK => ?_); go_simp; refine ⟨_, _, ⟨rfl, rfl⟩, ?_⟩
    refine hK _ _ ?_; clear hK K
    refine wpET_make rfl rfl (fun K hK => ?_); go_simp; refine ⟨_, _, ⟨rfl, rfl⟩, ?_⟩
    refine hK _ _ ?_; clear hK K
    refine wpET_grow rfl rfl (fun K hK => ?_); go_simp; refine hK _ _ (ExtO.via (W := W) (by exact frP) (by exact frP) (by simp)) ?_; clear hK K
    refine wpET_grow rfl rfl (fun K hK => ?_); go_simp; refine hK _ _ (ExtO.via (W := W) (by exact frP) (by exact frP) (by simp)) ?_; clear hK K
    refine wpET_nil ?_
    go_wp2
    · rename_i hne; go_ret; exact ⟨by rw [← KE.out.1 hne]; rfl, by exact frP⟩
    · rename_i hne; go_ret; exact ⟨by rw [← KE.out.2 hne]; rfl, by exact frP⟩
  · refine eOp_make rfl rfl (fun K hK => ?_); go_simp; refine ⟨_, _, ⟨rfl, rfl⟩, ?_⟩
    refine hK _ _ ?_; clear hK K
    refine wpET_make rfl rfl (fun K hK => ?_); go_simp; refine ⟨_, _, ⟨rfl, rfl⟩, ?_⟩
    refine hK _ _ ?_; clear hK K
    refine wpET_grow rfl rfl (fun K hK => ?_); go_simp; refine hK _ _ (ExtO.via (W := W) (by exact frP) (by exact frP) (by simp)) ?_; clear hK K
    refine wpET_grow rfl rfl (fun K hK => ?_); go_simp; refine hK _ _ (ExtO.via (W := W) (by exact frP) (by exact frP) (by simp)) ?_; clear hK K
    refine wpET_nil ?_
    go_wp2
    · rename_i hne; go_ret; exact ⟨by rw [← KE.out.1 hne]; rfl, by exact frP⟩
    · rename_i hne; go_ret; exact ⟨by rw [← KE.out.2 hne]; rfl, by exact frP⟩
end Go.Proofs.Wx

namespace Go.Proofs
open Go.Shelf
def Tryz.laysGt8_ren : Go.Shelf.Ren := ⟨fun | 8 => 114 | 13 => 116 | 14 => 117 | 16 => 118 | 15 => 136 | 29 => 148 | 30 => 172 | 42 => 193 | 49 => 213 | n => n, fun | 20 => 20 | 26 => 173 | 36 => 234 | 0 => 0 | 38 => 236 | 42 => 242 | 3 => 3 | 4 => 4 | 47 => 113 | 17 => 17 | 33 => 231 | 34 => 232 | 89 => 386 | 12 => 12 | 56 => 176 | 82 => 379 | 5 => 5 | 83 => 380 | 84 => 381 | 85 => 382 | 86 => 383 | 87 => 384 | n => n, fun | n => n⟩
theorem Tryz.laysGt8 : Go.Proofs.LaysGt.n8 Tryz.prog Tryz.laysGt8_ren := {
  mixed := by kernel_rfl
  f8 := Tryz.func114.trans (congrArg some (by kernel_rfl))
  f13 := Tryz.func116.trans (congrArg some (by kernel_rfl))
  f14 := Tryz.func117.trans (congrArg some (by kernel_rfl))
  f15 := Tryz.func136.trans (congrArg some (by kernel_rfl))
  f16 := Tryz.func118.trans (congrArg some (by kernel_rfl))
  f29 := Tryz.func148.trans (congrArg some (by kernel_rfl))
  f30 := Tryz.func172.trans (congrArg some (by kernel_rfl))
  f42 := Tryz.func193.trans (congrArg some (by kernel_rfl))
  f49 := Tryz.func213.trans (congrArg some (by kernel_rfl))
  t0 := Tryz.underlying0
  a0 := Tryz.isAgg0
  z0 := Tryz.sizeOf0
  v0 := Tryz.zeroValue0
  i0 := by kernel_rfl
  t3 := Tryz.underlying3
  a3 := Tryz.isAgg3
  z3 := Tryz.sizeOf3
  v3 := Tryz.zeroValue3
  i3 := by kernel_rfl
  t4 := Tryz.underlying4
  a4 := Tryz.isAgg4
  z4 := Tryz.sizeOf4
  v4 := Tryz.zeroValue4
  i4 := by kernel_rfl
  t5 := Tryz.underlying5
  a5 := Tryz.isAgg5
  z5 := Tryz.sizeOf5
  v5 := Tryz.zeroValue5
  i5 := by kernel_rfl
  t12 := Tryz.underlying12
  a12 := Tryz.isAgg12
  z12 := Tryz.sizeOf12
  v12 := Tryz.zeroValue12
  i12 := by kernel_rfl
  t17 := Tryz.underlying17
  a17 := Tryz.isAgg17
  z17 := Tryz.sizeOf17
  v17 := Tryz.zeroValue17
  i17 := by kernel_rfl
  t20 := Tryz.underlying20
  a20 := Tryz.isAgg20
  z20 := Tryz.sizeOf20
  v20 := Tryz.zeroValue20
  i20 := by kernel_rfl
  t26 := Tryz.underlying173
  a26 := Tryz.isAgg173
  z26 := Tryz.sizeOf173
  v26 := Tryz.zeroValue173
  i26 := by kernel_rfl
  t33 := Tryz.underlying231
  a33 := Tryz.isAgg231
  z33 := Tryz.sizeOf231
  v33 := Tryz.zeroValue231
  i33 := by kernel_rfl
  t34 := Tryz.underlying232
  a34 := Tryz.isAgg232
  z34 := Tryz.sizeOf232
  v34 := Tryz.zeroValue232
  i34 := by kernel_rfl
  t36 := Tryz.underlying234
  a36 := Tryz.isAgg234
  z36 := Tryz.sizeOf234
  v36 := Tryz.zeroValue234
  i36 := by kernel_rfl
  t38 := Tryz.underlying236
  a38 := Tryz.isAgg236
  z38 := Tryz.sizeOf236
  v38 := Tryz.zeroValue236
  i38 := by kernel_rfl
  t42 := Tryz.underlying242
  a42 := Tryz.isAgg242
  z42 := Tryz.sizeOf242
  v42 := Tryz.zeroValue242
  i42 := by kernel_rfl
  t47 := Tryz.underlying113
  a47 := Tryz.isAgg113
  z47 := Tryz.sizeOf113
  v47 := Tryz.zeroValue113
  i47 := by kernel_rfl
  t56 := Tryz.underlying176
  a56 := Tryz.isAgg176
  z56 := Tryz.sizeOf176
  v56 := Tryz.zeroValue176
  i56 := by kernel_rfl
  t82 := Tryz.underlying379
  a82 := Tryz.isAgg379
  z82 := Tryz.sizeOf379
  v82 := Tryz.zeroValue379
  i82 := by kernel_rfl
  t83 := Tryz.underlying380
  a83 := Tryz.isAgg380
  z83 := Tryz.sizeOf380
  v83 := Tryz.zeroValue380
  i83 := by kernel_rfl
  t84 := Tryz.underlying381
  a84 := Tryz.isAgg381
  z84 := Tryz.sizeOf381
  v84 := Tryz.zeroValue381
  i84 := by kernel_rfl
  t85 := Tryz.underlying382
  a85 := Tryz.isAgg382
  z85 := Tryz.sizeOf382
  v85 := Tryz.zeroValue382
  i85 := by kernel_rfl
  t86 := Tryz.underlying383
  a86 := Tryz.isAgg383
  z86 := Tryz.sizeOf383
  v86 := Tryz.zeroValue383
  i86 := by kernel_rfl
  t87 := Tryz.underlying384
  a87 := Tryz.isAgg384
  z87 := Tryz.sizeOf384
  v87 := Tryz.zeroValue384
  i87 := by kernel_rfl
  t89 := Tryz.underlying386
  a89 := Tryz.isAgg386
  z89 := Tryz.sizeOf386
  v89 := Tryz.zeroValue386
  i89 := by kernel_rfl
}
end Go.Proofs

namespace Go.Proofs.Wx
open Go Go.RowKit Go.Sort Go.Lib Go.Shelf
instance : Inhabited CidM := ⟨⟨0, 0, 0, []⟩⟩
instance : Inhabited Itm := ⟨(default, 0)⟩
theorem swo_ltI : SWO ltI where
  irrefl x := by simp [ltI]
  trans x y z h1 h2 := by
    unfold ltI at *
    by_cases a : x.1.dig = y.1.dig <;> by_cases b : y.1.dig = z.1.dig
    · rw [if_pos a] at h1; rw [if_pos b] at h2; rw [if_pos (a.trans b)]
      simp only [decide_eq_true_eq] at *; omega
    · rw [if_neg b] at h2; rw [a, if_neg b]; exact h2
    · rw [if_neg a] at h1; rw [← b, if_neg a]; exact h1
    · rw [if_neg a] at h1; rw [if_neg b] at h2
      simp only [decide_eq_true_eq] at *
      have h3 := List.lt_trans h1 h2
      have : x.1.dig ≠ z.1.dig := fun e => by rw [e] at h3; exact List.lt_irrefl _ h3
      rw [if_neg this]; simpa using h3
  ntrans x y z h1 h2 := by
    unfold ltI at *
    by_cases a : x.1.dig = y.1.dig <;> by_cases b : y.1.dig = z.1.dig
    · rw [if_pos a] at h1; rw [if_pos b] at h2; rw [if_pos (a.trans b)]
      simp only [decide_eq_false_iff_not] at *; omega
    · rw [if_neg b] at h2; rw [a, if_neg b]; exact h2
    · rw [if_neg a] at h1; rw [← b, if_neg a]; exact h1
    · rw [if_neg a] at h1; rw [if_neg b] at h2
      simp only [decide_eq_false_iff_not, List.not_lt] at *
      have h3 := List.le_trans h2 h1
      have : x.1.dig ≠ z.1.dig := fun e => by
        rw [← e] at h2
        exact a (List.le_antisymm h2 h1)
      rw [if_neg this]; simpa using h3
theorem ltI_le {x y : Itm} (h : ltI y x = false) : x.1.dig ≤ y.1.dig := by
  unfold ltI at h
  by_cases a : y.1.dig = x.1.dig
  · rw [a]; exact List.le_refl _
  · rw [if_neg a] at h; simpa using h
theorem enL_length (x : Itm) : (enL x).length = 5 := rfl
theorem flat_en (d : Array Itm) : flatK enL 5 d = (enC d.toList).toArray := by
  refine ext_get! (by simp [enC_length]) fun t ht => ?_
  have ht' : t < d.size * 5 := by simpa using ht
  rw [get_flatK _ _ _ _ ht']
  have hq : t / 5 < d.size := by omega
  have hg : d.toList[t / 5]? = some d[t / 5]! := by simp [hq]
  have hm : t % 5 < (enL d[t / 5]!).length := by rw [enL_length]; omega
  have := enC_get hg (t % 5) _ (List.getElem?_eq_getElem hm)
  rw [show t / 5 * 5 + t % 5 = t by omega] at this
  have e1 : (enC d.toList).toArray[t]! = (enL d[t / 5]!)[t % 5] := by rw [List.getElem!_toArray, List.getElem!_eq_getElem?_getD, this]; rfl
  have e2 : (enL d[t / 5]!)[t % 5]! = (enL d[t / 5]!)[t % 5] := getElem!_pos (enL d[t / 5]!) (t % 5) hm
  rw [e2, e1]
theorem holds_en {w : World} {g : Nat} {d : Array Itm} {rest : List Value} (hB : Blk w g (enC d.toList ++ rest) tEN (0, 0)) : HoldsK enL 5 w g 0 d := by
  unfold HoldsK
  rw [flat_en]
  exact blk_holds (enc := id) (rest := rest) (by rw [List.map_id]; exact hB)
/-- The state of the sort: the entries' block, and the variable that holds the slice. -/
def enSt (g P c n : Nat) (rest : List Value) : St Itm where
  S d w := d.size = n ∧ Blk w g (enC d.toList ++ rest) tEN (0, 0) ∧ Blk w P [.slice (some ⟨g, 0, none⟩) n c] 27 (0, 0)
  own := [g, P]
  fr := fun h hf hX => ⟨h.1, hf.blk h.2.1 (fun hm => hX _ hm (by simp)), hf.blk h.2.2 (fun hm => hX _ hm (by simp))⟩
  lt := fun h k hk => by
    simp at hk
    rcases hk with rfl | rfl
    · exact h.2.1.lt
    · exact h.2.2.lt
noncomputable def enT : TypeInfo := (Tryz.prog.info? 27).get (by kernel_rfl)
noncomputable def enE : TypeInfo := (Tryz.prog.info? 52).get (by kernel_rfl)
theorem enK (n : Nat) (h2 : 2 ≤ n) : Lib.swapperK n enE 25 = 9 := by
  have a : enE.hasPointers = true := by kernel_rfl
  have b : (enE.bytes == 8) = false := by kernel_rfl
  have c : (n == 0) = false := by simp; omega
  have d : (n == 1) = false := by simp; omega
  simp [Lib.swapperK, a, b, c, d]
theorem en_enters : ∀ args w, (callFunc 115 args).run Tryz.prog w = .ok (.enter 115 args) w := enters_of Tryz.func115 (by kernel_rfl) rfl
theorem en_swaps (g c n : Nat) : SwapSwapsK Tryz.prog 145 #[.slice (some ⟨g, 0, none⟩) n c, typeHandle Tryz.prog tEN] enL 5 g 0 n :=
  swapSwapsK_of_literal false 145 (fun args W => run_callFunc_extern Tryz.func145 (by kernel_rfl) (by kernel_rfl) (by kernel_rfl) (e := Extern.ReflectliteSwapper.swap false) (by kernel_rfl) args W)
    tEN enE (by kernel_rfl) enL 5 enL_length (by kernel_rfl) (fun w => by kernel_rfl) (fun x v hv => by simp [enL] at hv; rcases hv with rfl | rfl | rfl | rfl | rfl <;> rfl) g 0 n c
theorem enFnS {g P c n : Nat} {rest : List Value} (hne : g ≠ P) (hn : n ≤ 50) : FnS 115 #[.pointer (some ⟨P, 0, none⟩)] 145 #[.slice (some ⟨g, 0, none⟩) n c, typeHandle Tryz.prog tEN] (enSt g P c n rest) ltI n where
  small := by omega
  enters := en_enters
  less := fun {w0 w d} i j hA hs hi hj => by
    have hB := hA.1.2.1
    have gx : ∀ q, q < n → d.toList[q]? = some d[q]! := fun q hq => by simp [show q < d.size by omega]
    have cx : ∀ q, q < n → ∀ k u, (enL d[q]!)[k]? = some u → w.cell? ⟨g, q * 5 + k, none⟩ = some u := fun q hq k u hu => by
      have h1 := enC_get (gx q hq) k u hu
      rw [hB.cell, List.getElem?_append_left (List.getElem?_eq_some_iff.1 h1).1]; exact h1
    refine (bdLess (g := g) (c := c) (P := P) (n := n) (by rw [hA.1.2.2.cell]; rfl) hA.1.2.2.lt hB.lt i j hi hj (cx i hi) (cx j hj)).mono fun e w' ⟨h1, h2⟩ => ⟨h1, hA.same h2⟩
  swap := fun {w0 w d} i j hA hs hi hj => by
    have hB := hA.1.2.1
    have hH := holds_en hB
    refine ⟨_, en_swaps g c n w d hH hs i j hi hj, ?_⟩
    have e := swap_worldK enL 5 enL_length w 0 0 g 0 d i j (by omega) (by omega)
    rw [ahead_zero, putRowK_self enL 5 w g 0 d hH] at e
    have e2 : ((w.drewN 0).setCells g (0 + i * 5) (enL d[j]!)).setCells g (0 + j * 5) (enL d[i]!) = (w.setCells g (0 + i * 5) (enL d[j]!)).setCells g (0 + j * 5) (enL d[i]!) := rfl
    rw [e2] at e
    rw [e]
    obtain ⟨k1, k2⟩ := putRow_blk (enc := id) (w := w) (g := g) (m := 0) (xs := enC d.toList) (ys := enC (swp d i j).toList) (rest := rest) (T := tEN) (os := #[]) (by rw [List.map_id]; exact hB) (by rw [enC_length, enC_length]; simp [size_swp])
    have e3 : grow (putRow id (Sort.ahead w 0) g 0 (enC (swp d i j).toList).toArray) #[] = putRowK enL 5 (Sort.ahead w (0 + 0)) g 0 (swp d i j) := by
      unfold putRowK; rw [flat_en]; simp [grow]; rfl
    rw [e3] at k1 k2
    rw [List.map_id] at k1
    refine hA.swap ⟨by rw [size_swp]; exact hA.1.1, k1, k2.blk hA.1.2.2 (by simpa using hne.symm)⟩ (k2.mono (by simp [enSt]))
theorem sortBd {w : World} {P g c : Nat} {l : List Itm} {rest : List Value} (hP : Blk w P [.slice (some ⟨g, 0, none⟩) l.length c] 27 (0, 0)) (hB : Blk w g (enC l ++ rest) tEN (0, 0)) (hne : g ≠ P) (h2 : 2 ≤ l.length) (h50 : l.length ≤ 50) :
    Calls Tryz.prog 114 #[.iface 27 (.slice (some ⟨g, 0, none⟩) l.length c), .func (.func 115) #[] #[.pointer (some ⟨P, 0, none⟩)]] w fun e w' => e = .returned (.tuple #[]) ∧
      ∃ zs : List Itm, zs.Perm l ∧ zs.Pairwise (fun a b => a.1.dig ≤ b.1.dig) ∧ Blk w' g (enC zs ++ rest) tEN (0, 0) ∧ Fr [g, P] w w' ∧ Blk w' P [.slice (some ⟨g, 0, none⟩) l.length c] 27 (0, 0) := by
  have hB0 : (sliceBound Tryz.prog tEN enE 25 (some ⟨g, 0, none⟩) l.length c) = #[.slice (some ⟨g, 0, none⟩) l.length c, typeHandle Tryz.prog tEN] := by
    unfold sliceBound; rw [if_neg (by rw [enK _ h2]; decide)]
  refine Any.sort_SliceStable_of_stable Tryz.laysGt8 27 tEN enT enE (by kernel_rfl) (by kernel_rfl) (by kernel_rfl) (by kernel_rfl) 25 (fun _ => by kernel_rfl) (some ⟨g, 0, none⟩) l.length c (by omega) 145 (by rw [enK _ h2]; kernel_rfl) (.func 115) #[] #[.pointer (some ⟨P, 0, none⟩)] w
    (fun w' => ∃ zs : List Itm, zs.Perm l ∧ zs.Pairwise (fun a b => a.1.dig ≤ b.1.dig) ∧ Blk w' g (enC zs ++ rest) tEN (0, 0) ∧ Fr [g, P] w w' ∧ Blk w' P [.slice (some ⟨g, 0, none⟩) l.length c] 27 (0, 0)) ?_
  rw [hB0]
  obtain ⟨W, hW⟩ : ∃ W, W = stableWorld Tryz.prog Tryz.laysGt8_ren 27 (some ⟨g, 0, none⟩) l.length c w := ⟨_, rfl⟩
  have hF : Fr [] w W := by rw [hW]; unfold stableWorld; exact Fr.alloc (Fr.alloc Fr.refl)
  rw [← hW]
  have hA : (enSt g P c l.length rest).At W l.toArray W := St.At.start ⟨by simp, hF.blk hB (by simp), hF.blk hP (by simp)⟩
  refine (stableF swo_ltI (enFnS hne h50) hA (by simp)).mono ?_
  rintro e w' ⟨rfl, d', hA', hp, hs⟩
  have hsz := hA'.1.1
  have hw : seg d' 0 l.length = d'.toList := by simp only [seg, List.drop_zero, Nat.sub_zero]; rw [← hsz, ← Array.length_toList, List.take_length]
  refine ⟨rfl, d'.toList, ?_, ?_, hA'.1.2.1, hF.mono (by simp) |>.trans hA'.2 (fun k hk _ => hk), hA'.1.2.2⟩
  · have := perm_seg hp
    rw [hw] at this
    simpa [seg] using this
  · have := (sorted_seg (by omega)).1 hs
    rw [hw] at this
    exact this.imp fun h => ltI_le h
theorem sortBd1 {w : World} {p : Option Addr} {lb : Array Value} {n c : Nat} (h1 : n ≤ 1) :
    Calls Tryz.prog 114 #[.iface 27 (.slice p n c), .func (.func 115) #[] lb] w fun e w' => e = .returned (.tuple #[]) ∧ Fr [] w w' := by
  have key : ∀ k f, Lib.swapperK n enE 25 = k → Tryz.prog.funcs.findIdx? (·.name == "internal/reflectlite" ++ ".Swapper$" ++ toString k) = some f → Calls Tryz.prog 114 #[.iface 27 (.slice p n c), .func (.func 115) #[] lb] w fun e w' => e = .returned (.tuple #[]) ∧ Fr [] w w' := by
    intro k f hk hf
    have hS := Any.sort_SliceStable_tiny Tryz.laysGt8 27 tEN enT enE (by kernel_rfl) (by kernel_rfl) (by kernel_rfl) (by kernel_rfl) 25 (fun _ => by kernel_rfl) p n c h1 f (by rw [hk]; exact hf) (.func 115) #[] lb w
    refine hS.mono ?_
    rintro e w' ⟨rfl, os, rfl⟩
    refine ⟨rfl, rfl, rfl, rfl, ?_, fun b hb _ => ?_⟩
    · show w.heap.size ≤ (w.heap ++ os).size
      rw [Array.size_append]; omega
    · show (w.heap ++ os)[b]? = _
      rw [Array.getElem?_append_left hb]
  have : n = 0 ∨ n = 1 := by omega
  rcases this with rfl | rfl
  · exact key 1 137 (by simp [Lib.swapperK]) (by kernel_rfl)
  · exact key 2 138 (by simp [Lib.swapperK]) (by kernel_rfl)
end Go.Proofs.Wx

namespace Go.Proofs.Wx
open Go Go.RowKit
/-- append of a string to a row that the call owns. -/
theorem appS {o : Oper} {a : Act} {K : Act → World → Prop} {Q : Exit → Act → World → Prop} {w : World} (s x : Operand)
    (ho : o.op = .call { callee := .builtin .append, args := #[s, x], argTypes := #[55, 9] })
    (base : Nat) (v : Value) (xs ys : List UInt8) (hs : a.eval s = v) (hown : OwnB base w v xs) (hx : a.eval x = .string ⟨ys.toArray⟩)
    (hl : xs.length + ys.length < 1000000000) (hbase : base ≤ w.heap.size)
    (h : ∀ v' w', OwnB base w' v' (xs ++ ys) → Fr v.ownBlock.toList w w' → K (a.put o.dst v') w') : o.wp Tryz.prog a w K Q := by
  obtain ⟨i, hi, hz, hsz, hby⟩ := info_parts u8_info
  have hys : (⟨ys.toArray⟩ : ByteArray).size = ys.length := by simp [ByteArray.size]
  obtain ⟨v', w', hr, h2, h3, _⟩ := Lib.run_append_own_string (P := Tryz.prog) w base 55 9 o.type 5 i u8_slice (by kernel_rfl) hi hz hsz hby v xs.length (by8 xs) hown ⟨ys.toArray⟩ (by rw [hys]; unfold maxLen; omega) (by rw [hys]; omega) hbase
  unfold Oper.wp execOp
  simp only [ho, resolve, invoke, builtin, Sem.run_bind, Sem.run_pure, Result.andThen_ok, List.map_toArray, List.map_cons, List.map_nil, hs, hx, hr]
  refine h v' w' ?_ (Fr.of_grown h3)
  rw [hys, strCells8, ← by8_append] at h2
  rw [← List.length_append] at h2
  exact h2
/-- ByDigest, of entries whose digests are distinct. -/
def ByD : Prop := ∀ (w : World) (v : Value) (l : List Itm), EntsAt w v l → l.length ≤ 50 → Distinct l → Calls Tryz.prog 89 #[v] w fun e w' => ∃ s, e = .returned s ∧ EntsAt w' s (sortD l) ∧ NewS w s ∧ Fr [] w w'
theorem ofW_sortD {l : List Itm} (hd : Distinct l) (n : Nat) : ofW (sortD l) n = sortD (ofW l n) := by
  refine sortD_unique ((sortD_perm l).filter _) ((sortD_sorted l).filter _) (hd.filter _)
theorem spLow4 {w : World} {base : Nat} {v : Value} {xs : List UInt8} (n : Nat) (h : OwnB base w v xs) (hb : base ≤ w.heap.size) (hl : xs.length < 800000000) :
    Calls Tryz.prog 58 #[v, .int .u64 n, .int .i64 4] w fun e w' => ∃ v', e = .returned v' ∧ Ap8 base w v xs w' v' (xs ++ Lib.leBytes 4 n) := spLow (size := 4) h hb (by omega) hl
theorem spLow8 {w : World} {base : Nat} {v : Value} {xs : List UInt8} (n : Nat) (h : OwnB base w v xs) (hb : base ≤ w.heap.size) (hl : xs.length < 800000000) :
    Calls Tryz.prog 58 #[v, .int .u64 n, .int .i64 8] w fun e w' => ∃ v', e = .returned v' ∧ Ap8 base w v xs w' v' (xs ++ Lib.leBytes 8 n) := spLow (size := 8) h hb (by omega) hl
def inRel (wR : World) (B0 : Nat) (S : List Itm) (n k : Nat) (s9 s29 : Value) (wr : World) : Prop :=
  ∃ i : Nat, s29 = .int .i64 (i : Nat) ∧ i + k = S.length ∧ OwnB B0 wr s9 (rowsB (ofW (S.take i) n)) ∧ B0 ≤ wr.heap.size ∧ Fr [] wR wr
theorem ofW_snoc (l : List Itm) (x : Itm) (n : Nat) : ofW (l ++ [x]) n = ofW l n ++ (if x.1.dig.length = n then [x] else []) := by
  unfold ofW; rw [List.filter_append]; congr 1
  by_cases e : x.1.dig.length = n <;> simp [e]
theorem rowsW_length (l : List Itm) (n : Nat) : (rowsB (ofW l n)).length ≤ (n + 8) * l.length := by
  rw [rowsB_length (n := n) (fun e he => by simpa [ofW] using (List.mem_filter.1 he).2)]
  exact Nat.mul_le_mul_left _ (List.length_filter_le _ _)
def otRel (w3 : World) (base : Nat) (v2 : Value) (ys2 : List UInt8) (l : List Itm) (k : Nat) (s0 s23 : Value) (wr : World) : Prop :=
  ∃ j : Nat, s23 = .int .i64 (j : Nat) ∧ j + k = (widthsOf l).length ∧ Ap8 base w3 v2 ys2 wr s0 (ys2 ++ ((widthsOf l).take j).flatMap (bucketB l))
theorem ownB_lt {base : Nat} {w : World} {v : Value} {xs : List UInt8} (h : OwnB base w v xs) : ∀ k, v.ownBlock = some k → base ≤ k ∧ k < w.heap.size := by
  intro k hk
  rcases h.2 with ⟨rfl, _⟩ | ⟨g, cap, cur, rfl, hb, hg, _⟩
  · cases hk
  · cases hk; exact ⟨hb, (Array.getElem?_eq_some_iff.1 hg).1⟩
theorem ownB_not {base k : Nat} {w : World} {v : Value} {xs : List UInt8} (h : OwnB base w v xs) (hk : w.heap.size ≤ k) : k ∉ v.ownBlock.toList := by
  intro hm
  have := (ownB_lt h k (by simpa using hm)).2
  omega
theorem widths_mem {l : List Itm} {n : Nat} (h : n ∈ widthsOf l) : ∃ e ∈ l, e.1.dig.length = n := by
  unfold widthsOf at h
  rw [mem_ascOf] at h
  simpa using h
theorem widthsOf_length (l : List Itm) : (widthsOf l).length ≤ l.length := by
  have := ascOf_length (l.map fun e => e.1.dig.length)
  simpa [widthsOf] using this
theorem rowsB_snoc (l : List Itm) (x : Itm) : rowsB (l ++ [x]) = rowsB l ++ x.1.dig ++ Lib.leBytes 8 x.2 := by simp [rowsB, rowB]
set_option maxRecDepth 1000000 in
set_option maxHeartbeats 12800000 in
theorem spSorted {w : World} {base : Nat} {v vl : Value} {ys : List UInt8} {l : List Itm} (hBD : ByD) (hO : OwnB base w v ys) (hb : base ≤ w.heap.size) (h : EntsAt w vl l) (hl : l.length ≤ 50) (hd : ∀ e ∈ l, e.1.dig.length ≤ 200)
    (hD : Distinct l) (hsep : ∀ a n c, vl = .slice (some a) n c → v.ownBlock ≠ some a.block) (hlen : ys.length < 100000000) :
    Calls Tryz.prog 56 #[v, vl] w fun e w' => ∃ v', e = .returned v' ∧ Ap8 base w v ys w' v' (ys ++ groupB l) := by
  unfold ByD at hBD
  have hWd := spWidths h hl hd
  have hwl := widthsOf_length l
  obtain ⟨WL, hWL⟩ : ∃ WL, WL = (widthsOf l).length := ⟨_, rfl⟩
  have hWz : WL ≤ 50 := by omega
  have wWL : IntKind.u64.wrap (WL : Int) = (WL : Int) := by simp [IntKind.wrap, IntKind.bits, IntKind.signed]; omega
  have HL := Lib.hid (And.intro h (And.intro hl (And.intro hd (And.intro hD (And.intro hsep (And.intro hlen hb))))))
  have HO := Lib.hid hO
  have HWL := Lib.hid hWL
  clear h hl hd hD hsep hlen hO hwl hWL hb
  go_enter Tryz.func56, Tryz.ntmps56
  go_wp2_with (first
    | go_at_call 88; (with_reducible refine hWd.mono ?_); rintro e w1 ⟨sa, rfl, hNa, hNw, hF1⟩; clear hWd; obtain ⟨ada, ca, rfl, hva⟩ : ∃ ada ca, sa = .slice ada WL ca ∧ (WL ≠ 0 → ∃ ga, ada = some ⟨ga, 0, none⟩ ∧ WL ≤ ca) := (by have := HWL.out; rcases hNa with ⟨h0, a, c, rfl⟩ | ⟨g, c, rest, rfl, hc, _⟩; (rw [h0] at this; subst this; exact ⟨a, c, rfl, fun h => absurd rfl h⟩); (rw [← this] at hc ⊢; exact ⟨_, c, rfl, fun _ => ⟨g, rfl, hc⟩⟩)); have HN := Lib.hid (And.intro hNa hNw); clear hNa hNw
    | go_at_call 58; (with_reducible refine (spLow4 WL (HO.out.fr hF1 (by simp)) (by have := HL.out.2.2.2.2.2.2; have := hF1.size; omega) (by have := HL.out.2.2.2.2.2.1; omega)).mono ?_); rintro e w2 ⟨v2, rfl, hA2⟩; have hE2 := (HL.out.1.fr hF1 (by simp)).fr hA2.fr (fun g a n c e1 e2 hm => HL.out.2.2.2.2.1 _ _ _ e1 (by rw [e2]; simpa using hm))
    | go_at_call 89; (with_reducible refine (hBD _ _ _ hE2 HL.out.2.1 HL.out.2.2.2.1).mono ?_); rintro e w3 ⟨sv, rfl, hE3, hS3, hF3⟩; clear hE2)
  have hS3f := hE3.form
  obtain ⟨ad, c, rfl, hv⟩ := hS3f
  rw [(sortD_perm l).length_eq] at hv ⊢
  have hBa3 : WL ≠ 0 → ∃ ga rest, ada = some ⟨ga, 0, none⟩ ∧ WL ≤ ca ∧ Blk w3 ga ((widthsOf l).map (fun n : Nat => Value.int .i64 n) ++ rest) 3 (0, 0) ∧ v2.ownBlock ≠ some ga := by
    intro h0
    rcases HN.out.1 with ⟨h1, _⟩ | ⟨ga, c', rest, e, hc', hB⟩
    · have := HWL.out; rw [h1] at this; exact absurd this h0
    · cases e
      have hge := HN.out.2 _ _ _ rfl
      have hg1 : v.ownBlock ≠ some ga := fun e => by have := (ownB_lt HO.out ga e).2; simp at hge; omega
      refine ⟨ga, rest, rfl, by have := HWL.out; omega, hF3.blk (hA2.fr.blk hB (by simpa using hg1)) (by simp), fun e => ?_⟩
      rcases hA2.at' with e3 | ⟨k', e3, hk'⟩
      · exact hg1 (e3.symm.trans e)
      · rw [e] at e3; cases e3; have := hB.lt; omega
  go_loopg [0, 23] WL (fun k s0 s23 wr => otRel w3 base v2 (ys ++ Lib.leBytes 4 WL) l k s0 s23 wr)
  case atStart => exact ⟨0, rfl, by have := HWL.out; omega, by simpa using Ap8.refl (hA2.own.fr hF3 (by simp))⟩
  case round =>
    obtain ⟨j, rfl, hjk, hA⟩ := hrel
    by_cases hj : j < WL
    · have hz : (j : Int) < (WL : Int) := by omega
      obtain ⟨ga, rest, rfl, hca, hBa, hga⟩ := hBa3 (by omega)
      have hBr := hA.fr.blk hBa (by simpa using hga)
      have hjw : j < (widthsOf l).length := by have := HWL.out; omega
      obtain ⟨n, hn⟩ : ∃ n, n = (widthsOf l)[j] := ⟨_, rfl⟩
      have hgn : (widthsOf l)[j]? = some n := by rw [hn]; simp [hjw]
      have hcell : wr.cell? ⟨ga, j, none⟩ = some (.int .i64 n) := by
        rw [hBr.cell, List.getElem?_append_left (by simpa using hjw), List.getElem?_map, hgn]; rfl
      have hmn : n ∈ widthsOf l := List.mem_of_getElem? hgn
      obtain ⟨e0, he0, hen⟩ := widths_mem hmn
      have hn200 : n ≤ 200 := by rw [← hen]; exact HL.out.2.2.1 e0 he0
      have hjc : (j : Int) < (ca : Int) := by omega
      have htk : (widthsOf l).take (j + 1) = (widthsOf l).take j ++ [n] := by rw [List.take_add_one, hgn]; rfl
      have HJ := Lib.hid (And.intro hjk (And.intro htk (And.intro hj (And.intro (⟨e0, he0, hen⟩ : ∃ e ∈ l, e.1.dig.length = n) hA))))
      obtain ⟨B0, hB0⟩ : ∃ B0, Hid (B0 = wr.heap.size) := ⟨_, Lib.hid rfl⟩
      clear hjk htk hj hgn hmn hn hjw he0 hen
      go_wp2
      go_loopg [9, 29] l.length (fun k s9 s29 wi => inRel wr B0 (sortD l) n k s9 s29 wi)
      case atStart => exact ⟨0, rfl, by rw [(sortD_perm l).length_eq]; omega, by simpa [ofW, rowsB] using ownB_nil, Nat.le_of_eq hB0.out, Fr.refl⟩
      case round =>
        obtain ⟨i, rfl, hik, hR, hBs, hFi⟩ := hrel
        rw [(sortD_perm l).length_eq] at hik
        have hl50 := HL.out.2.1
        by_cases hi : i < l.length
        · have hz2 : (i : Int) < (l.length : Int) := by omega
          have hsl : i < (sortD l).length := by rw [(sortD_perm l).length_eq]; exact hi
          obtain ⟨gs, rfl, hgl, hlc⟩ := hv (by intro e; rw [e] at hsl; simp at hsl)
          have hEr := (hE3.fr HJ.out.2.2.2.2.fr (fun g a n c e1 e2 hm => by
            have h1 := hS3 a n c e1
            have h2 := (ownB_lt hA2.own g (by simpa using hm)).2
            omega)).fr hFi (by simp)
          obtain ⟨x, hx⟩ : ∃ x, x = (sortD l)[i] := ⟨_, rfl⟩
          have hgc : (sortD l)[i]? = some x := by rw [hx]; simp [hsl]
          have htk2 : rowsB (ofW ((sortD l).take (i + 1)) n) = rowsB (ofW ((sortD l).take i) n) ++ rowsB (if x.1.dig.length = n then [x] else []) := by
            rw [List.take_add_one, hgc]; show rowsB (ofW (_ ++ [x]) n) = _; rw [ofW_snoc]; simp [rowsB]
          rw [(sortD_perm l).length_eq] at hEr
          obtain ⟨x1, x2, x3, x4, x5⟩ := hEr.cells hgc
          have hi2 : (i : Int) ≤ (c : Int) := by omega
          have h1s := hFi.size
          have hXl := rowsW_length ((sortD l).take i) n
          have hXl2 : (n + 8) * ((sortD l).take i).length ≤ 208 * 50 := Nat.mul_le_mul (by omega) (by simp; omega)
          obtain ⟨X, hX⟩ : ∃ X, Hid (X = rowsB (ofW ((sortD l).take i) n)) := ⟨_, Lib.hid rfl⟩
          rw [← hX.out] at hR htk2 hXl
          have hXl3 : X.length ≤ 10400 := by omega
          have HQ := Lib.hid (And.intro hik (And.intro htk2 hi))
          clear hik hgc htk2 hx hEr hi hsl hXl hXl2
          have hF1 : Fr [] wr (wr.alloc (.cells (enL x).toArray tEN)) := Fr.alloc Fr.refl
          unfold enL at hF1
          by_cases hw : x.1.dig.length = n
          · have hwz : (x.1.dig.length : Int) = (n : Int) := by omega
            have HW := Lib.hid hw
            have hdl : x.1.dig.length ≤ 200 := by omega
            clear hw
            go_wp2_with fail
            refine wp_region_tree mixed (fun i => if i = 3 ∨ i = 4 ∨ i = 6 ∨ i = 7 then .act else .free)
              (.one 0 .free (.one 1 .free (.one 2 .free (.one 5 .free (.two 3 .act (.two 4 .act (.one 6 .act (.one 7 .act (.one 8 .free .nil))) 6 .act (.one 4 .act (.one 7 .act (.one 8 .free .nil)))) 6 .act (.one 3 .act (.one 4 .act (.one 7 .act (.one 8 .free .nil))))))))) (by kernel_rfl) ?_
            go_wp2_with (first
              | (go_at_call 58; (with_reducible refine (spLow8 x.2 hO5 (Nat.le_trans hBs (Nat.le_trans hF1.size (by have := hF5.size; simpa using this))) (by simp; omega)).mono ?_); rintro e w6 ⟨v6, rfl, hA6⟩)
              | (with_reducible refine wpET_id ?_; (first | (refine wpET_nil ?_; skip) | (refine wpET_free rfl rfl (fun K hK => ?_); go_simp; try refine ⟨_, ⟨fun _ => rfl, ?_⟩⟩) | (refine wpET_act rfl rfl (fun K hK => ?_); simp only [List.getElem_toArray, List.getElem_cons_succ, List.getElem_cons_zero]; (refine appS _ _ rfl B0 u9 X x.1.dig rfl (hR.fr (S := []) (by exact frP) (by simp)) rfl (by omega) (by simp; omega) (fun v5 w5 hO5 hF5 => ?_)); have tc5 := (hF5.blk (b := wr.heap.size) (cs := [.int .u64 x.1.v, .int .u64 x.1.codec, .int .u64 x.1.code, .string ⟨x.1.dig.toArray⟩, .int .u64 x.2]) (T := tEN) (fr := (0, 0)) (by (exact Blk.conv (by repeat (first | (with_reducible assumption) | (with_reducible apply Blk.drew) | (with_reducible apply Blk.drewN) | (with_reducible apply Blk.set) | (with_reducible apply Blk.setRow) | (with_reducible exact Blk.new) | (exact Blk.newAt rfl) | (with_reducible apply Blk.setNe (by (first | (with_reducible assumption) | (simp; omega) | (simp [*]; done)))) | (with_reducible apply Blk.setRowNe (by (first | (with_reducible assumption) | (simp; omega) | (simp [*]; done)))) | (with_reducible apply Blk.alloc))) (by first | rfl | (simp; done) | (simp; omega)))) (ownB_not hR (Nat.le_refl _))).cells) | (refine wpET_act rfl rfl (fun K hK => ?_); go_simp) | (refine wpET_two ?_ ?_)))
              | (with_reducible refine eOp_id ?_; (first | (refine eOp_act rfl rfl (fun K hK => ?_); simp only [List.getElem_toArray, List.getElem_cons_succ, List.getElem_cons_zero]; (refine appS _ _ rfl B0 u9 X x.1.dig rfl (hR.fr (S := []) (by exact frP) (by simp)) rfl (by omega) (by simp; omega) (fun v5 w5 hO5 hF5 => ?_)); have tc5 := (hF5.blk (b := wr.heap.size) (cs := [.int .u64 x.1.v, .int .u64 x.1.codec, .int .u64 x.1.code, .string ⟨x.1.dig.toArray⟩, .int .u64 x.2]) (T := tEN) (fr := (0, 0)) (by (exact Blk.conv (by repeat (first | (with_reducible assumption) | (with_reducible apply Blk.drew) | (with_reducible apply Blk.drewN) | (with_reducible apply Blk.set) | (with_reducible apply Blk.setRow) | (with_reducible exact Blk.new) | (exact Blk.newAt rfl) | (with_reducible apply Blk.setNe (by (first | (with_reducible assumption) | (simp; omega) | (simp [*]; done)))) | (with_reducible apply Blk.setRowNe (by (first | (with_reducible assumption) | (simp; omega) | (simp [*]; done)))) | (with_reducible apply Blk.alloc))) (by first | rfl | (simp; done) | (simp; omega)))) (ownB_not hR (Nat.le_refl _))).cells) | (refine eOp_act rfl rfl (fun K hK => ?_); go_simp))))
            iterate 3
              go_roundg (l.length - (i + 1))
              case measure => have := HQ.out.1; have := HQ.out.2.2; omega
              case rel =>
                have hF5' : Fr u9.ownBlock.toList wr w5 := Fr.trans (S := u9.ownBlock.toList) (S' := u9.ownBlock.toList) (by exact frP) hF5 (fun k hk _ => hk)
                refine ⟨i + 1, by first | (rw [wrap64_1 (by omega)]; done) | (simp; done), by rw [(sortD_perm l).length_eq]; have := HQ.out.2.2; omega, ?_, Nat.le_trans hBs (Nat.le_trans hF5'.size hA6.fr.size), (hFi.trans hF5' (fun k hk hl => ?_)).trans hA6.fr (fun k hk hl => ?_)⟩
                · rw [HQ.out.2.1, if_pos HW.out]
                  have := hA6.own
                  rw [List.append_assoc] at this
                  simpa [rowsB, rowB] using this
                · have := own_ge hR k hk; have := hB0.out; omega
                · have := own_ge hO5 k hk; have := hB0.out; omega
          · have hwz : ¬ (x.1.dig.length : Int) = (n : Int) := by omega
            have HW := Lib.hid hw
            clear hw
            go_wp2
            go_roundg (l.length - (i + 1))
            case measure => have := HQ.out.1; have := HQ.out.2.2; omega
            case rel =>
              refine ⟨i + 1, by first | (rw [wrap64_1 (by omega)]; done) | (simp; done), by rw [(sortD_perm l).length_eq]; have := HQ.out.2.2; omega, ?_, Nat.le_trans hBs hF1.size, hFi.trans hF1 (by simp)⟩
              rw [HQ.out.2.1, if_neg HW.out]
              simpa [rowsB] using hR.fr hF1 (by simp)
        · have hz2 : ¬ (i : Int) < (l.length : Int) := by omega
          have hie : i = (sortD l).length := by rw [(sortD_perm l).length_eq]; omega
          rw [hie, List.take_length, ofW_sortD HL.out.2.2.2.1] at hR
          obtain ⟨hjk, htk, hj, ⟨e0, he0, hen⟩, hA⟩ := HJ.out
          have hRl : (rowsB (sortD (ofW l n))).length = (n + 8) * (ofW l n).length := rows_len
          have hO1 : 0 < (ofW l n).length := List.length_pos_of_mem (a := e0) (by simp [ofW, he0, hen])
          have hO2 : (ofW l n).length ≤ 50 := Nat.le_trans (List.length_filter_le _ _) hl50
          have hR1 : 0 < (rowsB (sortD (ofW l n))).length := by rw [hRl]; exact Nat.mul_pos (by omega) hO1
          have hR2 : (rowsB (sortD (ofW l n))).length ≤ 208 * 50 := by rw [hRl]; exact Nat.mul_le_mul (by omega) hO2
          obtain ⟨gr, cr, hu9, hgr, hBr2⟩ := ownB_row hR (by intro e; rw [e] at hR1; simp at hR1)
          obtain ⟨Y, hY⟩ : ∃ Y, Hid (Y = rowsB (sortD (ofW l n))) := ⟨_, Lib.hid rfl⟩
          rw [← hY.out] at hR hRl hR1 hR2 hu9 hBr2
          obtain ⟨RL, hRL⟩ : ∃ RL, RL = Y.length := ⟨_, rfl⟩
          rw [← hRL] at hu9 hRl hR1 hR2
          subst hu9
          have wRL : IntKind.u64.wrap (RL : Int) = (RL : Int) := by simp [IntKind.wrap, IntKind.bits, IntKind.signed]; omega
          obtain ⟨N8, hN8, hN8'⟩ : ∃ N8 : Nat, (n : Int) + 8 = (N8 : Int) ∧ Hid (N8 = n + 8) := ⟨n + 8, by simp, Lib.hid rfl⟩
          have hN8b : N8 ≤ 208 := by have := hN8'.out; omega
          have wN1 : IntKind.i64.wrap (N8 : Int) = (N8 : Int) := by simp [IntKind.wrap, IntKind.bits, IntKind.signed]; omega
          have wN2 : IntKind.u64.wrap (N8 : Int) = (N8 : Int) := by simp [IntKind.wrap, IntKind.bits, IntKind.signed]; omega
          have hbase3 : base ≤ w3.heap.size := by have := HL.out.2.2.2.2.2.2; have := hF1.size; have := hA2.fr.size; have := hF3.size; omega
          have hAw := hA.same hFi
          obtain ⟨Z, hZ⟩ : ∃ Z, Hid (Z = ys ++ Lib.leBytes 4 WL ++ ((widthsOf l).take j).flatMap (bucketB l)) := ⟨_, Lib.hid rfl⟩
          have hZl : Z.length ≤ 100000000 + 4 + 10412 * 50 := by
            rw [hZ.out]
            simp only [List.length_append, Lib.leBytes_length]
            have h1 := HL.out.2.2.2.2.2.1
            have h2 := buckets_length hl50 (ws := (widthsOf l).take j) (fun m hm => by
              obtain ⟨e, he, h⟩ := widths_mem (List.mem_of_mem_take hm)
              rw [← h]; exact HL.out.2.2.1 e he)
            have h3 : ((widthsOf l).take j).length ≤ 50 := by rw [List.length_take]; omega
            omega
          have hZ4 : (Z ++ Lib.leBytes 4 N8).length < 800000000 := by simp only [List.length_append, Lib.leBytes_length]; omega
          have hZ8 : (Z ++ Lib.leBytes 4 N8 ++ Lib.leBytes 8 RL).length + RL < 1000000000 := by simp only [List.length_append, Lib.leBytes_length]; omega
          rw [← hZ.out] at hAw hA
          have hbw : base ≤ wr.heap.size := by have := hAw.fr.size; omega
          have hug : ∀ k, u0.ownBlock = some k → k < B0 := fun k hk => by rw [hB0.out]; exact (ownB_lt hA.own k hk).2
          have HS := Lib.hid (And.intro hjk (And.intro htk (And.intro hRl (And.intro hRL hj))))
          have hgrl := hBr2.lt
          clear hjk htk hRl hRL hj hie hik hi hO1 hen he0
          go_wp2_with (first
            | go_at_call 58; (with_reducible refine (spLow4 N8 hAw.own hbw (by omega)).mono ?_); rintro e w5 ⟨v5, rfl, hA5⟩; have hB5 := hBr2.fr hA5.fr (by intro hm; have := hug gr (by simpa using hm); omega); have hv5 : v5.ownBlock ≠ some gr := (by intro e; rcases hA5.at' with e1 | ⟨k, e1, hk⟩; (have := hug gr (by rw [← e1]; exact e); omega); (rw [e] at e1; cases e1; omega))
            | go_at_call 58; (with_reducible refine (spLow8 RL hA5.own (Nat.le_trans hbw hA5.fr.size) hZ4).mono ?_); rintro e w6 ⟨v6, rfl, hA6⟩; have hB6 := hB5.fr hA6.fr (by intro hm; exact hv5 (by simpa using hm))
            | ((with_reducible refine list_bi .append (fun K hK => ?_));  refine appX _ _ rfl base v6 (Z ++ Lib.leBytes 4 N8 ++ Lib.leBytes 8 RL) rfl hA6.own ⟨gr, 0, none⟩ RL cr rfl Y (by omega) HS.out.2.2.2.1.symm (fun t u hu => by have ht : t < Y.length := (by have := (List.getElem?_eq_some_iff.1 hu).1; rwa [by8_length] at this); rw [by8_at _ _ ht] at hu; rw [← hu, Addr.add_lit]; exact hB6.cell t ht) hZ8 (Nat.le_trans hbw (Nat.le_trans hA5.fr.size hA6.fr.size)) (fun v7 w7 hA7 => ?_)))
          go_roundg (WL - (j + 1))
          case measure => have := HS.out.1; have := HS.out.2.2.2.2; have := HWL.out; omega
          case rel =>
            refine ⟨j + 1, by first | (rw [wrap64_1 (by omega)]; done) | (simp; done), by have := HS.out.2.2.2.2; have := HWL.out; omega, ?_⟩
            rw [HS.out.2.1]
            have := ((hAw.trans hA5).trans hA6).trans hA7
            rw [hZ.out, hY.out, hN8'.out, HS.out.2.2.1] at this
            simpa [List.flatMap_append, bucketB, List.append_assoc] using this
    · have hz : ¬ (j : Int) < (WL : Int) := by omega
      have hje : j = (widthsOf l).length := by have := HWL.out; omega
      have HJ := Lib.hid hje
      clear hje hjk hj
      go_wp2
      go_ret
      refine ⟨_, rfl, ?_⟩
      rw [HJ.out, List.take_length] at hA
      have := ((hA2.trans (hA.pre hF3)).pre hF1)
      unfold groupB
      rw [← HWL.out, ← List.append_assoc]
      exact this
end Go.Proofs.Wx
