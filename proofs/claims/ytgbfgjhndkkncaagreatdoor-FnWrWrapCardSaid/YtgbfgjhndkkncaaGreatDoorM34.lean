import Derived.Test.YtgbfgjhndkkncaaGreatDoorM31
set_option maxRecDepth 100000
set_option maxHeartbeats 1000000
set_option linter.unusedVariables false
set_option linter.unusedSimpArgs false
set_option linter.deprecated false
namespace Go.Proofs.Wx
open Go Go.RowKit
theorem widths_le {l : List Itm} (hl : l.length ≤ 50) : (widthsOf l).length ≤ 50 := by
  have := ascOf_length (l.map fun e => e.1.dig.length)
  have h2 : (widthsOf l).length ≤ (l.map fun e => e.1.dig.length).length := this
  simp at h2; omega
theorem groupB_length {l : List Itm} (hl : l.length ≤ 50) (hd : ∀ e ∈ l, e.1.dig.length ≤ 200) : (groupB l).length ≤ 520604 := by
  have h1 := buckets_length hl (ws := widthsOf l) fun x hx => by
    obtain ⟨e0, he0, hen⟩ := List.mem_map.1 ((mem_ascOf _ _).1 hx)
    exact hen ▸ hd e0 he0
  have h2 := widths_le hl
  unfold groupB
  simp only [List.length_append, Lib.leBytes_length]
  omega
theorem ofC_length (l : List Itm) (c : Nat) : (ofC l c).length ≤ l.length := List.length_filter_le _ _
theorem codeB_length {l : List Itm} (hl : l.length ≤ 50) (hd : ∀ e ∈ l, e.1.dig.length ≤ 200) (c : Nat) : (codeB l c).length ≤ 520612 := by
  have h1 := groupB_length (l := ofC l c) (Nat.le_trans (ofC_length l c) hl) fun e he => hd e (List.mem_filter.1 he).1
  unfold codeB
  simp only [List.length_append, Lib.leBytes_length]
  omega
theorem codesB_length {l : List Itm} (hl : l.length ≤ 50) (hd : ∀ e ∈ l, e.1.dig.length ≤ 200) : ∀ (cs : List Nat), (cs.flatMap (codeB l)).length ≤ 520612 * cs.length
  | [] => by simp
  | c :: cs => by
    have h1 := codeB_length hl hd c
    have h2 := codesB_length hl hd cs
    simp at *; omega
set_option maxRecDepth 1000000 in
set_option maxHeartbeats 12800000 in
theorem mwcMarshal {w : World} {p base cb bm c lo hi : Nat} {l : List Itm} {ks : List Nat} {ib : Nat → Nat} {v : Value} {ys : List UInt8} (hBuf : Buf w p base v ys) (hC : Blk w cb [.map (some bm), .int .u64 c] 400 (0, 0)) (hcb : lo ≤ cb ∧ cb < hi) (hG : Grp w bm lo hi l ks ib)
    (hc : c < 9223372036854775808) (hl : l.length ≤ 50) (hd : ∀ e ∈ l, e.1.dig.length ≤ 200) (hy : ys ≠ []) (hlen : ys.length < 90000000) (hbase : base ≤ w.heap.size) (hp : p < lo) (hv : ∀ k, v.ownBlock = some k → hi ≤ k) (hhi : hi ≤ w.heap.size) (hLen : LenC) :
    Calls Tryz.prog 277 #[.pointer (some ⟨cb, 0, none⟩), BUFI p] w fun e w' => (∃ N : Int, e = .returned (.tuple #[.int .u64 N, .nilIface])) ∧ ∃ v', Wr p base w v ys w' v' (ys ++ (Lib.leBytes 8 c ++ groupB l)) := by
  have hcc := hC.cells
  have hdis : ∀ k ∈ p :: v.ownBlock.toList, k < lo ∨ hi ≤ k := by
    intro k hk
    rcases List.mem_cons.1 hk with rfl | hk
    · exact .inl hp
    · exact .inr (hv k (by simpa using hk))
  have hcn : cb ∉ p :: v.ownBlock.toList := fun hm => by rcases hdis _ hm with h | h <;> omega
  have h64 := write64 (x := c) hBuf (by omega) hy (by omega) hbase
  obtain ⟨A, hA⟩ : ∃ Z : List UInt8, Hid (Z = Lib.leBytes 8 c) := ⟨_, rfl⟩
  have lA : Hid (A.length = 8) := by show _ = _; rw [hA.out, lb8]
  rw [← hA.out] at h64 ⊢
  have hcl := hC.lt
  have hmw := fun (w1 : World) (v1 : Value) (hW : Wr p base w v ys w1 v1 (ys ++ A)) => mwMarshal (mb := cb) hW.buf (by
      rw [World.cell?_of_block (w := w) (hW.fr.block cb hcl hcn), hC.cell]; rfl) (Nat.lt_of_lt_of_le hcl hW.fr.size) hcb (hG.fr hW.fr hdis) hl hd (by simp [hy]) (by have := lA.out; simp; omega) (Nat.le_trans hbase hW.fr.size) hp (fun k hk => by
      rcases hW.own with e | ⟨k', e, h⟩
      · exact hv k (by rw [← e]; exact hk)
      · rw [hk] at e; cases e; omega) (Nat.le_trans hhi hW.fr.size) hLen
  clear hlen hbase
  go_enter Tryz.func277, Tryz.ntmps277
  go_wp2_with (first
    | go_at_call 283; refine h64.mono ?_; rintro e w1 ⟨rfl, v1, hW1⟩; clear h64 hcc
    | go_at_call 284; refine (hmw _ _ hW1).mono ?_; rintro e w2 ⟨⟨N2, rfl⟩, v2, hW2⟩)
  go_ret2
  refine ⟨⟨_, rfl⟩, v2, ?_⟩
  have := hW1.trans hW2
  rwa [List.append_assoc] at this
/-- The whole index. -/
structure Ixs (w : World) (ix bm lo hi : Nat) (l : List Itm) (cs : List Nat) (cb bc : Nat → Nat) (ks : Nat → List Nat) (ib : Nat → Nat → Nat) : Prop where
  top : ∃ T, Blk w ix [.map (some bm)] T (0, 0)
  topB : lo ≤ ix ∧ ix < hi
  map : Mp w bm .u64 (cs.map fun c => (c, .pointer (some ⟨cb c, 0, none⟩)))
  mapB : lo ≤ bm ∧ bm < hi
  nodup : cs.Nodup
  mem : ∀ c, c ∈ cs ↔ c ∈ l.map fun e => e.1.code
  code : ∀ c ∈ cs, Blk w (cb c) [.map (some (bc c)), .int .u64 c] 400 (0, 0) ∧ (lo ≤ cb c ∧ cb c < hi) ∧ Grp w (bc c) lo hi (ofC l c) (ks c) (ib c)
theorem Ixs.fr {w w' : World} {ix bm lo hi : Nat} {l : List Itm} {cs : List Nat} {cb bc : Nat → Nat} {ks : Nat → List Nat} {ib : Nat → Nat → Nat} {S : List Nat} (h : Ixs w ix bm lo hi l cs cb bc ks ib) (hf : Fr S w w') (hS : ∀ k ∈ S, k < lo ∨ hi ≤ k) : Ixs w' ix bm lo hi l cs cb bc ks ib := by
  have hn : ∀ b, lo ≤ b ∧ b < hi → b ∉ S := fun b hb hm => by rcases hS _ hm with h | h <;> omega
  refine ⟨?_, h.topB, h.map.fr hf (hn _ h.mapB), h.mapB, h.nodup, h.mem, fun c hc => ?_⟩
  · obtain ⟨T, hT⟩ := h.top; exact ⟨T, hf.blk hT (hn _ h.topB)⟩
  · obtain ⟨h1, h2, h3⟩ := h.code c hc
    exact ⟨hf.blk h1 (hn _ h2), h2, h3.fr hf hS⟩
theorem Ixs.codes {w : World} {ix bm lo hi : Nat} {l : List Itm} {cs : List Nat} {cb bc : Nat → Nat} {ks : Nat → List Nat} {ib : Nat → Nat → Nat} (h : Ixs w ix bm lo hi l cs cb bc ks ib) {zs : List Nat} (hp : zs.Perm cs) (hs : zs.Pairwise (· ≤ ·)) : zs = codesOf l := by
  have hnd : zs.Nodup := (hp.nodup_iff).2 h.nodup
  refine asc_unique (asc_of hs hnd) (ascOf_asc _) fun x => ?_
  rw [hp.mem_iff, h.mem]
  exact (mem_ascOf _ _).symm
theorem codes_length {w : World} {ix bm lo hi : Nat} {l : List Itm} {cs : List Nat} {cb bc : Nat → Nat} {ks : Nat → List Nat} {ib : Nat → Nat → Nat} (h : Ixs w ix bm lo hi l cs cb bc ks ib) : (codesOf l).length = cs.length ∧ cs.length ≤ l.length := by
  have hp : (codesOf l).Perm cs := by
    refine (List.perm_ext_iff_of_nodup ((ascOf_asc _).imp fun h => by omega) h.nodup).2 fun x => ?_
    rw [h.mem]; exact mem_ascOf _ _
  refine ⟨hp.length_eq, ?_⟩
  rw [← hp.length_eq]
  have := ascOf_length (l.map fun e => e.1.code)
  unfold codesOf
  simpa using this
theorem look_cb {cb : Nat → Nat} {n : Nat} : ∀ {cs : List Nat}, n ∈ cs → (cs.map fun c => (c, Value.pointer (some ⟨cb c, 0, none⟩))).lookup n = some (Value.pointer (some ⟨cb n, 0, none⟩))
  | k :: ks, h => by
    rw [List.map_cons, List.lookup_cons]
    by_cases e : n = k
    · subst e; simp
    · have : (n == k) = false := by simpa using e
      rw [this]
      rcases List.mem_cons.1 h with h | h
      · exact absurd h e
      · exact look_cb h
def mhRel (p base : Nat) (w4 : World) (v4 : Value) (ys4 : List UInt8) (l : List Itm) (ws : List Nat) (k : Nat) (s28 s8 : Value) (wr : World) : Prop :=
  ∃ (j : Nat) (N : Int) (v1 : Value), s28 = .int .i64 j ∧ s8 = .int .u64 N ∧ j + k = ws.length ∧ Wr p base w4 v4 ys4 wr v1 (ys4 ++ (ws.take j).flatMap (codeB l))
theorem ptr_zero (w : World) : (zeroValue 397).run Tryz.prog w = .ok (.pointer none) w := by kernel_rfl
set_option maxRecDepth 1000000 in
set_option maxHeartbeats 12800000 in
theorem mhMarshal {w : World} {p base ix bm lo hi : Nat} {l : List Itm} {cs : List Nat} {cb bc : Nat → Nat} {ks : Nat → List Nat} {ib : Nat → Nat → Nat} {v : Value} {ys : List UInt8} (hBuf : Buf w p base v ys) (hI : Ixs w ix bm lo hi l cs cb bc ks ib)
    (hl : l.length ≤ 50) (hd : ∀ e ∈ l, e.1.dig.length ≤ 200) (hc : ∀ e ∈ l, e.1.code < 9223372036854775808) (hy : ys ≠ []) (hlen : ys.length < 10000000) (hbase : base ≤ w.heap.size) (hp : p < lo) (hv : ∀ k, v.ownBlock = some k → hi ≤ k) (hhi : hi ≤ w.heap.size) (hLen : LenC) :
    Calls Tryz.prog 269 #[.pointer (some ⟨ix, 0, none⟩), BUFI p] w fun e w' => (∃ N : Int, e = .returned (.tuple #[.int .u64 N, .nilIface])) ∧ ∃ v', Wr p base w v ys w' v' (ys ++ idxB l) := by
  obtain ⟨hw1, hw2⟩ := codes_length hI
  obtain ⟨M, hM⟩ : ∃ M, M = cs.map fun c => (c, Value.pointer (some ⟨cb c, 0, none⟩)) := ⟨_, rfl⟩
  have hMl : M.length = cs.length := by rw [hM]; simp
  have hMk : M.map (·.1) = cs := by rw [hM, List.map_map]; simp [Function.comp_def]
  have hIM := hI.map
  rw [← hM] at hIM
  have hlm := hIM.len (P := Tryz.prog) (T := 192) (K := 30) (E := 397) (by kernel_rfl)
  have h32 := write32 (x := M.length) hBuf (by omega) hy (by omega) hbase
  have wU : IntKind.u32.wrap (M.length : Int) = (M.length : Int) := by simp [IntKind.wrap, IntKind.bits, IntKind.signed]; omega
  obtain ⟨T, hT⟩ := hI.top
  have htc := hT.cells
  have hdis : ∀ k ∈ p :: v.ownBlock.toList, k < lo ∨ hi ≤ k := by
    intro k hk
    rcases List.mem_cons.1 hk with rfl | hk
    · exact .inl hp
    · exact .inr (hv k (by simpa using hk))
  have hin : ix ∉ p :: v.ownBlock.toList := fun hm => by have := hI.topB; rcases hdis _ hm with h | h <;> omega
  have hbn : bm ∉ p :: v.ownBlock.toList := fun hm => by have := hI.mapB; rcases hdis _ hm with h | h <;> omega
  have HL := Lib.hid (And.intro hl (And.intro hlen (And.intro hbase (And.intro hhi (And.intro hw1 (And.intro hw2 hMl))))))
  obtain ⟨A, hA⟩ : ∃ Z : List UInt8, Hid (Z = Lib.leBytes 4 M.length) := ⟨_, rfl⟩
  have lA : Hid (A.length = 4) := by show _ = _; rw [hA.out, Lib.leBytes_length]
  rw [← hA.out] at h32
  have hM50 : M.length ≤ 50 := by omega
  have hsc := fun (w1 : World) (hT1 : Blk w1 ix [.map (some bm)] T (0, 0)) (hM1 : Mp w1 bm .u64 M) => sortedCodes hT1 hM1 hM50 hLen
  have HM := Lib.hid (And.intro hM hMk)
  clear hlen hbase hw1 hw2 hM hMk hMl
  go_enter Tryz.func269, Tryz.ntmps269
  go_wp2_with (first
    | go_at_call 275; refine h32.mono ?_; rintro e w1 ⟨rfl, v1, hW1⟩; have hT1 := hW1.fr.blk hT hin; have hM1 := hIM.fr hW1.fr hbn; clear h32 htc hlm
    | go_at_call 276; refine (hsc _ hT1 hM1).mono ?_; rintro e w4 ⟨g, c4, zs, rfl, hg1, hcell, hg4, hz1, hz2, hF4⟩; clear hsc)
  obtain ⟨hM, hMk⟩ := HM.out
  have hzw := hI.codes (by rw [← hMk]; exact hz1) hz2
  have hgp : g ≠ p := by have := hW1.buf.lt; have := HL.out; have := hW1.fr.size; omega
  have hgv : v1.ownBlock ≠ some g := fun e => by have := hW1.buf.ownLt _ e; omega
  have hW4 := hW1.same hF4
  have hI4 := (hI.fr hW1.fr hdis).fr hF4 (by simp)
  have hdis1 : ∀ k ∈ p :: v1.ownBlock.toList, k < lo ∨ hi ≤ k := by
    intro k hk
    rcases List.mem_cons.1 hk with rfl | hk
    · exact .inl hp
    · right
      rcases hW1.own with e | ⟨k', e, h⟩
      · exact hv k (by rw [← e]; simpa using hk)
      · have : v1.ownBlock = some k := by simpa using hk
        rw [this] at e; cases e; omega
  have hws : M.length = zs.length := by rw [hzw]; have := HL.out; omega
  have H4 := Lib.hid (And.intro hcell (And.intro hW4 (And.intro hI4 hzw)))
  clear hcell hW4 hI4 hzw hW1 hT1 hM1 hM hMk hz1 hz2
  go_loopg [28, 8] zs.length (fun k s28 s8 wr => mhRel p base w4 v1 (ys ++ A) l zs k s28 s8 wr)
  case atStart => exact ⟨0, 4, v1, rfl, rfl, by omega, by simpa using Wr.refl H4.out.2.1.buf⟩
  case round =>
    rename World => wq
    obtain ⟨j, N, v5, rfl, rfl, hjk, hW5⟩ := hrel
    obtain ⟨hcell, hW4, hI4, hzw⟩ := H4.out
    by_cases hj : j < zs.length
    · obtain ⟨n, hnE⟩ : ∃ n, n = zs[j] := ⟨_, rfl⟩
      have hnm : n ∈ codesOf l := hzw ▸ hnE ▸ List.getElem_mem hj
      have hnl := (mem_ascOf _ _).1 hnm
      have hnk : n ∈ cs := (hI4.mem n).2 hnl
      have hn2 : n < 9223372036854775808 := by
        obtain ⟨e0, he0, hen⟩ := List.mem_map.1 hnl
        exact hen ▸ hc e0 he0
      have hgn : g ∉ p :: v1.ownBlock.toList := by simp; exact ⟨hgp, hgv⟩
      have hin1 : ix ∉ p :: v1.ownBlock.toList := fun hm => by have := hI4.topB; rcases hdis1 _ hm with h | h <;> omega
      have hc5 := hcell j hj
      rw [← World.cell?_of_block (w := w4) (w' := wq) (hW5.fr.block g hg4 hgn), ← hnE] at hc5
      have hI5 := hI4.fr hW5.fr hdis1
      obtain ⟨T5, hT5⟩ := hI5.top
      have hm5 := hT5.cells
      have hlk := hI5.map.look (P := Tryz.prog) (T := 192) (K := 30) (E := 397) (by kernel_rfl) (by kernel_rfl) ptr_zero n false
      rw [look_cb hnk] at hlk
      simp only [Option.getD_some, Bool.false_eq_true, if_false] at hlk
      obtain ⟨hC5, hcb5, hG5⟩ := hI5.code n hnk
      have hY : (ys ++ A) ++ (zs.take j).flatMap (codeB l) ≠ [] := by simp [hy]
      have hYl : ((ys ++ A) ++ (zs.take j).flatMap (codeB l)).length < 90000000 := by
        have h1 := codesB_length hl hd (zs.take j)
        have h2 : (zs.take j).length ≤ zs.length := by simp; omega
        have h3 := HL.out
        have h4 := lA.out
        have h7 : 520612 * (zs.take j).length ≤ 520612 * 50 := Nat.mul_le_mul (Nat.le_refl _) (by omega)
        simp only [List.length_append]
        omega
      have hbw : base ≤ w4.heap.size := by have := HL.out; have := hW4.fr.size; omega
      have hmc := mwcMarshal hW5.buf hC5 hcb5 hG5 hn2 (Nat.le_trans (ofC_length l n) hl) (fun e he => hd e (List.mem_filter.1 he).1) hY hYl (Nat.le_trans hbw hW5.fr.size) hp (fun k hk => by
        rcases hW5.own with e1 | ⟨k', e1, h⟩
        · rcases hdis1 k (by rw [← e1, hk]; simp) with h | h
          · have := hW5.buf.ownLt k hk; have := hW5.buf.lt
            have hx := hW4.buf.ownLt k (by rw [← e1]; exact hk)
            exact (hdis1 k (by rw [← e1, hk]; simp)).resolve_left (fun h => by
              rcases hW4.own with e2 | ⟨k2, e2, h2⟩
              · have := hv k (by rw [← e2, ← e1]; exact hk); omega
              · rw [← e1, hk] at e2; cases e2; have := HL.out; omega)
          · exact h
        · rw [hk] at e1; cases e1; have := HL.out; have := hW4.fr.size; omega) (by have := HL.out; have := hW4.fr.size; have := hW5.fr.size; omega) hLen
      have hjz : (j : Int) < (M.length : Int) := by omega
      have hj9 : j < 100 := by have := HL.out; omega
      have HB := Lib.hid (And.intro hnE (And.intro hcell (And.intro hW4 (And.intro hI4 hzw))))
      clear hYl hY hnE hnl hnm hcell hW4 hI4 hzw hI5 hC5 hG5 hgn hin1 hws hT5
      go_wp2_with (first
        | go_at_call 277; refine hmc.mono ?_; rintro e w7 ⟨⟨N7, rfl⟩, v7, hW7⟩)
      go_roundg (zs.length - (j + 1))
      case measure => omega
      case rel =>
        obtain ⟨hnE, _⟩ := HB.out
        refine ⟨j + 1, _, v7, by first | (push_cast; rfl) | (rw [wrap64_in (by omega) (by omega)]; push_cast; rfl), rfl, by omega, ?_⟩
        have h1 := hW5.trans hW7
        have e : zs.take (j + 1) = zs.take j ++ [n] := by rw [List.take_succ_eq_append_getElem hj, hnE]
        rw [e, List.flatMap_append, List.flatMap_singleton, ← List.append_assoc]
        exact h1
    · have hjE : j = zs.length := by omega
      have hjz : ¬ (j : Int) < (M.length : Int) := by omega
      go_wp2
      go_ret2
      refine ⟨⟨_, rfl⟩, v5, ?_⟩
      have := hW4.trans hW5
      rw [hjE, List.take_length, hzw] at this
      have e : ys ++ idxB l = (ys ++ A) ++ (codesOf l).flatMap (codeB l) := by
        rw [hA.out]; unfold idxB; have := HL.out; rw [this.2.2.2.2.1, this.2.2.2.2.2.2, List.append_assoc]
      rw [e]; exact this
end Go.Proofs.Wx
