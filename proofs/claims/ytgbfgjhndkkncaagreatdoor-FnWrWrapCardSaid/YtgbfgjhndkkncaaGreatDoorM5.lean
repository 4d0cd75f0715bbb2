import Derived.Test.YtgbfgjhndkkncaaGreatDoorM4
set_option maxRecDepth 100000
set_option maxHeartbeats 1000000
set_option linter.unusedVariables false
set_option linter.unusedSimpArgs false
namespace Go.Proofs.Wx
open Go Go.RowKit
abbrev oDec30 : List (Nat × Cls) := [(0,.look),(1,.free),(2,.free)]
theorem newCell {W : World} {n : Nat} {c : Array Value} {t : TypeId} {v : Value} (e : n = W.heap.size) (h : c[0]? = some v) : (W.alloc (.cells c t)).cell? ⟨n, 0, none⟩ = some v := by
  subst e; rw [World.cell?_alloc_new]; exact h
theorem hlpArr {ea : Addr} {w : World} {d z q r sb sk lf t : Nat} {xs rest : List UInt8} {i k : Nat} {cs : List Value} {n ph : Nat} {cl : List Value} {m : Nat} {fz str bs : Value} {ty len u tag : Nat} {tg : Bool}
    (h : Dec w d z q r sb sk lf xs i cs n ph cl m) (ht : Blk w t (tk fz ty len str bs u tg tag) 264 (0, 0)) (ho : Off t d z q r sb sk lf) (hG : Gl ea w)
    (hx : xs.drop i = exB k ++ rest) (hk : k < 256) (hn : n < 10) (hm : m < 10) :
    Calls Tryz.prog 181 #[.pointer (some ⟨d, 0, none⟩), .int .u8 (4 * 32 + loB k : Nat), .pointer (some ⟨t, 0, none⟩)] w fun e w' =>
      e = .returned (.tuple #[.bool false, .nilIface]) ∧ Dec w' d z q r sb sk lf xs (i + (exB k).length) (cs.set n (.int .u8 ph)) (n + 1) 4 (cl.set m (.int .i64 k)) (m + 1) ∧ Blk w' t (tk fz 91 k str bs u tg tag) 264 (0, 0) ∧ Fr [d, z, q, r, sk, lf, t] w w' := by
  obtain ⟨o1, o2, o3, o4, o5, o6, o7, o8⟩ := ho
  have hge := (⟨h.hs.hs.hr.ge, h.hs.ge⟩ : _ ∧ _)
  have hrd := decodeLen (M := 4) h.hd h.hs hG h.dn.1 h.dn.2.1 h.dn.2.2.1 hx (by omega) hk
  have hlo := loB_le k
  have hm1 : (128 : Int) ≤ ((4 * 32 + loB k : Nat) : Int) := by omega
  have hm2 : ((4 * 32 + loB k : Nat) : Int) ≤ 152 := by omega
  clear hlo hx
  generalize 4 * 32 + loB k = mb at *
  generalize i + (exB k).length = j at *
  obtain ⟨hd, hs, hK, hL, lk, ll, ⟨d1, d2, d3, d4, d5, d6⟩, ⟨s1, s2, s3, s4, s5⟩, ⟨l1, l2, l3, l4⟩, hge2⟩ := h
  have o1' := Ne.symm o1
  have d5' := Ne.symm d5
  have d6' := Ne.symm d6
  have s5' := Ne.symm s5
  have o6' := Ne.symm o6
  have o7' := Ne.symm o7
  have hsl := hK.lt
  have hll := hL.lt
  have hdl := hd.lt
  have htl := ht.lt
  go_enter Tryz.func181, Tryz.ntmps181
  go_wp2_with (first
    | go_at_call 206; refine hrd.mono ?_; rintro e w1 ⟨rfl, hR1, hF1⟩; have hsz := hF1.size; have hT1 := hF1.blk ht (by simp [o2, o3, o4]); have hD1 := hF1.blk hd (by simp [d1, d2, d3]); have hK1 := hF1.blk hK (by simp [s1, s2, s3]); have hL1 := hF1.blk hL (by simp [l1, l2, l3]); have tc1 := hT1.cells; have tf1 := hT1.free; have dc1 := hD1.cells; have df1 := hD1.free
    | (with_reducible refine list_bi .append (fun K hK => ?_);  refine appOne _ _ int_slice int_size _ _ rfl lf m 10 cl (by exact blkP) rfl _ _ _ (.int .i64 k) rfl (newCell (by simp) rfl) rfl (by omega) (by omega) (fun w2 hL2 hF2 => ?_); have hsz2 := hF2.size; have hT2 := hF2.blk (b := t) (by exact blkP) (by simp [o7]); have hD2 := hF2.blk (b := d) (by exact blkP) (by simp [d6]); have hK2 := hF2.blk (b := sk) (by exact blkP) (by simp [s5]); have hR2 := (Slk.fr (S := [t]) (w' := _) hR1 (by exact frP) (by simp [Ne.symm o2]) (by simp [Ne.symm o3]) (by simp [Ne.symm o4]) (by simp [Ne.symm o5])).fr hF2 (by simp [Ne.symm l1]) (by simp [Ne.symm l2]) (by simp [Ne.symm l3]) (by simp [Ne.symm l4]); have hF2' := Fr.trans (S := [d, z, q, r, sk, lf, t]) (w := w) (by exact frP) hF2 (by simp); have dc2 := hD2.cells; have df2 := hD2.free; clear tc1 tf1 dc1 df1)
    | go_at_call 201; refine (pushPhase (ph := ph) (lf := .slice (some ⟨lf, 0, none⟩) (m + 1) 10) (by exact blkP) (by exact blkP) lk hn d5 4).mono ?_; rintro e w3 ⟨rfl, hD3, hK3, hF3⟩
    | (refine wre 66 oDec30 ?_)
    | (refine wre 72 oDec30 ?_)
    | (refine wre 78 oDec30 ?_)
    | (refine wre 84 oDec30 ?_)
    | (refine wre 91 oDec30 ?_)
    | (with_reducible refine wEI ?_; (first | (refine wEN ?_; skip) | (refine wEF rfl (fun K hK => ?_); go_simp) | (refine wEL rfl rfl (fun K hK => ?_); go_simp) | (refine wER rfl (fun K hK => ?_); go_simp) | (refine wEM rfl (fun K hK => ?_); go_simp; try refine ⟨_, _, ⟨rfl, rfl⟩, ?_⟩) | (refine wEG rfl (fun K hK => ?_); go_simp) | (refine wpE_actp rfl rfl (fun K hK => ?_); simp only [List.getElem_toArray, List.getElem_cons_succ, List.getElem_cons_zero]; (first | (with_reducible refine op_bi .append ?_;  refine appOne _ _ int_slice int_size _ _ rfl lf m 10 cl (by exact blkP) rfl _ _ _ (.int .i64 k) rfl (newCell (by simp) rfl) rfl (by omega) (by omega) (fun w2 hL2 hF2 => ?_); have hsz2 := hF2.size; have hT2 := hF2.blk (b := t) (by exact blkP) (by simp [o7]); have hD2 := hF2.blk (b := d) (by exact blkP) (by simp [d6]); have hK2 := hF2.blk (b := sk) (by exact blkP) (by simp [s5]); have hR2 := (Slk.fr (S := [t]) (w' := _) hR1 (by exact frP) (by simp [Ne.symm o2]) (by simp [Ne.symm o3]) (by simp [Ne.symm o4]) (by simp [Ne.symm o5])).fr hF2 (by simp [Ne.symm l1]) (by simp [Ne.symm l2]) (by simp [Ne.symm l3]) (by simp [Ne.symm l4]); have hF2' := Fr.trans (S := [d, z, q, r, sk, lf, t]) (w := w) (by exact frP) hF2 (by simp); have dc2 := hD2.cells; have df2 := hD2.free; clear tc1 tf1 dc1 df1))) | (refine wEA rfl (fun K hK => ?_); go_simp))))
  go_ret2
  have hFd : Fr [d, sk] w2 w3 := Fr.trans (S := [d, sk]) (by exact frP) hF3 (by simp)
  refine ⟨rfl, ⟨hD3, hR2.fr hFd (by simp [Ne.symm d1, Ne.symm s1]) (by simp [Ne.symm d2, Ne.symm s2]) (by simp [Ne.symm d3, Ne.symm s3]) (by simp [Ne.symm d4, Ne.symm s4]), hK3, hFd.blk hL2 (by simp [d6', s5']), by simp [lk], by simp [ll], ⟨d1, d2, d3, d4, d5, d6⟩, ⟨s1, s2, s3, s4, s5⟩, ⟨l1, l2, l3, l4⟩, hge2⟩, hFd.blk (hT2.conv rfl) (by simp [o1, o6]), hF2'.trans hFd (by simp)⟩
theorem hlpMap {ea : Addr} {w : World} {d z q r sb sk lf t : Nat} {xs rest : List UInt8} {i k : Nat} {cs : List Value} {n ph : Nat} {cl : List Value} {m : Nat} {fz str bs : Value} {ty len u tag : Nat} {tg : Bool}
    (h : Dec w d z q r sb sk lf xs i cs n ph cl m) (ht : Blk w t (tk fz ty len str bs u tg tag) 264 (0, 0)) (ho : Off t d z q r sb sk lf) (hG : Gl ea w)
    (hx : xs.drop i = exB k ++ rest) (hk : k < 256) (hn : n < 10) (hm : m < 10) :
    Calls Tryz.prog 181 #[.pointer (some ⟨d, 0, none⟩), .int .u8 (5 * 32 + loB k : Nat), .pointer (some ⟨t, 0, none⟩)] w fun e w' =>
      e = .returned (.tuple #[.bool false, .nilIface]) ∧ Dec w' d z q r sb sk lf xs (i + (exB k).length) (cs.set n (.int .u8 ph)) (n + 1) 5 (cl.set m (.int .i64 k)) (m + 1) ∧ Blk w' t (tk fz 123 k str bs u tg tag) 264 (0, 0) ∧ Fr [d, z, q, r, sk, lf, t] w w' := by
  obtain ⟨o1, o2, o3, o4, o5, o6, o7, o8⟩ := ho
  have hge := (⟨h.hs.hs.hr.ge, h.hs.ge⟩ : _ ∧ _)
  have hrd := decodeLen (M := 5) h.hd h.hs hG h.dn.1 h.dn.2.1 h.dn.2.2.1 hx (by omega) hk
  have hlo := loB_le k
  have hm1 : (160 : Int) ≤ ((5 * 32 + loB k : Nat) : Int) := by omega
  have hm2 : ((5 * 32 + loB k : Nat) : Int) ≤ 184 := by omega
  clear hlo hx
  generalize 5 * 32 + loB k = mb at *
  generalize i + (exB k).length = j at *
  obtain ⟨hd, hs, hK, hL, lk, ll, ⟨d1, d2, d3, d4, d5, d6⟩, ⟨s1, s2, s3, s4, s5⟩, ⟨l1, l2, l3, l4⟩, hge2⟩ := h
  have o1' := Ne.symm o1
  have d5' := Ne.symm d5
  have d6' := Ne.symm d6
  have s5' := Ne.symm s5
  have o6' := Ne.symm o6
  have o7' := Ne.symm o7
  have hsl := hK.lt
  have hll := hL.lt
  have hdl := hd.lt
  have htl := ht.lt
  go_enter Tryz.func181, Tryz.ntmps181
  go_wp2_with (first
    | go_at_call 206; refine hrd.mono ?_; rintro e w1 ⟨rfl, hR1, hF1⟩; have hsz := hF1.size; have hT1 := hF1.blk ht (by simp [o2, o3, o4]); have hD1 := hF1.blk hd (by simp [d1, d2, d3]); have hK1 := hF1.blk hK (by simp [s1, s2, s3]); have hL1 := hF1.blk hL (by simp [l1, l2, l3]); have tc1 := hT1.cells; have tf1 := hT1.free; have dc1 := hD1.cells; have df1 := hD1.free
    | (with_reducible refine list_bi .append (fun K hK => ?_);  refine appOne _ _ int_slice int_size _ _ rfl lf m 10 cl (by exact blkP) rfl _ _ _ (.int .i64 k) rfl (newCell (by simp) rfl) rfl (by omega) (by omega) (fun w2 hL2 hF2 => ?_); have hsz2 := hF2.size; have hT2 := hF2.blk (b := t) (by exact blkP) (by simp [o7]); have hD2 := hF2.blk (b := d) (by exact blkP) (by simp [d6]); have hK2 := hF2.blk (b := sk) (by exact blkP) (by simp [s5]); have hR2 := (Slk.fr (S := [t]) (w' := _) hR1 (by exact frP) (by simp [Ne.symm o2]) (by simp [Ne.symm o3]) (by simp [Ne.symm o4]) (by simp [Ne.symm o5])).fr hF2 (by simp [Ne.symm l1]) (by simp [Ne.symm l2]) (by simp [Ne.symm l3]) (by simp [Ne.symm l4]); have hF2' := Fr.trans (S := [d, z, q, r, sk, lf, t]) (w := w) (by exact frP) hF2 (by simp); have dc2 := hD2.cells; have df2 := hD2.free; clear tc1 tf1 dc1 df1)
    | go_at_call 201; refine (pushPhase (ph := ph) (lf := .slice (some ⟨lf, 0, none⟩) (m + 1) 10) (by exact blkP) (by exact blkP) lk hn d5 5).mono ?_; rintro e w3 ⟨rfl, hD3, hK3, hF3⟩
    | (refine wre 66 oDec30 ?_)
    | (refine wre 72 oDec30 ?_)
    | (refine wre 78 oDec30 ?_)
    | (refine wre 84 oDec30 ?_)
    | (refine wre 91 oDec30 ?_)
    | (with_reducible refine wEI ?_; (first | (refine wEN ?_; skip) | (refine wEF rfl (fun K hK => ?_); go_simp) | (refine wEL rfl rfl (fun K hK => ?_); go_simp) | (refine wER rfl (fun K hK => ?_); go_simp) | (refine wEM rfl (fun K hK => ?_); go_simp; try refine ⟨_, _, ⟨rfl, rfl⟩, ?_⟩) | (refine wEG rfl (fun K hK => ?_); go_simp) | (refine wpE_actp rfl rfl (fun K hK => ?_); simp only [List.getElem_toArray, List.getElem_cons_succ, List.getElem_cons_zero]; (first | (with_reducible refine op_bi .append ?_;  refine appOne _ _ int_slice int_size _ _ rfl lf m 10 cl (by exact blkP) rfl _ _ _ (.int .i64 k) rfl (newCell (by simp) rfl) rfl (by omega) (by omega) (fun w2 hL2 hF2 => ?_); have hsz2 := hF2.size; have hT2 := hF2.blk (b := t) (by exact blkP) (by simp [o7]); have hD2 := hF2.blk (b := d) (by exact blkP) (by simp [d6]); have hK2 := hF2.blk (b := sk) (by exact blkP) (by simp [s5]); have hR2 := (Slk.fr (S := [t]) (w' := _) hR1 (by exact frP) (by simp [Ne.symm o2]) (by simp [Ne.symm o3]) (by simp [Ne.symm o4]) (by simp [Ne.symm o5])).fr hF2 (by simp [Ne.symm l1]) (by simp [Ne.symm l2]) (by simp [Ne.symm l3]) (by simp [Ne.symm l4]); have hF2' := Fr.trans (S := [d, z, q, r, sk, lf, t]) (w := w) (by exact frP) hF2 (by simp); have dc2 := hD2.cells; have df2 := hD2.free; clear tc1 tf1 dc1 df1))) | (refine wEA rfl (fun K hK => ?_); go_simp))))
  go_ret2
  have hFd : Fr [d, sk] w2 w3 := Fr.trans (S := [d, sk]) (by exact frP) hF3 (by simp)
  refine ⟨rfl, ⟨hD3, hR2.fr hFd (by simp [Ne.symm d1, Ne.symm s1]) (by simp [Ne.symm d2, Ne.symm s2]) (by simp [Ne.symm d3, Ne.symm s3]) (by simp [Ne.symm d4, Ne.symm s4]), hK3, hFd.blk hL2 (by simp [d6', s5']), by simp [lk], by simp [ll], ⟨d1, d2, d3, d4, d5, d6⟩, ⟨s1, s2, s3, s4, s5⟩, ⟨l1, l2, l3, l4⟩, hge2⟩, hFd.blk (hT2.conv rfl) (by simp [o1, o6]), hF2'.trans hFd (by simp)⟩
end Go.Proofs.Wx

namespace Go.Proofs.Wx
open Go Go.RowKit
abbrev oDec40 : List (Nat × Cls) := [(0,.look),(1,.free),(2,.free)]
theorem drop_cons {xs rest : List UInt8} {i : Nat} {x : UInt8} (h : xs.drop i = x :: rest) : ∃ hi : i < xs.length, xs[i] = x ∧ xs.drop (i + 1) = rest := by
  have hi : i < xs.length := by
    rcases Nat.lt_or_ge i xs.length with h' | h'
    · exact h'
    · rw [List.drop_eq_nil_of_le h'] at h; cases h
  rw [List.drop_eq_getElem_cons hi] at h
  simp only [List.cons.injEq] at h
  exact ⟨hi, h⟩
theorem hlpTag {ea : Addr} {w : World} {d z q r sb sk lf t : Nat} {xs rest : List UInt8} {i k : Nat} {cs : List Value} {n ph : Nat} {cl : List Value} {m : Nat} {fz str bs : Value} {ty len u tag : Nat}
    (h : Dec w d z q r sb sk lf xs i cs n ph cl m) (ht : Blk w t (tk fz ty len str bs u false tag) 264 (0, 0)) (ho : Off t d z q r sb sk lf) (hG : Gl ea w)
    (hx : xs.drop i = 42 :: UInt8.ofNat (2 * 32 + loB k) :: (exB k ++ rest)) (hk : k < 256) (h0 : 0 < k) (hl : k ≤ rest.length) :
    Calls Tryz.prog 181 #[.pointer (some ⟨d, 0, none⟩), .int .u8 216, .pointer (some ⟨t, 0, none⟩)] w fun e w' =>
      ∃ v b, e = .returned (.tuple #[.bool true, .nilIface]) ∧ Dec w' d z q r sb sk lf xs (i + 2 + (exB k).length + k) cs n ph cl m ∧ w.heap.size ≤ b ∧ Sl w' v b (rest.take k) ∧ Blk w' t (tk fz 120 len str v u true 42) 264 (0, 0) ∧ Fr [z, q, r, t] w w' := by
  have ho' := ho
  obtain ⟨o1, o2, o3, o4, o5, o6, o7, o8⟩ := ho'
  have hge := (⟨h.hs.hs.hr.ge, h.hs.ge⟩ : _ ∧ _)
  have he : exB 42 = [42] := rfl
  have hrd := fun (w' : World) (hf : Fr [t] w w') => decodeLen (M := 6) (n := 42) (rest := UInt8.ofNat (2 * 32 + loB k) :: (exB k ++ rest)) (hf.blk h.hd (by simp [Ne.symm o1])) (h.hs.fr hf (by simp [Ne.symm o2]) (by simp [Ne.symm o3]) (by simp [Ne.symm o4]) (by simp [Ne.symm o5])) (hG.fr hf (by simp; omega)) h.dn.1 h.dn.2.1 h.dn.2.2.1 (by rw [hx, he]; rfl) (by omega) (by omega)
  rw [he, show (6 * 32 + loB 42 : Nat) = 216 from rfl] at hrd
  obtain ⟨hi, hxi, hx1⟩ := drop_cons hx
  obtain ⟨hi1, hxi1, hx2⟩ := drop_cons hx1
  have hlo := loB_le k
  have hb : xs[i + 1].toNat = 2 * 32 + loB k := by rw [hxi1]; simp; omega
  have hrd2 := fun (w' : World) (hs : Slk w' z q r sb xs (i + 1)) (hG : Gl ea w') => slkReadn1 hs hi1 hG
  rw [hb] at hrd2
  have hrd3 := fun (w' : World) (hs : Dec w' d z q r sb sk lf xs (i + 1 + 1) cs n ph cl m) (ht) (hG : Gl ea w') => hlpBytes (fz := fz) (ty := ty) (len := len) (str := str) (bs := bs) (u := u) (tg := true) (tag := 42) hs ht ho hG hx2 hk h0 hl
  clear hx hx1 hx2 hxi hxi1 hb hlo
  rw [show i + 2 + (exB k).length + k = i + 1 + 1 + (exB k).length + k by omega]
  generalize 2 * 32 + loB k = mb at *
  generalize i + 1 + 1 + (exB k).length + k = j at *
  generalize rest.take k = X at *
  have hc := ht.cells
  have hf := ht.free
  go_enter Tryz.func181, Tryz.ntmps181
  go_wp2_with (first
    | go_at_call 206; refine (hrd _ (by exact frP)).mono ?_; rintro e w1 ⟨rfl, hR1, hF1⟩; have hT1 := hF1.blk (b := t) (by exact blkP) (by simp [o2, o3, o4]); have hD1 := (h.fr (S := [t]) (w' := w.setCell ⟨t, 8, none⟩ (.bool true)) (by exact frP) (by simp [o1, o2, o3, o4, o5, o6, o7])).read hR1 hF1; have hc1 := hT1.cells; have hf1 := hT1.free; have dc1 := hD1.hd.cells; have hG1 := hG.fr (Fr.trans (S := [z, q, r, t]) (by exact frP) hF1 (by simp)) (by simp; omega); clear hc hf
    | go_at_call 363; refine (hrd2 _ (hR1.fr (S := [t]) (by exact frP) (by simp [Ne.symm o2]) (by simp [Ne.symm o3]) (by simp [Ne.symm o4]) (by simp [Ne.symm o5])) (hG1.fr (S := [t]) (by exact frP) (by simp; omega))).mono ?_; rintro e w2 ⟨rfl, hR2, hF2⟩; have hD2 := (hD1.fr (S := [t]) (w' := w1.setCell ⟨t, 9, none⟩ (.int .i64 42)) (by exact frP) (by simp [o1, o2, o3, o4, o5, o6, o7])).read hR2 hF2; have hT2 := hF2.blk (b := t) (by exact blkP) (by simp [o2, o3, o4]); have hG2 := (hG1.fr (S := [t]) (by exact frP) (by simp; omega)).fr hF2 (by simp; omega); have hF12 := Fr.trans (S := [z, q, r, t]) (w := w) (Fr.setCell (by simp) (Fr.trans (S := [z, q, r, t]) (by exact frP) hF1 (by simp))) hF2 (by simp)
    | go_at_call 181; refine (hrd3 _ hD2 hT2 hG2).mono ?_; rintro e w3 ⟨v, b, rfl, hD3, hb3, hS3, hT3, hF3⟩
    | (refine wre 66 oDec40 ?_)
    | (refine wre 72 oDec40 ?_)
    | (refine wre 78 oDec40 ?_)
    | (refine wre 84 oDec40 ?_)
    | (refine wre 91 oDec40 ?_)
    | (with_reducible refine wEI ?_; (first | (refine wEN ?_; skip) | (refine wEF rfl (fun K hK => ?_); go_simp) | (refine wEL rfl rfl (fun K hK => ?_); go_simp) | (refine wER rfl (fun K hK => ?_); go_simp) | (refine wEM rfl (fun K hK => ?_); go_simp; try refine ⟨_, _, ⟨rfl, rfl⟩, ?_⟩) | (refine wEG rfl (fun K hK => ?_); go_simp) | (refine wEA rfl (fun K hK => ?_); go_simp))))
  go_ret2
  have hsz := hF12.size
  exact ⟨v, b, rfl, hD3, by omega, hS3, hT3, hF12.trans hF3 (by simp)⟩
end Go.Proofs.Wx

namespace Go.Proofs.Wx
open Go Go.RowKit
section
variable {ea : Addr} {w : World} {d z q r sb sk lf t : Nat} {xs rest : List UInt8} {i k : Nat} {cs : List Value} {n ph : Nat} {cl : List Value} {m : Nat} {fz str bs : Value} {ty len u tag : Nat}
abbrev tk0 (fz : Value) : List Value := tk fz 0 0 (.string ⟨#[]⟩) (.slice none 0 0) 0 false 0
theorem acceptValue (h : Dec w d z q r sb sk lf xs i cs 0 0 cl 0) (ht : Blk w t (tk0 fz) 264 (0, 0)) (ho : Off t d z q r sb sk lf) (hG : Gl ea w)
    (hx : xs.drop i = UInt8.ofNat (5 * 32 + loB k) :: (exB k ++ rest)) (hk : k < 256) :
    Calls Tryz.prog 161 #[.pointer (some ⟨d, 0, none⟩), .pointer (some ⟨t, 0, none⟩)] w fun e w' =>
      e = .returned (.tuple #[.bool false, .nilIface]) ∧ Dec w' d z q r sb sk lf xs (i + 1 + (exB k).length) (cs.set 0 (.int .u8 0)) 1 5 (cl.set 0 (.int .i64 k)) 1 ∧ Blk w' t (tk fz 123 k (.string ⟨#[]⟩) (.slice none 0 0) 0 false 0) 264 (0, 0) ∧ Fr [d, z, q, r, sk, lf, t] w w' := by
  have ho' := ho
  obtain ⟨o1, o2, o3, o4, o5, o6, o7, o8⟩ := ho'
  have hge := (⟨h.hs.hs.hr.ge, h.hs.ge, h.ge⟩ : _ ∧ _ ∧ _)
  obtain ⟨hi, hxi, hx1⟩ := drop_cons hx
  have hlo := loB_le k
  have hb : xs[i].toNat = 5 * 32 + loB k := by rw [hxi]; simp; omega
  have hrd := slkReadn1 h.hs hi hG
  rw [hb] at hrd
  have hhp := fun (w' : World) (hs : Dec w' d z q r sb sk lf xs (i + 1) cs 0 0 cl 0) (ht) (hG : Gl ea w') => hlpMap (fz := fz) (ty := 0) (len := 0) (str := .string ⟨#[]⟩) (bs := .slice none 0 0) (u := 0) (tg := false) (tag := 0) hs ht ho hG hx1 hk (by omega) (by omega)
  clear hx hx1 hxi hb hlo
  generalize 5 * 32 + loB k = mb at *
  have dc := h.hd.cells
  have tc := ht.cells
  have tf := ht.free
  go_enter Tryz.func161, Tryz.ntmps161
  go_wp2_with (first
    | go_at_call 363; refine hrd.mono ?_; rintro e w1 ⟨rfl, hR1, hF1⟩; have hD1 := h.read hR1 hF1; have hT1 := hF1.blk ht (by simp [o2, o3, o4]); have hG1 := hG.fr hF1 (by simp; omega); have tc1 := hT1.cells; have tf1 := hT1.free; clear tc tf dc
    | go_at_call 181; refine (hhp _ (hD1.fr (S := [t]) (by exact frP) (by simp [o1, o2, o3, o4, o5, o6, o7])) (by exact blkP) (hG1.fr (S := [t]) (by exact frP) (by simp; omega))).mono ?_; rintro e w2 ⟨rfl, hD2, hT2, hF2⟩)
  go_ret2
  exact ⟨rfl, hD2, hT2, (Fr.trans (S := [d, z, q, r, sk, lf, t]) (Fr.setCell (by simp) (hF1.mono (by simp))) hF2 (by simp))⟩
theorem acceptMapKey (h : Dec w d z q r sb sk lf xs i cs n 5 (.int .i64 (k + 1 : Nat) :: cl) 1) (ht : Blk w t (tk0 fz) 264 (0, 0)) (ho : Off t d z q r sb sk lf) (hG : Gl ea w)
    (hk : k < 256) {c : Nat} (hx : xs.drop i = UInt8.ofNat (3 * 32 + loB c) :: (exB c ++ rest)) (hc : c < 32) (h0 : 0 < c) (hl : c ≤ rest.length) :
    Calls Tryz.prog 166 #[.pointer (some ⟨d, 0, none⟩), .pointer (some ⟨t, 0, none⟩)] w fun e w' =>
      e = .returned (.tuple #[.bool false, .nilIface]) ∧ Dec w' d z q r sb sk lf xs (i + 1 + (exB c).length + c) cs n 6 (.int .i64 k :: cl) 1 ∧ Blk w' t (tk fz 115 0 (.string ⟨(rest.take c).toArray⟩) (.slice none 0 0) 0 false 0) 264 (0, 0) ∧ Fr [d, z, q, r, sk, lf, t] w w' := by
  have ho' := ho
  obtain ⟨o1, o2, o3, o4, o5, o6, o7, o8⟩ := ho'
  have hge := (⟨h.hs.hs.hr.ge, h.hs.ge, h.ge⟩ : _ ∧ _ ∧ _)
  obtain ⟨hi, hxi, hx1⟩ := drop_cons hx
  have hlo := loB_le c
  have hb : xs[i].toNat = 3 * 32 + loB c := by rw [hxi]; simp; omega
  have hrd := fun (w' : World) (hs : Slk w' z q r sb xs i) (hG : Gl ea w') => slkReadn1 hs hi hG
  rw [hb] at hrd
  have hhp := fun (w' : World) (hs : Dec w' d z q r sb sk lf xs (i + 1) cs n 6 (.int .i64 k :: cl) 1) (ht) (hG : Gl ea w') => hlpString (fz := fz) (ty := 0) (len := 0) (str := .string ⟨#[]⟩) (bs := .slice none 0 0) (u := 0) (tg := false) (tag := 0) hs ht ho hG hx1 hc h0 hl
  clear hx hx1 hxi hb hlo
  generalize 3 * 32 + loB c = mb at *
  generalize i + 1 + (exB c).length + c = j at *
  generalize rest.take c = X at *
  obtain ⟨hd, hs, hK, hL, lk, ll, ⟨d1, d2, d3, d4, d5, d6⟩, ⟨s1, s2, s3, s4, s5⟩, ⟨l1, l2, l3, l4⟩, hge2⟩ := h
  have o1' := Ne.symm o1
  have d6' := Ne.symm d6
  have o7' := Ne.symm o7
  have dc := hd.cells
  have df := hd.free
  have tc := ht.cells
  have tf := ht.free
  have lc := hL.cells
  have lfr := hL.free
  have hk1 : ¬ ((k + 1 : Nat) : Int) = 0 := by omega
  have hk2 : ((k + 1 : Nat) : Int) ≤ 256 := by omega
  go_enter Tryz.func166, Tryz.ntmps166
  go_wp2_with (first
    | go_at_call 363; refine (hrd _ (hs.fr (S := [lf]) (by exact frP) (by simp [Ne.symm l1]) (by simp [Ne.symm l2]) (by simp [Ne.symm l3]) (by simp [Ne.symm l4])) (hG.fr (S := [lf]) (by exact frP) (by simp; omega))).mono ?_; rintro e w1 ⟨rfl, hR1, hF1⟩; have hd1 := hF1.blk (b := d) (by exact blkP) (by simp [d1, d2, d3]); have hT1 := hF1.blk (b := t) (by exact blkP) (by simp [o2, o3, o4]); have hL1 := hF1.blk (b := lf) (Blk.conv (cs := .int .i64 k :: cl) (Blk.set hL) (by simp)) (by simp [l1, l2, l3]); have hK1 := hF1.blk (b := sk) (by exact blkP) (by simp [s1, s2, s3]); have hG1 := hG.fr (Fr.trans (S := [z, q, r, lf]) (by exact frP) hF1 (by simp)) (by simp; omega); have hF1' := Fr.trans (S := [d, z, q, r, sk, lf, t]) (w := w) (by exact frP) hF1 (by simp); have tc1 := hT1.cells; have tf1 := hT1.free; have dc1 := hd1.cells; have df1 := hd1.free; clear tc tf dc df lc lfr
    | go_at_call 181; refine (hhp _ ⟨by exact blkP, hR1.fr (S := [d, t]) (by exact frP) (by simp [Ne.symm d1, Ne.symm o2]) (by simp [Ne.symm d2, Ne.symm o3]) (by simp [Ne.symm d3, Ne.symm o4]) (by simp [Ne.symm d4, Ne.symm o5]), by exact blkP, by exact blkP, lk, ll, ⟨d1, d2, d3, d4, d5, d6⟩, ⟨s1, s2, s3, s4, s5⟩, ⟨l1, l2, l3, l4⟩, hge2⟩ (by exact blkP) (hG1.fr (S := [d, t]) (by exact frP) (by simp; omega))).mono ?_; rintro e w2 ⟨rfl, hD2, hT2, hF2⟩)
  go_ret2
  exact ⟨rfl, hD2, hT2, Fr.trans (S := [d, z, q, r, sk, lf, t]) (by exact frP) hF2 (by simp)⟩
theorem acceptMapClose (h : Dec w d z q r sb sk lf xs i cs n 5 (.int .i64 (0 : Nat) :: cl) 1) (ht : Blk w t (tk0 fz) 264 (0, 0)) (ho : Off t d z q r sb sk lf) :
    Calls Tryz.prog 166 #[.pointer (some ⟨d, 0, none⟩), .pointer (some ⟨t, 0, none⟩)] w fun e w' =>
      e = .returned (.tuple #[.bool true, .nilIface]) ∧ Dec w' d z q r sb sk lf xs i cs n 5 (.int .i64 (0 : Nat) :: cl) 0 ∧ Blk w' t (tk fz 125 0 (.string ⟨#[]⟩) (.slice none 0 0) 0 false 0) 264 (0, 0) ∧ Fr [d, z, q, r, sk, lf, t] w w' := by
  have ho' := ho
  obtain ⟨o1, o2, o3, o4, o5, o6, o7, o8⟩ := ho'
  obtain ⟨hd, hs, hK, hL, lk, ll, ⟨d1, d2, d3, d4, d5, d6⟩, ⟨s1, s2, s3, s4, s5⟩, ⟨l1, l2, l3, l4⟩, hge2⟩ := h
  have o1' := Ne.symm o1
  have d6' := Ne.symm d6
  have o7' := Ne.symm o7
  have dc := hd.cells
  have df := hd.free
  have tc := ht.cells
  have tf := ht.free
  have lc := hL.cells
  go_enter Tryz.func166, Tryz.ntmps166
  go_wp2
  go_ret2
  refine ⟨rfl, ⟨by exact blkP, hs.fr (S := [d, t]) (by exact frP) (by simp [Ne.symm d1, Ne.symm o2]) (by simp [Ne.symm d2, Ne.symm o3]) (by simp [Ne.symm d3, Ne.symm o4]) (by simp [Ne.symm d4, Ne.symm o5]), by exact blkP, by exact blkP, lk, ll, ⟨d1, d2, d3, d4, d5, d6⟩, ⟨s1, s2, s3, s4, s5⟩, ⟨l1, l2, l3, l4⟩, hge2⟩, by exact blkP, by exact frP⟩
theorem acceptArrClose {x : Value} (h : Dec w d z q r sb sk lf xs i cs n 4 (x :: .int .i64 (0 : Nat) :: cl) 2) (ht : Blk w t (tk0 fz) 264 (0, 0)) (ho : Off t d z q r sb sk lf) :
    Calls Tryz.prog 165 #[.pointer (some ⟨d, 0, none⟩), .pointer (some ⟨t, 0, none⟩)] w fun e w' =>
      e = .returned (.tuple #[.bool true, .nilIface]) ∧ Dec w' d z q r sb sk lf xs i cs n 4 (x :: .int .i64 (0 : Nat) :: cl) 1 ∧ Blk w' t (tk fz 93 0 (.string ⟨#[]⟩) (.slice none 0 0) 0 false 0) 264 (0, 0) ∧ Fr [d, z, q, r, sk, lf, t] w w' := by
  have ho' := ho
  obtain ⟨o1, o2, o3, o4, o5, o6, o7, o8⟩ := ho'
  obtain ⟨hd, hs, hK, hL, lk, ll, ⟨d1, d2, d3, d4, d5, d6⟩, ⟨s1, s2, s3, s4, s5⟩, ⟨l1, l2, l3, l4⟩, hge2⟩ := h
  have o1' := Ne.symm o1
  have d6' := Ne.symm d6
  have o7' := Ne.symm o7
  have dc := hd.cells
  have df := hd.free
  have tc := ht.cells
  have tf := ht.free
  have lc := hL.cells
  go_enter Tryz.func165, Tryz.ntmps165
  go_wp2
  go_ret2
  refine ⟨rfl, ⟨by exact blkP, hs.fr (S := [d, t]) (by exact frP) (by simp [Ne.symm d1, Ne.symm o2]) (by simp [Ne.symm d2, Ne.symm o3]) (by simp [Ne.symm d3, Ne.symm o4]) (by simp [Ne.symm d4, Ne.symm o5]), by exact blkP, by exact blkP, lk, ll, ⟨d1, d2, d3, d4, d5, d6⟩, ⟨s1, s2, s3, s4, s5⟩, ⟨l1, l2, l3, l4⟩, hge2⟩, by exact blkP, by exact frP⟩
theorem acceptMapArr (h : Dec w d z q r sb sk lf xs i cs n 6 cl m) (ht : Blk w t (tk0 fz) 264 (0, 0)) (ho : Off t d z q r sb sk lf) (hG : Gl ea w)
    {c : Nat} (hx : xs.drop i = UInt8.ofNat (4 * 32 + loB c) :: (exB c ++ rest)) (hc : c < 256) (hn : n < 10) (hm : m < 10) :
    Calls Tryz.prog 167 #[.pointer (some ⟨d, 0, none⟩), .pointer (some ⟨t, 0, none⟩)] w fun e w' =>
      e = .returned (.tuple #[.bool false, .nilIface]) ∧ Dec w' d z q r sb sk lf xs (i + 1 + (exB c).length) (cs.set n (.int .u8 5)) (n + 1) 4 (cl.set m (.int .i64 c)) (m + 1) ∧ Blk w' t (tk fz 91 c (.string ⟨#[]⟩) (.slice none 0 0) 0 false 0) 264 (0, 0) ∧ Fr [d, z, q, r, sk, lf, t] w w' := by
  have ho' := ho
  obtain ⟨o1, o2, o3, o4, o5, o6, o7, o8⟩ := ho'
  have hge := (⟨h.hs.hs.hr.ge, h.hs.ge, h.ge⟩ : _ ∧ _ ∧ _)
  obtain ⟨hi, hxi, hx1⟩ := drop_cons hx
  have hlo := loB_le c
  have hb : xs[i].toNat = 4 * 32 + loB c := by rw [hxi]; simp; omega
  have hrd := slkReadn1 h.hs hi hG
  rw [hb] at hrd
  have hhp := fun (w' : World) (hs : Dec w' d z q r sb sk lf xs (i + 1) cs n 5 cl m) (ht) (hG : Gl ea w') => hlpArr (fz := fz) (ty := 0) (len := 0) (str := .string ⟨#[]⟩) (bs := .slice none 0 0) (u := 0) (tg := false) (tag := 0) hs ht ho hG hx1 hc hn hm
  clear hx hx1 hxi hb hlo
  generalize 4 * 32 + loB c = mb at *
  generalize i + 1 + (exB c).length = j at *
  obtain ⟨hd, hs, hK, hL, lk, ll, ⟨d1, d2, d3, d4, d5, d6⟩, ⟨s1, s2, s3, s4, s5⟩, ⟨l1, l2, l3, l4⟩, hge2⟩ := h
  have o1' := Ne.symm o1
  have d6' := Ne.symm d6
  have o7' := Ne.symm o7
  have dc := hd.cells
  have df := hd.free
  have tc := ht.cells
  have tf := ht.free
  go_enter Tryz.func167, Tryz.ntmps167
  go_wp2_with (first
    | go_at_call 363; refine hrd.mono ?_; rintro e w1 ⟨rfl, hR1, hF1⟩; have hd1 := hF1.blk hd (by simp [d1, d2, d3]); have hT1 := hF1.blk ht (by simp [o2, o3, o4]); have hL1 := hF1.blk hL (by simp [l1, l2, l3]); have hK1 := hF1.blk hK (by simp [s1, s2, s3]); have hG1 := hG.fr hF1 (by simp; omega); have hF1' := hF1.mono (S' := [d, z, q, r, sk, lf, t]) (by simp); have tc1 := hT1.cells; have tf1 := hT1.free; have dc1 := hd1.cells; have df1 := hd1.free; clear tc tf dc df
    | go_at_call 181; refine (hhp _ ⟨by exact blkP, hR1.fr (S := [d, t]) (by exact frP) (by simp [Ne.symm d1, Ne.symm o2]) (by simp [Ne.symm d2, Ne.symm o3]) (by simp [Ne.symm d3, Ne.symm o4]) (by simp [Ne.symm d4, Ne.symm o5]), by exact blkP, by exact blkP, lk, ll, ⟨d1, d2, d3, d4, d5, d6⟩, ⟨s1, s2, s3, s4, s5⟩, ⟨l1, l2, l3, l4⟩, hge2⟩ (by exact blkP) (hG1.fr (S := [d, t]) (by exact frP) (by simp; omega))).mono ?_; rintro e w2 ⟨rfl, hD2, hT2, hF2⟩)
  go_ret2
  exact ⟨rfl, hD2, hT2, Fr.trans (S := [d, z, q, r, sk, lf, t]) (by exact frP) hF2 (by simp)⟩
theorem acceptMapUint (h : Dec w d z q r sb sk lf xs i cs n 6 cl m) (ht : Blk w t (tk0 fz) 264 (0, 0)) (ho : Off t d z q r sb sk lf) (hG : Gl ea w)
    {c : Nat} (hx : xs.drop i = UInt8.ofNat (0 * 32 + loB c) :: (exB c ++ rest)) (hc : c < 256)  :
    Calls Tryz.prog 167 #[.pointer (some ⟨d, 0, none⟩), .pointer (some ⟨t, 0, none⟩)] w fun e w' =>
      e = .returned (.tuple #[.bool false, .nilIface]) ∧ Dec w' d z q r sb sk lf xs (i + 1 + (exB c).length) cs n 5 cl m ∧ Blk w' t (tk fz 117 0 (.string ⟨#[]⟩) (.slice none 0 0) c false 0) 264 (0, 0) ∧ Fr [d, z, q, r, sk, lf, t] w w' := by
  have ho' := ho
  obtain ⟨o1, o2, o3, o4, o5, o6, o7, o8⟩ := ho'
  have hge := (⟨h.hs.hs.hr.ge, h.hs.ge, h.ge⟩ : _ ∧ _ ∧ _)
  obtain ⟨hi, hxi, hx1⟩ := drop_cons hx
  have hlo := loB_le c
  have hb : xs[i].toNat = 0 * 32 + loB c := by rw [hxi]; simp; omega
  have hrd := slkReadn1 h.hs hi hG
  rw [hb] at hrd
  have hhp := fun (w' : World) (hs : Dec w' d z q r sb sk lf xs (i + 1) cs n 5 cl m) (ht) (hG : Gl ea w') => hlpUint (fz := fz) (ty := 0) (len := 0) (str := .string ⟨#[]⟩) (bs := .slice none 0 0) (u := 0) (tg := false) (tag := 0) hs ht ho hG hx1 hc
  clear hx hx1 hxi hb hlo
  generalize 0 * 32 + loB c = mb at *
  generalize i + 1 + (exB c).length = j at *
  obtain ⟨hd, hs, hK, hL, lk, ll, ⟨d1, d2, d3, d4, d5, d6⟩, ⟨s1, s2, s3, s4, s5⟩, ⟨l1, l2, l3, l4⟩, hge2⟩ := h
  have o1' := Ne.symm o1
  have d6' := Ne.symm d6
  have o7' := Ne.symm o7
  have dc := hd.cells
  have df := hd.free
  have tc := ht.cells
  have tf := ht.free
  go_enter Tryz.func167, Tryz.ntmps167
  go_wp2_with (first
    | go_at_call 363; refine hrd.mono ?_; rintro e w1 ⟨rfl, hR1, hF1⟩; have hd1 := hF1.blk hd (by simp [d1, d2, d3]); have hT1 := hF1.blk ht (by simp [o2, o3, o4]); have hL1 := hF1.blk hL (by simp [l1, l2, l3]); have hK1 := hF1.blk hK (by simp [s1, s2, s3]); have hG1 := hG.fr hF1 (by simp; omega); have hF1' := hF1.mono (S' := [d, z, q, r, sk, lf, t]) (by simp); have tc1 := hT1.cells; have tf1 := hT1.free; have dc1 := hd1.cells; have df1 := hd1.free; clear tc tf dc df
    | go_at_call 181; refine (hhp _ ⟨by exact blkP, hR1.fr (S := [d, t]) (by exact frP) (by simp [Ne.symm d1, Ne.symm o2]) (by simp [Ne.symm d2, Ne.symm o3]) (by simp [Ne.symm d3, Ne.symm o4]) (by simp [Ne.symm d4, Ne.symm o5]), by exact blkP, by exact blkP, lk, ll, ⟨d1, d2, d3, d4, d5, d6⟩, ⟨s1, s2, s3, s4, s5⟩, ⟨l1, l2, l3, l4⟩, hge2⟩ (by exact blkP) (hG1.fr (S := [d, t]) (by exact frP) (by simp; omega))).mono ?_; rintro e w2 ⟨rfl, hD2, hT2, hF2⟩)
  go_ret2
  exact ⟨rfl, hD2, hT2, Fr.trans (S := [d, z, q, r, sk, lf, t]) (by exact frP) hF2 (by simp)⟩
theorem acceptArrBytes {x : Value} (h : Dec w d z q r sb sk lf xs i cs n 4 (x :: .int .i64 (k + 1 : Nat) :: cl) 2) (ht : Blk w t (tk0 fz) 264 (0, 0)) (ho : Off t d z q r sb sk lf) (hG : Gl ea w)
    (hk : k < 256) {c : Nat} (hx : xs.drop i = 216 :: 42 :: UInt8.ofNat (2 * 32 + loB c) :: (exB c ++ rest)) (hc : c < 256) (h0 : 0 < c) (hl : c ≤ rest.length) :
    Calls Tryz.prog 165 #[.pointer (some ⟨d, 0, none⟩), .pointer (some ⟨t, 0, none⟩)] w fun e w' =>
      ∃ v b, e = .returned (.tuple #[.bool false, .nilIface]) ∧ Dec w' d z q r sb sk lf xs (i + 3 + (exB c).length + c) cs n 4 (x :: .int .i64 k :: cl) 2 ∧ w.heap.size ≤ b ∧ Sl w' v b (rest.take c) ∧ Blk w' t (tk fz 120 0 (.string ⟨#[]⟩) v 0 true 42) 264 (0, 0) ∧ Fr [d, z, q, r, sk, lf, t] w w' := by
  have ho' := ho
  obtain ⟨o1, o2, o3, o4, o5, o6, o7, o8⟩ := ho'
  have hge := (⟨h.hs.hs.hr.ge, h.hs.ge, h.ge⟩ : _ ∧ _ ∧ _)
  obtain ⟨hi, hxi, hx1⟩ := drop_cons hx
  have hb : xs[i].toNat = 216 := by rw [hxi]; rfl
  have hrd := fun (w' : World) (hs : Slk w' z q r sb xs i) (hG : Gl ea w') => slkReadn1 hs hi hG
  rw [hb] at hrd
  have hhp := fun (w' : World) (hs : Dec w' d z q r sb sk lf xs (i + 1) cs n 4 (x :: .int .i64 k :: cl) 2) (ht) (hG : Gl ea w') => hlpTag (fz := fz) (ty := 0) (len := 0) (str := .string ⟨#[]⟩) (bs := .slice none 0 0) (u := 0) (tag := 0) hs ht ho hG hx1 hc h0 hl
  clear hx hx1 hxi hb
  rw [show i + 3 + (exB c).length + c = i + 1 + 2 + (exB c).length + c by omega]
  generalize i + 1 + 2 + (exB c).length + c = j at *
  generalize rest.take c = X at *
  obtain ⟨hd, hs, hK, hL, lk, ll, ⟨d1, d2, d3, d4, d5, d6⟩, ⟨s1, s2, s3, s4, s5⟩, ⟨l1, l2, l3, l4⟩, hge2⟩ := h
  have o1' := Ne.symm o1
  have d6' := Ne.symm d6
  have o7' := Ne.symm o7
  have dc := hd.cells
  have df := hd.free
  have tc := ht.cells
  have tf := ht.free
  have lc := hL.cells
  have lfr := hL.free
  have hk1 : ¬ ((k + 1 : Nat) : Int) = 0 := by omega
  have hk2 : ((k + 1 : Nat) : Int) ≤ 256 := by omega
  go_enter Tryz.func165, Tryz.ntmps165
  go_wp2_with (first
    | go_at_call 363; refine (hrd _ (hs.fr (S := [lf]) (by exact frP) (by simp [Ne.symm l1]) (by simp [Ne.symm l2]) (by simp [Ne.symm l3]) (by simp [Ne.symm l4])) (hG.fr (S := [lf]) (by exact frP) (by simp; omega))).mono ?_; rintro e w1 ⟨rfl, hR1, hF1⟩; have hd1 := hF1.blk (b := d) (by exact blkP) (by simp [d1, d2, d3]); have hT1 := hF1.blk (b := t) (by exact blkP) (by simp [o2, o3, o4]); have hL1 := hF1.blk (b := lf) (Blk.conv (cs := x :: .int .i64 k :: cl) (Blk.set hL) (by simp)) (by simp [l1, l2, l3]); have hK1 := hF1.blk (b := sk) (by exact blkP) (by simp [s1, s2, s3]); have hG1 := hG.fr (Fr.trans (S := [z, q, r, lf]) (by exact frP) hF1 (by simp)) (by simp; omega); have hF1' := Fr.trans (S := [d, z, q, r, sk, lf, t]) (w := w) (by exact frP) hF1 (by simp); have tc1 := hT1.cells; have tf1 := hT1.free; have dc1 := hd1.cells; have df1 := hd1.free; clear tc tf dc df lc lfr
    | go_at_call 181; refine (hhp _ ⟨by exact blkP, hR1.fr (S := [t]) (by exact frP) (by simp [Ne.symm o2]) (by simp [Ne.symm o3]) (by simp [Ne.symm o4]) (by simp [Ne.symm o5]), by exact blkP, by exact blkP, lk, ll, ⟨d1, d2, d3, d4, d5, d6⟩, ⟨s1, s2, s3, s4, s5⟩, ⟨l1, l2, l3, l4⟩, hge2⟩ (by exact blkP) (hG1.fr (S := [t]) (by exact frP) (by simp; omega))).mono ?_; rintro e w2 ⟨v, b, rfl, hD2, hb2, hS2, hT2, hF2⟩)
  go_ret2
  have hsz := hF1'.size
  exact ⟨v, b, rfl, hD2, by simp at hb2; omega, hS2, hT2, Fr.trans (S := [d, z, q, r, sk, lf, t]) (by exact frP) hF2 (by simp)⟩
end
end Go.Proofs.Wx

namespace Go.Proofs.Wx
open Go Go.RowKit
section
variable {ea : Addr} {w : World} {d z q r sb sk lf t : Nat} {xs rest : List UInt8} {i k : Nat} {cs : List Value} {n ph : Nat} {cl : List Value} {m : Nat} {fz str bs : Value} {ty len u tag : Nat}
theorem step0 {R : World → Prop} {st lfv : Value} (hD : DB w d z st 0 lfv) (hc : Calls Tryz.prog 161 #[.pointer (some ⟨d, 0, none⟩), .pointer (some ⟨t, 0, none⟩)] w fun e w' => e = .returned (.tuple #[.bool false, .nilIface]) ∧ R w') :
    Calls Tryz.prog 130 #[.pointer (some ⟨d, 0, none⟩), .pointer (some ⟨t, 0, none⟩)] w fun e w' => e = .returned (.tuple #[.bool false, .nilIface]) ∧ R w' := by
  have dc := hD.cells
  go_enter Tryz.func130, Tryz.ntmps130
  go_wp2_with (first
    | go_at_call 161; refine hc.mono ?_; rintro e w1 ⟨rfl, hR1⟩)
  go_ret2
  exact ⟨rfl, hR1⟩
theorem step4 {R : World → Prop} {st lfv : Value} (hD : DB w d z st 4 lfv) (hc : Calls Tryz.prog 165 #[.pointer (some ⟨d, 0, none⟩), .pointer (some ⟨t, 0, none⟩)] w fun e w' => e = .returned (.tuple #[.bool false, .nilIface]) ∧ R w') :
    Calls Tryz.prog 130 #[.pointer (some ⟨d, 0, none⟩), .pointer (some ⟨t, 0, none⟩)] w fun e w' => e = .returned (.tuple #[.bool false, .nilIface]) ∧ R w' := by
  have dc := hD.cells
  go_enter Tryz.func130, Tryz.ntmps130
  go_wp2_with (first
    | go_at_call 165; refine hc.mono ?_; rintro e w1 ⟨rfl, hR1⟩)
  go_ret2
  exact ⟨rfl, hR1⟩
theorem step5 {R : World → Prop} {st lfv : Value} (hD : DB w d z st 5 lfv) (hc : Calls Tryz.prog 166 #[.pointer (some ⟨d, 0, none⟩), .pointer (some ⟨t, 0, none⟩)] w fun e w' => e = .returned (.tuple #[.bool false, .nilIface]) ∧ R w') :
    Calls Tryz.prog 130 #[.pointer (some ⟨d, 0, none⟩), .pointer (some ⟨t, 0, none⟩)] w fun e w' => e = .returned (.tuple #[.bool false, .nilIface]) ∧ R w' := by
  have dc := hD.cells
  go_enter Tryz.func130, Tryz.ntmps130
  go_wp2_with (first
    | go_at_call 166; refine hc.mono ?_; rintro e w1 ⟨rfl, hR1⟩)
  go_ret2
  exact ⟨rfl, hR1⟩
theorem step6 {R : World → Prop} {st lfv : Value} (hD : DB w d z st 6 lfv) (hc : Calls Tryz.prog 167 #[.pointer (some ⟨d, 0, none⟩), .pointer (some ⟨t, 0, none⟩)] w fun e w' => e = .returned (.tuple #[.bool false, .nilIface]) ∧ R w') :
    Calls Tryz.prog 130 #[.pointer (some ⟨d, 0, none⟩), .pointer (some ⟨t, 0, none⟩)] w fun e w' => e = .returned (.tuple #[.bool false, .nilIface]) ∧ R w' := by
  have dc := hD.cells
  go_enter Tryz.func130, Tryz.ntmps130
  go_wp2_with (first
    | go_at_call 167; refine hc.mono ?_; rintro e w1 ⟨rfl, hR1⟩)
  go_ret2
  exact ⟨rfl, hR1⟩
/-- An array's end: the phase below it comes back. -/
theorem stepArrClose {x : Value} {p : Nat} {y : Value} (h : Dec w d z q r sb sk lf xs i (y :: .int .u8 p :: cs) 2 4 (x :: .int .i64 (0 : Nat) :: cl) 2) (ht : Blk w t (tk0 fz) 264 (0, 0)) (ho : Off t d z q r sb sk lf) :
    Calls Tryz.prog 130 #[.pointer (some ⟨d, 0, none⟩), .pointer (some ⟨t, 0, none⟩)] w fun e w' => e = .returned (.tuple #[.bool false, .nilIface]) ∧
      Dec w' d z q r sb sk lf xs i (y :: .int .u8 p :: cs) 1 p (x :: .int .i64 (0 : Nat) :: cl) 1 ∧ Blk w' t (tk fz 93 0 (.string ⟨#[]⟩) (.slice none 0 0) 0 false 0) 264 (0, 0) ∧ Fr [d, z, q, r, sk, lf, t] w w' := by
  have ho' := ho
  obtain ⟨o1, o2, o3, o4, o5, o6, o7, o8⟩ := ho'
  have dc := h.hd.cells
  have hc := acceptArrClose h ht ho
  clear h
  go_enter Tryz.func130, Tryz.ntmps130
  go_wp2_with (first
    | go_at_call 165; refine hc.mono ?_; rintro e w1 ⟨rfl, ⟨hd, hs, hK, hL, lk, ll, ⟨d1, d2, d3, d4, d5, d6⟩, hsn, hln, hge2⟩, hT1, hF1⟩; have dc1 := hd.cells; have df1 := hd.free; have kc1 := hK.cells; clear dc; have d5' := Ne.symm d5)
  go_ret2
  refine ⟨rfl, ⟨by exact blkP, hs.fr (S := [d]) (by exact frP) (by simp [Ne.symm d1]) (by simp [Ne.symm d2]) (by simp [Ne.symm d3]) (by simp [Ne.symm d4]), by exact blkP, by exact blkP, lk, ll, ⟨d1, d2, d3, d4, d5, d6⟩, hsn, hln, hge2⟩, by exact blkP, by exact frP⟩
/-- The map's end: the decoder is done. -/
theorem stepMapClose (h : Dec w d z q r sb sk lf xs i cs 1 5 (.int .i64 (0 : Nat) :: cl) 1) (ht : Blk w t (tk0 fz) 264 (0, 0)) (ho : Off t d z q r sb sk lf) :
    Calls Tryz.prog 130 #[.pointer (some ⟨d, 0, none⟩), .pointer (some ⟨t, 0, none⟩)] w fun e w' => e = .returned (.tuple #[.bool true, .nilIface]) ∧
      Blk w' t (tk fz 125 0 (.string ⟨#[]⟩) (.slice none 0 0) 0 false 0) 264 (0, 0) ∧ Fr [d, z, q, r, sk, lf, t] w w' := by
  have dc := h.hd.cells
  have hc := acceptMapClose h ht ho
  clear h
  go_enter Tryz.func130, Tryz.ntmps130
  go_wp2_with (first
    | go_at_call 166; refine hc.mono ?_; rintro e w1 ⟨rfl, hD1, hT1, hF1⟩; have dc1 := hD1.hd.cells; clear dc)
  go_ret2
  exact ⟨rfl, hT1, hF1⟩
/-- The steps as a header needs them. -/
theorem stepMapOpen (h : Dec w d z q r sb sk lf xs i cs 0 0 cl 0) (ht : Blk w t (tk0 fz) 264 (0, 0)) (ho : Off t d z q r sb sk lf) (hG : Gl ea w) (hx : xs.drop i = hdB 5 k ++ rest) (hk : k < 256) :
    Calls Tryz.prog 130 #[.pointer (some ⟨d, 0, none⟩), .pointer (some ⟨t, 0, none⟩)] w fun e w' => e = .returned (.tuple #[.bool false, .nilIface]) ∧
      Dec w' d z q r sb sk lf xs (i + (hdB 5 k).length) (cs.set 0 (.int .u8 0)) 1 5 (cl.set 0 (.int .i64 k)) 1 ∧ Blk w' t (tk fz 123 k (.string ⟨#[]⟩) (.slice none 0 0) 0 false 0) 264 (0, 0) ∧ Fr [d, z, q, r, sk, lf, t] w w' := by
  have := step0 h.hd (acceptValue h ht ho hG (k := k) (rest := rest) (by rw [hx, hdB_eq]; rfl) hk)
  rwa [show i + 1 + (exB k).length = i + (hdB 5 k).length by rw [hdB_eq]; simp; omega] at this
theorem stepKey (h : Dec w d z q r sb sk lf xs i cs n 5 (.int .i64 (k + 1 : Nat) :: cl) 1) (ht : Blk w t (tk0 fz) 264 (0, 0)) (ho : Off t d z q r sb sk lf) (hG : Gl ea w) (hk : k < 256)
    {s : List UInt8} (hx : xs.drop i = hdB 3 s.length ++ (s ++ rest)) (hc : s.length < 32) (h0 : 0 < s.length) :
    Calls Tryz.prog 130 #[.pointer (some ⟨d, 0, none⟩), .pointer (some ⟨t, 0, none⟩)] w fun e w' => e = .returned (.tuple #[.bool false, .nilIface]) ∧
      Dec w' d z q r sb sk lf xs (i + (hdB 3 s.length).length + s.length) cs n 6 (.int .i64 k :: cl) 1 ∧ Blk w' t (tk fz 115 0 (.string ⟨s.toArray⟩) (.slice none 0 0) 0 false 0) 264 (0, 0) ∧ Fr [d, z, q, r, sk, lf, t] w w' := by
  have := step5 h.hd (acceptMapKey h ht ho hG hk (c := s.length) (rest := s ++ rest) (by rw [hx, hdB_eq]; rfl) hc h0 (by simp))
  rw [List.take_left] at this
  rwa [show i + 1 + (exB s.length).length = i + (hdB 3 s.length).length by rw [hdB_eq]; simp; omega] at this
theorem stepArrOpen (h : Dec w d z q r sb sk lf xs i cs n 6 cl m) (ht : Blk w t (tk0 fz) 264 (0, 0)) (ho : Off t d z q r sb sk lf) (hG : Gl ea w) (hx : xs.drop i = hdB 4 k ++ rest) (hk : k < 256) (hn : n < 10) (hm : m < 10) :
    Calls Tryz.prog 130 #[.pointer (some ⟨d, 0, none⟩), .pointer (some ⟨t, 0, none⟩)] w fun e w' => e = .returned (.tuple #[.bool false, .nilIface]) ∧
      Dec w' d z q r sb sk lf xs (i + (hdB 4 k).length) (cs.set n (.int .u8 5)) (n + 1) 4 (cl.set m (.int .i64 k)) (m + 1) ∧ Blk w' t (tk fz 91 k (.string ⟨#[]⟩) (.slice none 0 0) 0 false 0) 264 (0, 0) ∧ Fr [d, z, q, r, sk, lf, t] w w' := by
  have := step6 h.hd (acceptMapArr h ht ho hG (c := k) (rest := rest) (by rw [hx, hdB_eq]; rfl) hk hn hm)
  rwa [show i + 1 + (exB k).length = i + (hdB 4 k).length by rw [hdB_eq]; simp; omega] at this
theorem stepUint (h : Dec w d z q r sb sk lf xs i cs n 6 cl m) (ht : Blk w t (tk0 fz) 264 (0, 0)) (ho : Off t d z q r sb sk lf) (hG : Gl ea w) (hx : xs.drop i = hdB 0 k ++ rest) (hk : k < 256) :
    Calls Tryz.prog 130 #[.pointer (some ⟨d, 0, none⟩), .pointer (some ⟨t, 0, none⟩)] w fun e w' => e = .returned (.tuple #[.bool false, .nilIface]) ∧
      Dec w' d z q r sb sk lf xs (i + (hdB 0 k).length) cs n 5 cl m ∧ Blk w' t (tk fz 117 0 (.string ⟨#[]⟩) (.slice none 0 0) k false 0) 264 (0, 0) ∧ Fr [d, z, q, r, sk, lf, t] w w' := by
  have := step6 h.hd (acceptMapUint h ht ho hG (c := k) (rest := rest) (by rw [hx, hdB_eq]; rfl) hk)
  rwa [show i + 1 + (exB k).length = i + (hdB 0 k).length by rw [hdB_eq]; simp; omega] at this
theorem stepBytes {x : Value} (h : Dec w d z q r sb sk lf xs i cs n 4 (x :: .int .i64 (k + 1 : Nat) :: cl) 2) (ht : Blk w t (tk0 fz) 264 (0, 0)) (ho : Off t d z q r sb sk lf) (hG : Gl ea w)
    (hk : k < 256) {s : List UInt8} (hx : xs.drop i = hdB 6 42 ++ (hdB 2 s.length ++ (s ++ rest))) (hc : s.length < 256) (h0 : 0 < s.length) :
    Calls Tryz.prog 130 #[.pointer (some ⟨d, 0, none⟩), .pointer (some ⟨t, 0, none⟩)] w fun e w' => e = .returned (.tuple #[.bool false, .nilIface]) ∧
      ∃ v b, Dec w' d z q r sb sk lf xs (i + (hdB 6 42).length + (hdB 2 s.length).length + s.length) cs n 4 (x :: .int .i64 k :: cl) 2 ∧ w.heap.size ≤ b ∧ Sl w' v b s ∧ Blk w' t (tk fz 120 0 (.string ⟨#[]⟩) v 0 true 42) 264 (0, 0) ∧ Fr [d, z, q, r, sk, lf, t] w w' := by
  have := step4 (R := fun w' => ∃ v b, Dec w' d z q r sb sk lf xs (i + (hdB 6 42).length + (hdB 2 s.length).length + s.length) cs n 4 (x :: .int .i64 k :: cl) 2 ∧ w.heap.size ≤ b ∧ Sl w' v b s ∧ Blk w' t (tk fz 120 0 (.string ⟨#[]⟩) v 0 true 42) 264 (0, 0) ∧ Fr [d, z, q, r, sk, lf, t] w w') h.hd
    ((acceptArrBytes h ht ho hG hk (c := s.length) (rest := s ++ rest) (by rw [hx, hdB_eq 2]; rfl) hc h0 (by simp)).mono (by
      rintro e w' ⟨v, b, rfl, h1, h2, h3, h4⟩
      rw [List.take_left] at h3
      rw [show i + 3 + (exB s.length).length + s.length = i + (hdB 6 42).length + (hdB 2 s.length).length + s.length by rw [hdB_eq 2, show (hdB 6 42).length = 2 from rfl]; simp; omega] at h1
      exact ⟨rfl, v, b, h1, h2, h3, h4⟩))
  exact this
end
end Go.Proofs.Wx
