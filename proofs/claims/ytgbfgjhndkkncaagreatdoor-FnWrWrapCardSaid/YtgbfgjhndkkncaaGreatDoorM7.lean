import Derived.Test.YtgbfgjhndkkncaaGreatDoorM5
import Derived.Test.YtgbfgjhndkkncaaGreatDoorM6
import Derived.Deep.LoopGhost
set_option maxRecDepth 100000
set_option maxHeartbeats 1000000
set_option linter.unusedVariables false
set_option linter.unusedSimpArgs false
namespace Go.Proofs.Wx
open Go Go.RowKit
abbrev oHdr0 : List (Nat × Cls) := [(0,.free),(1,.free),(2,.free),(3,.free),(4,.look),(5,.look),(6,.make),(7,.act),(8,.free),(9,.free),(10,.act)]
theorem cid_slice : Tryz.prog.underlying 142 = some (.slice 149) := by kernel_rfl
theorem cid_info : (Tryz.prog.info? 149).map (fun i => (i.zero, i.size, i.bytes)) = some (some (.agg #[.string ⟨#[]⟩]), 1, 16) := by kernel_rfl
theorem make_cid (w : World) : (Instr.makeSlice 142 (.int .i64 0) (.int .i64 0)).run Tryz.prog w = .ok (.slice (some ⟨w.heap.size, 0, none⟩) 0 0) (w.alloc (.cells #[] 149 (0, 0))) := by
  obtain ⟨i, hi, hz, hs, hby⟩ := info_parts cid_info
  have hr := run_make (P := Tryz.prog) w _ _ i (.agg #[.string ⟨#[]⟩]) cid_slice hi hz .i64 .i64 0 0 (by omega) (by omega) (by rw [hby]; omega) (by omega)
  rw [hs] at hr
  have e : madeCells (Value.agg #[.string ⟨#[]⟩]).cells (0 * 1) = #[] := by simp [madeCells]
  simp only [Int.toNat_zero, e] at hr
  simpa [e] using hr
theorem own_made {base n : Nat} {w : World} {T : TypeId} {size : Nat} (hb : base ≤ w.heap.size) (hn : n = w.heap.size) : (w.alloc (.cells #[] T (0, 0))).ownsRow base T size (.slice (some ⟨n, 0, none⟩) 0 0) 0 [] := by
  subst hn
  exact ⟨by simp, .inr ⟨w.heap.size, 0, #[], rfl, hb, by show (w.heap.push _)[w.heap.size]? = _; simp, Nat.le_refl _, by unfold maxLen; omega, by simp, by simp⟩⟩
abbrev FZ : Value := .float .f64 0
theorem rootsB_append (l l2 : List CidM) : rootsB (l ++ l2) = rootsB l ++ rootsB l2 := by simp [rootsB]
theorem rootsB_cons (c : CidM) (l : List CidM) : rootsB (c :: l) = linkB c ++ rootsB l := by simp [rootsB]
def rtRel (w : World) (d z q r sb sk lf hb T : Nat) (xs rest : List UInt8) (i1 : Nat) (y x : Value) (cs cl : List Value) (ver : Nat) (l : List CidM) (base k : Nat) (wr : World) : Prop :=
  ∃ l1 l2 v vs ty len str bs u tg tag, l = l1 ++ l2 ∧ l2.length = k ∧ xs.drop (i1 + (rootsB l1).length) = rootsB l2 ++ rest ∧
    Dec wr d z q r sb sk lf xs (i1 + (rootsB l1).length) (y :: .int .u8 5 :: cs) 2 4 (x :: .int .i64 k :: cl) 2 ∧ Blk wr T (tk FZ ty len str bs u tg tag) 264 (0, 0) ∧
    wr.ownsRow base 149 1 v l1.length vs ∧ Blk wr hb [v, .int .u64 ver] 144 (0, 0) ∧ Fr [d, z, q, r, sk, lf, hb] w wr
theorem sl_cons {w : World} {v : Value} {b : Nat} {x : UInt8} {xs : List UInt8} (h : Sl w v b (x :: xs)) (h0 : 1 ≤ xs.length) :
    ∃ o c, v = .slice (some ⟨b, o, none⟩) (xs.length + 1) c ∧ w.cell? ⟨b, o, none⟩ = some (.int .u8 (x.toNat : Nat)) ∧ ¬ c = 1 ∧ xs.length + 1 ≤ c ∧ c ≤ 9223372036854775807 ∧ xs.length < 1000000000000 ∧ Sl w (.slice (some ⟨b, o + 1, none⟩) xs.length (c - 1)) b xs := by
  obtain ⟨o, c, rfl, h1, h2, hB⟩ := h
  have h3 := hB.cell 0 (by simp)
  have h4 := hB.drop 1
  simp only [List.length_cons] at h1 h2
  exact ⟨o, c, rfl, by simpa using h3, by omega, h1, h2.2, by omega, Sl.mk (by simpa using h4) (by omega) (by omega) rfl⟩
theorem own_slice {base : Nat} {w : World} {T : TypeId} {size : Nat} {v : Value} {n : Nat} {xs : List Value} (h : w.ownsRow base T size v n xs) : ∃ a c, v = .slice a n c := by
  rcases h.2 with ⟨rfl, rfl⟩ | ⟨g, cap, cur, rfl, _⟩
  · exact ⟨_, _, rfl⟩
  · exact ⟨_, _, rfl⟩
theorem newOne {W : World} {n : Nat} {t : TypeId} {v : Value} (e : n = W.heap.size) : ∀ j u, [v][j]? = some u → (W.alloc (.cells #[v] t)).cell? ((⟨n, 0, none⟩ : Addr).add j) = some u := by
  intro j u hu
  subst e
  cases j with
  | zero => simp at hu; subst hu; rw [Addr.add_lit]; exact World.cell?_alloc_new _ _ _ 0
  | succ j => simp at hu
theorem zzDecodeRoots {ea : Addr} {w : World} {d z q r sb sk lf hb : Nat} {xs rest : List UInt8} {i : Nat} {y c0 x l0 : Value} {cs cl : List Value} {hv : Value} {ver : Nat} {l : List CidM}
    (hD : Dec w d z q r sb sk lf xs i (y :: c0 :: cs) 1 6 (x :: l0 :: cl) 1) (hH : Blk w hb [hv, .int .u64 ver] 144 (0, 0)) (ho : Off hb d z q r sb sk lf) (hG : Gl ea w)
    (hx : xs.drop i = hdB 4 l.length ++ (rootsB l ++ rest)) (hl : l.length ≤ 50) (hok : ∀ c ∈ l, c.Ok) :
    Calls Tryz.prog 131 #[.pointer (some ⟨d, 0, none⟩), .pointer (some ⟨hb, 0, none⟩)] w fun e w' =>
      ∃ hv' cs' cl', e = .returned .nilIface ∧ Dec w' d z q r sb sk lf xs (i + (hdB 4 l.length).length + (rootsB l).length) (y :: cs') 1 5 (x :: cl') 1 ∧ Blk w' hb [hv', .int .u64 ver] 144 (0, 0) ∧ Fr [d, z, q, r, sk, lf, hb] w w' := by
  have hlt : d < w.heap.size ∧ z < w.heap.size ∧ q < w.heap.size ∧ r < w.heap.size ∧ sb < w.heap.size ∧ sk < w.heap.size ∧ lf < w.heap.size := by
    obtain ⟨h1, ⟨⟨scr, _, hB⟩, ⟨⟨a, b, c, hb, _⟩, hr, _⟩, _⟩, h3, h4, _⟩ := hD
    exact ⟨h1.lt, hB.lt, hb.lt, hr.lt.1, hr.lt.2, h3.lt, h4.lt⟩
  have hhl := hH.lt
  have hgs := hG.size
  have hgeD := (⟨hD.hs.hs.hr.ge, hD.hs.ge, hD.ge⟩ : _ ∧ _ ∧ _)
  have ho' := ho
  obtain ⟨o1, o2, o3, o4, o5, o6, o7, o8⟩ := ho'
  have hoT : Off w.heap.size d z q r sb sk lf := by unfold Off; omega
  have hTh : w.heap.size ≠ hb := by omega
  have hS1 := fun (w' : World) (hD : Dec w' d z q r sb sk lf xs i (y :: c0 :: cs) 1 6 (x :: l0 :: cl) 1) (ht) (hG : Gl ea w') => stepArrOpen (fz := FZ) hD ht hoT hG hx (by omega) (by omega) (by omega)
  have hdr1 : xs.drop (i + (hdB 4 l.length).length) = rootsB l ++ rest := by rw [← List.drop_drop, hx]; simp
  have hfin : ∀ i1, i1 = i + (hdB 4 l.length).length → i + (hdB 4 l.length).length + (rootsB l).length = i1 + (rootsB l).length := fun i1 hb => by rw [hb]
  clear hx
  generalize i + (hdB 4 l.length).length = i1 at *
  have hmk := make_cid
  go_enter Tryz.func131, Tryz.ntmps131
  go_wp2_with (first
    | go_at_call 130; refine (hS1 _ (hD.fr (S := []) (by exact frP) (by simp)) (Blk.new (cs := tk0 FZ)) (hG.fr (S := []) (by exact frP) (by simp))).mono ?_; rintro e w1 ⟨rfl, hD1, hT1, hF1⟩; have tc1 := hT1.cells; have hH1 := hF1.blk (b := hb) hH.alloc (by simp [o1, o2, o3, o4, o6, o7, Ne.symm hTh]); have hc1 := hH1.cells; have hf1 := hH1.free; have hhl1 := hH1.lt; replace hF1 : Fr [d, z, q, r, sk, lf, hb] w w1 := Fr.trans (S := [d, z, q, r, sk, lf, hb]) (by exact frP) hF1 (by simp); have hsz1 := hF1.size
    | (refine wre 22 oHdr0 ?_)
    | (with_reducible refine wEI ?_; (first | (refine wEN ?_; skip) | (refine wEF rfl (fun K hK => ?_); go_simp) | (refine wEL rfl rfl (fun K hK => ?_); go_simp) | (refine wER rfl (fun K hK => ?_); go_simp) | (refine wEM rfl (fun K hK => ?_); go_simp; try refine ⟨_, _, ⟨rfl, rfl⟩, ?_⟩) | (refine wEG rfl (fun K hK => ?_); go_simp) | (refine wEA rfl (fun K hK => ?_); go_simp))))
  have hoff : w.heap.size ≠ d ∧ w.heap.size ≠ z ∧ w.heap.size ≠ q ∧ w.heap.size ≠ r ∧ w.heap.size ≠ sb ∧ w.heap.size ≠ sk ∧ w.heap.size ≠ lf := ⟨hoT.1, hoT.2.1, hoT.2.2.1, hoT.2.2.2.1, hoT.2.2.2.2.1, hoT.2.2.2.2.2.1, hoT.2.2.2.2.2.2.1⟩
  generalize hTe : w.heap.size = T at *
  have HTe := Lib.hid hTe
  clear hTe
  go_loopg [8] (l.length) (fun k s8 wr => rtRel w d z q r sb sk lf hb T xs rest i1 y x cs cl ver l (T + 1) k wr)
  case atStart =>
    refine ⟨[], l, .slice (some ⟨w1.heap.size, 0, none⟩) 0 0, [], 91, l.length, .string ⟨#[]⟩, .slice none 0 0, 0, false, 0, rfl, rfl, by simpa [rootsB] using hdr1, ?_, ?_, ?_, ?_, ?_⟩
    · exact (hD1.fr (S := [hb]) (by exact frP) (by simp [o1, o2, o3, o4, o5, o6, o7]))
    · have hTh' := Ne.symm hTh
      exact blkP
    · have hT1l := hT1.lt
      exact own_made (by simp; omega) (by simp)
    · exact blkP
    · exact frP
  case round =>
    obtain ⟨l1, l2, v, vs, ty, len, str, bs, u, tg, tag, rfl, hk, hdr, hDr, hTr, hOw, hHr, hFr⟩ := hrel
    subst hk
    have hGr := hG.fr hFr (by simp; omega)
    have hcr := hHr.cells
    have hfr := hHr.free
    have hszr := hFr.size
    have hTr' := hTr.lt
    have hhr' := hHr.lt
    have hTh' := Ne.symm hTh
    clear tc1 hc1 hf1 hF1 hT1 hH1 hD1 hS1 hD hH hdr1
    cases l2 with
    | nil =>
      have hDz := fun (w' : World) (hf : Fr [T] wr w') => hDr.fr hf (by simp; exact hoff)
      go_wp2_with (first
        | (with_reducible refine list_store 264 (fun K hK => ?_); refine storeRow _ _ _ rfl T (tk0 FZ) rfl rfl _ _ hTr (by kernel_rfl) rfl rfl (fun w1z hTz hFz => ?_); have hHz := hFz.blk hHr (by simp [hTh']))
        | (go_at_call 130; refine (stepArrClose (fz := FZ) (hDz _ hFz) hTz hoT).mono ?_; rintro e w2 ⟨rfl, hD2, hT2, hF2⟩; have tc2 := hT2.cells; have hH2 := hF2.blk hHz (by simp [o1, o2, o3, o4, o6, o7, hTh'])))
      go_ret
      refine ⟨v, _, _, rfl, by rw [hfin i1 rfl, List.append_nil]; exact hD2, hH2, ?_⟩
      exact Fr.trans (S := [d, z, q, r, sk, lf, hb]) (hFr.trans hFz (by simp [HTe.out])) hF2 (by simp [HTe.out])
    | cons c l2 =>
      have hcok : c.Ok := hok c (by simp)
      have hcl := hcok.le
      simp only [List.length_cons] at hDr
      have hDz := fun (w' : World) (hf : Fr [T] wr w') => hDr.fr hf (by simp; exact hoff)
      have hdl : xs.drop (i1 + (rootsB l1).length) = hdB 6 42 ++ (hdB 2 (0 :: c.bytes).length ++ ((0 :: c.bytes) ++ (rootsB l2 ++ rest))) := by
        rw [hdr, rootsB_cons]; simp [linkB]
      have hln : l2.length < 50 ∧ l1.length < 50 := by simp at hl; omega
      have hstep := fun (w' : World) (hf : Fr [T] wr w') (ht) => stepBytes (fz := FZ) (s := 0 :: c.bytes) (hDz w' hf) ht hoT (hGr.fr hf (by simp; omega)) (by omega) hdl (by simp; omega) (by simp)
      have hdr2 : xs.drop (i1 + (rootsB (l1 ++ [c])).length) = rootsB l2 ++ rest := by
        rw [rootsB_append, List.length_append, ← Nat.add_assoc, ← List.drop_drop, hdr, rootsB_cons]; simp [rootsB]
      have hpos : i1 + (rootsB l1).length + (hdB 6 42).length + (hdB 2 (0 :: c.bytes).length).length + (0 :: c.bytes).length = i1 + (rootsB (l1 ++ [c])).length := by
        rw [rootsB_append]; simp [rootsB, linkB]; omega
      rw [hpos] at hstep
      have Hdr2 := Lib.hid hdr2
      clear hdr hdl hpos hdr2
      generalize hpe : i1 + (rootsB (l1 ++ [c])).length = pos at *
      have Hpe := Lib.hid hpe
      clear hpe
      go_wp2_with (first
        | (with_reducible refine list_store 264 (fun K hK => ?_); refine storeRow _ _ _ rfl T (tk0 FZ) rfl rfl _ _ hTr (by kernel_rfl) rfl rfl (fun w1z hTz hFz => ?_); have hHz := hFz.blk hHr (by simp [hTh']))
        | (go_at_call 130; refine (hstep _ hFz hTz).mono ?_; rintro e w2 ⟨rfl, v', b, hD2, hb2, hS2, hT2, hF2⟩; obtain ⟨ov, cv, rfl, hz0, hcv1, hcv2, hcv3, hcv4, hSc⟩ := sl_cons hS2 (by omega); have hcc := cidCast hSc hcok; have tc2 := hT2.cells; have hH2 := hF2.blk hHz (by simp [o1, o2, o3, o4, o6, o7, hTh']); replace hz0 : w2.cell? ⟨b, ov, none⟩ = some (.int .u8 0) := hz0)
        | (go_at_call 168; refine hcc.mono ?_; rintro e w3 ⟨rfl, hF3⟩; have hH3 := hF3.blk hH2 (by simp); have hT3 := hF3.blk hT2 (by simp); have hD3 := hD2.fr hF3 (by simp); have hc3 := hH3.cells; have hf3 := hH3.free; have hFz3 : Fr [d, z, q, r, sk, lf, T] wr w3 := (Fr.trans (S := [d, z, q, r, sk, lf, T]) (hFz.mono (by simp)) hF2 (by simp)).trans hF3 (by simp); have hOw3 := own_fr hOw hFz3 (by simp; omega); have hh3 := hH3.lt; have hTl3 := hT3.lt))
      go_wp2_with (first
        | ((with_reducible refine list_bi .append (fun K hK => ?_));  refine appOwn _ _ 142 rfl (T + 1) 149 (.agg #[.string ⟨#[]⟩]) 1 16 cid_slice cid_info rfl (by omega) v l1.length vs rfl (own_fr (S := []) hOw3 (by exact frP) (by simp)) _ 1 _ [.string ⟨c.bytes.toArray⟩] rfl rfl (newOne (by simp)) (by intro u hu; simp at hu; subst hu; simp [Value.oneCell']) (by omega) (by omega) (by simp; omega) (fun v2 w4 hOw4 hF4 => ?_); have hnb := own_ge hOw3; have hOw5 := hOw4; obtain ⟨a2, c2, rfl⟩ := own_slice hOw4; have hhn : hb ∉ v.ownBlock.toList := (fun hm => by have := hnb _ hm; omega); have hTn : T ∉ v.ownBlock.toList := (fun hm => by have := hnb _ hm; omega); have hH4 := hF4.blk (b := hb) (by exact blkP) hhn; have hT4 := hF4.blk (b := T) (by exact blkP) hTn; have hc4 := hH4.cells; have hf4 := hH4.free; clear hc3 hf3)
        | (refine wre 22 oHdr0 ?_)
        | (with_reducible refine wEI ?_; (first | (refine wEN ?_; skip) | (refine wEF rfl (fun K hK => ?_); go_simp) | (refine wEL rfl rfl (fun K hK => ?_); go_simp) | (refine wER rfl (fun K hK => ?_); go_simp) | (refine wEM rfl (fun K hK => ?_); go_simp; try refine ⟨_, _, ⟨rfl, rfl⟩, ?_⟩) | (refine wEG rfl (fun K hK => ?_); go_simp) | (refine wpE_actp rfl rfl (fun K hK => ?_); simp only [List.getElem_toArray, List.getElem_cons_succ, List.getElem_cons_zero]; (first | ((with_reducible refine op_bi .append ?_);  refine appOwn _ _ 142 rfl (T + 1) 149 (.agg #[.string ⟨#[]⟩]) 1 16 cid_slice cid_info rfl (by omega) v l1.length vs rfl (own_fr (S := []) hOw3 (by exact frP) (by simp)) _ 1 _ [.string ⟨c.bytes.toArray⟩] rfl rfl (newOne (by simp)) (by intro u hu; simp at hu; subst hu; simp [Value.oneCell']) (by omega) (by omega) (by simp; omega) (fun v2 w4 hOw4 hF4 => ?_); have hnb := own_ge hOw3; have hOw5 := hOw4; obtain ⟨a2, c2, rfl⟩ := own_slice hOw4; have hhn : hb ∉ v.ownBlock.toList := (fun hm => by have := hnb _ hm; omega); have hTn : T ∉ v.ownBlock.toList := (fun hm => by have := hnb _ hm; omega); have hH4 := hF4.blk (b := hb) (by exact blkP) hhn; have hT4 := hF4.blk (b := T) (by exact blkP) hTn; have hc4 := hH4.cells; have hf4 := hH4.free; clear hc3 hf3))) | (refine wEA rfl (fun K hK => ?_); go_simp))))
      go_roundg l2.length
      case rel =>
        have hF34 : Fr ([d, z, q, r, sk, lf, T] ++ v.ownBlock.toList) wr w4 := (hFz3.mono fun k hk => List.mem_append_left _ hk).trans (Fr.trans (S := v.ownBlock.toList) (by exact frP) hF4 (fun k hk _ => hk)) (fun k hk _ => List.mem_append_right _ hk)
        have hF5 : Fr [d, z, q, r, sk, lf, hb] w w4 := hFr.trans hF34 (by
          intro k hk hkl
          have := HTe.out
          rcases List.mem_append.1 hk with h | h
          · simp only [List.mem_cons, List.not_mem_nil, or_false] at h ⊢
            rcases h with h | h | h | h | h | h | h
            all_goals first | (simp [h]; done) | omega
          · have := own_ge hOw3 k h; omega)
        have hDn : ∀ k, k ∈ v.ownBlock.toList → k ≠ d ∧ k ≠ z ∧ k ≠ q ∧ k ≠ r ∧ k ≠ sb ∧ k ≠ sk ∧ k ≠ lf := fun k hk => by have := hnb k hk; omega
        have hD4 := hD3.fr (Fr.trans (S := v.ownBlock.toList) (by exact frP) hF4 (fun k hk _ => hk)) hDn
        refine ⟨l1 ++ [c], l2, _, _, 120, 0, .string ⟨#[]⟩, .slice (some ⟨b, ov, none⟩) (c.bytes.length + 1) cv, 0, true, 42, by simp, rfl, by rw [Hpe.out]; exact Hdr2.out, by rw [Hpe.out]; exact hD4.fr (S := [hb]) (by exact frP) (by simp [o1, o2, o3, o4, o5, o6, o7]), ?_, by rw [List.length_append]; exact own_fr (S := [hb]) hOw5 (by exact frP) (by simp; omega), ?_, ?_⟩
        · exact blkP
        · exact blkP
        · exact Fr.setCell (by simp) hF5
      case measure => simp
end Go.Proofs.Wx

namespace Go.Proofs.Wx
open Go Go.RowKit
theorem drop_two {xs a b c : List UInt8} {i : Nat} (h : xs.drop i = a ++ (b ++ c)) : xs.drop (i + a.length + b.length) = c := by
  rw [← List.drop_drop, ← List.drop_drop, h]; simp
theorem zzDecodeHeader {ea : Addr} {w : World} {v : Value} {sb hb : Nat} {hv : Value} {ver : Nat} {l : List CidM} (hS : Sl w v sb (hbB l)) (hH : Blk w hb [hv, .int .u64 ver] 144 (0, 0)) (hne : hb ≠ sb) (hG : Gl ea w) (hg : 26 ≤ hb)
    (hl : l.length ≤ 50) (hok : ∀ c ∈ l, c.Ok) :
    Calls Tryz.prog 103 #[v, .pointer (some ⟨hb, 0, none⟩)] w fun e w' =>
      ∃ hv', e = .returned .nilIface ∧ Blk w' hb [hv', .int .u64 1] 144 (0, 0) ∧ Fr [hb] w w' := by
  obtain ⟨so, sc, rfl, hsl, hsl2, hB⟩ := hS
  have hrd := newReader hB hsl hsl2 hG.size
  have hlen := hbB_length hl hok
  have hx0 : (hbB l).drop 0 = hdB 5 2 ++ (hdB 3 5 ++ (sRoots ++ (hdB 4 l.length ++ (rootsB l ++ (hdB 3 7 ++ (sVersion ++ hdB 0 1)))))) := rfl
  have hx1' := hx0
  have hx1 : (hbB l).drop (0 + (hdB 5 2).length) = hdB 3 5 ++ (sRoots ++ (hdB 4 l.length ++ (rootsB l ++ (hdB 3 7 ++ (sVersion ++ hdB 0 1))))) := by rw [← List.drop_drop, hx0]; simp
  have hx2 : (hbB l).drop (0 + (hdB 5 2).length + (hdB 3 5).length + 5) = hdB 4 l.length ++ (rootsB l ++ (hdB 3 7 ++ (sVersion ++ hdB 0 1))) := drop_two (b := sRoots) hx1
  have hx3 : (hbB l).drop (0 + (hdB 5 2).length + (hdB 3 5).length + 5 + (hdB 4 l.length).length + (rootsB l).length) = hdB 3 7 ++ (sVersion ++ (hdB 0 1 ++ [])) := by rw [List.append_nil]; exact drop_two hx2
  have hx4 : (hbB l).drop (0 + (hdB 5 2).length + (hdB 3 5).length + 5 + (hdB 4 l.length).length + (rootsB l).length + (hdB 3 7).length + 7) = hdB 0 1 ++ [] := drop_two (b := sVersion) hx3
  generalize hbB l = xs at *
  have hlt := hB.lt
  have hhl := hH.lt
  have hgs := hG.size
  go_enter Tryz.func103, Tryz.ntmps103
  go_wp2_with (first
    | go_at_call 21; refine hrd.mono ?_; rintro e w1 ⟨rfl, hR1, hF1⟩
    | go_at_call 129; refine (newDecoder hR1).mono ?_; rintro e w2 ⟨d, z, q, sk, lf, cs, cl, rfl, hD2, hnew, hF2⟩)
  have hsz1 := hF1.size
  have hsz2 := hF2.size
  have hT3 : Blk (w2.alloc (.cells #[.int .u8 0, .int .i64 0, .string ⟨#[]⟩, .slice none 0 0, .bool false, .int .i64 0, .int .u64 0, .float .f64 0, .bool false, .int .i64 0] 264)) w2.heap.size (tk0 FZ) 264 (0, 0) := Blk.new
  have hF3 : Fr [] w2 (w2.alloc (.cells #[.int .u8 0, .int .i64 0, .string ⟨#[]⟩, .slice none 0 0, .bool false, .int .i64 0, .int .u64 0, .float .f64 0, .bool false, .int .i64 0] 264)) := Fr.alloc Fr.refl
  generalize w2.alloc (.cells #[.int .u8 0, .int .i64 0, .string ⟨#[]⟩, .slice none 0 0, .bool false, .int .i64 0, .int .u64 0, .float .f64 0, .bool false, .int .i64 0] 264) = w3 at *
  obtain ⟨c0, c1, cs, rfl⟩ : ∃ a b c, cs = a :: b :: c := by
    have := hD2.lk
    match cs, this with
    | a :: b :: c, _ => exact ⟨a, b, c, rfl⟩
  obtain ⟨l0, l1, cl, rfl⟩ : ∃ a b c, cl = a :: b :: c := by
    have := hD2.ll
    match cl, this with
    | a :: b :: c, _ => exact ⟨a, b, c, rfl⟩
  have hltD : d < w2.heap.size ∧ z < w2.heap.size ∧ q < w2.heap.size ∧ sk < w2.heap.size ∧ lf < w2.heap.size := by
    obtain ⟨h1, ⟨⟨scr, _, hB⟩, ⟨⟨a, b, c, hb, _⟩, hr, _⟩, _⟩, h3, h4, _⟩ := hD2
    exact ⟨h1.lt, hB.lt, hb.lt, h3.lt, h4.lt⟩
  have hrs := hR1.lt
  have hW3 : Fr [] w w3 := (hF1.trans hF2 (by simp)).trans hF3 (by simp)
  have hG3 := hG.fr hW3 (by simp)
  have hH3 := hW3.blk hH (by simp)
  have hD3 := hD2.fr hF3 (by simp)
  have hoT : Off w2.heap.size d z q w.heap.size sb sk lf := by unfold Off; omega
  have hoH : Off hb d z q w.heap.size sb sk lf := by unfold Off; omega
  have hTh : w2.heap.size ≠ hb := by omega
  have hTw : w.heap.size < w2.heap.size := by omega
  have hrW : w.heap.size ≤ w.heap.size := Nat.le_refl _
  generalize w2.heap.size = T at *
  clear hF1 hF2 hF3 hR1 hD2 hrd hsz1 hsz2
  have hTh' := Ne.symm hTh
  obtain ⟨o1, o2, o3, o4, o5, o6, o7, o8⟩ := hoH
  have hoH : Off hb d z q w.heap.size sb sk lf := ⟨o1, o2, o3, o4, o5, o6, o7, o8⟩
  generalize hre : w.heap.size = r at *
  have Hre := Lib.hid hre
  clear hre
  have hge4 : ∀ k ∈ [d, z, q, r, sk, lf, T], 26 ≤ k := by simp; omega
  have hge5 : ∀ k ∈ [d, z, q, r, sk, lf, hb], 26 ≤ k := by simp; omega
  have hhn : hb ∉ [d, z, q, r, sk, lf, T] := by simp; omega
  have hTn : T ∉ [d, z, q, r, sk, lf, hb] := by obtain ⟨a, b, c, d, e, f, g, h⟩ := hoT; simp; omega
  have hnew2 : ∀ k ∈ [d, z, q, r, sk, lf, T], r ≤ k := by simp; omega
  refine (stepMapOpen (k := 2) hD3 hT3 hoT hG3 hx1' (by omega)).mono ?_
  rintro e w4 ⟨rfl, hD4, hT4, hF4⟩
  have tc4 := hT4.cells
  have hH4 := hF4.blk hH3 hhn
  have hG4 := hG3.fr hF4 hge4
  have hW4 : Fr [hb] w w4 := (hW3.mono (by simp)).trans hF4 (fun k hk hkl => by have := hnew2 k hk; have := Hre.out; omega)
  go_wp2_with (first | (with_reducible refine wp_loop_rounds 3 ?_; rw [rounds_succ]) | (with_reducible rw [rounds_succ]) | ((with_reducible refine list_store 264 (fun K hK => ?_)); refine storeRow _ _ _ rfl T (tk0 FZ) rfl rfl _ _ hT4 (by kernel_rfl) rfl rfl (fun w5 hT5 hF5 => ?_)))
  have hD5 := hD4.fr hF5 (by simp; exact ⟨hoT.1, hoT.2.1, hoT.2.2.1, hoT.2.2.2.1, hoT.2.2.2.2.1, hoT.2.2.2.2.2.1, hoT.2.2.2.2.2.2.1⟩)
  refine (stepKey (k := 1) (s := sRoots) hD5 hT5 hoT (hG4.fr hF5 (by simp; omega)) (by omega) hx1 (by simp [sRoots]) (by simp [sRoots])).mono ?_
  rintro e w6 ⟨rfl, hD6, hT6, hF6⟩
  have tc6 := hT6.cells
  have hF46 : Fr [d, z, q, r, sk, lf, T] w4 w6 := (hF5.mono (by simp)).trans hF6 (by simp)
  have hH6 := hF46.blk hH4 hhn
  have hG6 := hG4.fr hF46 hge4
  have hW6 : Fr [hb] w w6 := hW4.trans hF46 (fun k hk hkl => by have := hnew2 k hk; have := Hre.out; omega)
  clear tc4
  go_wp2_with (first | (with_reducible refine wp_loop_rounds 3 ?_; rw [rounds_succ]) | (with_reducible rw [rounds_succ]) | fail)
  refine (zzDecodeRoots hD6 hH6 hoH hG6 hx2 hl hok).mono ?_
  rintro e w7 ⟨hv7, cs7, cl7, rfl, hD7, hH7, hF7⟩
  have hT7 := hF7.blk hT6 hTn
  have hG7 := hG6.fr hF7 hge5
  have hW7 : Fr [hb] w w7 := hW6.trans hF7 (fun k hk hkl => by
    have := Hre.out
    simp only [List.mem_cons, List.not_mem_nil, or_false] at hk
    rcases hk with h | h | h | h | h | h | h
    all_goals first | (simp [h]; done) | omega)
  clear tc6
  go_wp2_with (first | (with_reducible refine wp_loop_rounds 3 ?_; rw [rounds_succ]) | (with_reducible rw [rounds_succ]) | ((with_reducible refine list_store 264 (fun K hK => ?_)); refine storeRow _ _ _ rfl T (tk0 FZ) rfl rfl _ _ hT7 (by kernel_rfl) rfl rfl (fun w8 hT8 hF8 => ?_)))
  have hD8 := hD7.fr hF8 (by simp; exact ⟨hoT.1, hoT.2.1, hoT.2.2.1, hoT.2.2.2.1, hoT.2.2.2.2.1, hoT.2.2.2.2.2.1, hoT.2.2.2.2.2.2.1⟩)
  refine (stepKey (k := 0) (s := sVersion) hD8 hT8 hoT (hG7.fr hF8 (by simp; omega)) (by omega) hx3 (by simp [sVersion]) (by simp [sVersion])).mono ?_
  rintro e w9 ⟨rfl, hD9, hT9, hF9⟩
  have tc9 := hT9.cells
  have hF79 : Fr [d, z, q, r, sk, lf, T] w7 w9 := (hF8.mono (by simp)).trans hF9 (by simp)
  have hH9 := hF79.blk hH7 hhn
  have hG9 := hG7.fr hF79 hge4
  have hW9 : Fr [hb] w w9 := hW7.trans hF79 (fun k hk hkl => by have := hnew2 k hk; have := Hre.out; omega)
  go_wp2_with (first | (with_reducible refine wp_loop_rounds 3 ?_; rw [rounds_succ]) | (with_reducible rw [rounds_succ]) | ((with_reducible refine list_store 264 (fun K hK => ?_)); refine storeRow _ _ _ rfl T (tk0 FZ) rfl rfl _ _ hT9 (by kernel_rfl) rfl rfl (fun w10 hT10 hF10 => ?_)))
  have hD10 := hD9.fr hF10 (by simp; exact ⟨hoT.1, hoT.2.1, hoT.2.2.1, hoT.2.2.2.1, hoT.2.2.2.2.1, hoT.2.2.2.2.2.1, hoT.2.2.2.2.2.2.1⟩)
  refine (stepUint (k := 1) hD10 hT10 hoT (hG9.fr hF10 (by simp; omega)) hx4 (by omega)).mono ?_
  rintro e w11 ⟨rfl, hD11, hT11, hF11⟩
  have tc11 := hT11.cells
  have hF911 : Fr [d, z, q, r, sk, lf, T] w9 w11 := (hF10.mono (by simp)).trans hF11 (by simp)
  have hH11 := hF911.blk hH9 hhn
  have hc11 := hH11.cells
  have hf11 := hH11.free
  have hW11 : Fr [hb] w w11 := hW9.trans hF911 (fun k hk hkl => by have := hnew2 k hk; have := Hre.out; omega)
  clear tc9
  have hHs : Blk (w11.setCell ⟨hb, 1, none⟩ (.int .u64 (1 : Nat))) hb [hv7, .int .u64 1] 144 (0, 0) := Blk.conv (Blk.set hH11) rfl
  have hTs := Blk.setNe (a := ⟨hb, 1, none⟩) (v := .int .u64 (1 : Nat)) hTh' hT11
  have hDs := hD11.fr (S := [hb]) (w' := w11.setCell ⟨hb, 1, none⟩ (.int .u64 (1 : Nat))) (by exact frP) (by simp [o1, o2, o3, o4, o5, o6, o7])
  have hWs : Fr [hb] w (w11.setCell ⟨hb, 1, none⟩ (.int .u64 (1 : Nat))) := Fr.setCell (by simp) hW11
  go_wp2_with (first | (with_reducible refine wp_loop_rounds 3 ?_; rw [rounds_succ]) | (with_reducible rw [rounds_succ]) | ((with_reducible refine list_store 264 (fun K hK => ?_)); refine storeRow _ _ _ rfl T (tk0 FZ) rfl rfl _ _ hTs (by kernel_rfl) rfl rfl (fun w12 hT12 hF12 => ?_)))
  have hD12 := hDs.fr hF12 (by simp; exact ⟨hoT.1, hoT.2.1, hoT.2.2.1, hoT.2.2.2.1, hoT.2.2.2.2.1, hoT.2.2.2.2.2.1, hoT.2.2.2.2.2.2.1⟩)
  refine (stepMapClose hD12 hT12 hoT).mono ?_
  rintro e w13 ⟨rfl, hT13, hF13⟩
  have tc13 := hT13.cells
  clear tc11
  go_wp2_with (first | (with_reducible refine wp_loop_rounds 3 ?_; rw [rounds_succ]) | (with_reducible rw [rounds_succ]) | fail)
  go_ret
  have hFs : Fr [d, z, q, r, sk, lf, T] (w11.setCell ⟨hb, 1, none⟩ (.int .u64 (1 : Nat))) w13 := (hF12.mono (by simp)).trans hF13 (by simp)
  exact ⟨hv7, rfl, hFs.blk hHs hhn, hWs.trans hFs (fun k hk hkl => by have := hnew2 k hk; have := Hre.out; omega)⟩
end Go.Proofs.Wx

namespace Go.Proofs.Wx
open Go Go.RowKit
/-- The map of the pragma. -/
def pgB : List UInt8 := hdB 5 1 ++ (hdB 3 7 ++ (sVersion ++ hdB 0 2))
theorem zzDecodePragma {ea : Addr} {w : World} {v : Value} {sb hb : Nat} {hv : Value} {ver : Nat} {xs : List UInt8} (hxs : xs = hdB 5 1 ++ (hdB 3 7 ++ (sVersion ++ (hdB 0 2 ++ [])))) (hS : Sl w v sb xs) (hH : Blk w hb [hv, .int .u64 ver] 144 (0, 0)) (hne : hb ≠ sb) (hG : Gl ea w) (hg : 26 ≤ hb) :
    Calls Tryz.prog 103 #[v, .pointer (some ⟨hb, 0, none⟩)] w fun e w' =>
      ∃ hv', e = .returned .nilIface ∧ Blk w' hb [hv', .int .u64 2] 144 (0, 0) ∧ Fr [hb] w w' := by
  obtain ⟨so, sc, rfl, hsl, hsl2, hB⟩ := hS
  have hrd := newReader hB hsl hsl2 hG.size
  have hx0 : xs.drop 0 = hdB 5 1 ++ (hdB 3 7 ++ (sVersion ++ (hdB 0 2 ++ []))) := hxs
  have hx3 : xs.drop (0 + (hdB 5 1).length) = hdB 3 7 ++ (sVersion ++ (hdB 0 2 ++ [])) := by rw [← List.drop_drop, hx0]; simp
  have hx4 : xs.drop (0 + (hdB 5 1).length + (hdB 3 7).length + 7) = hdB 0 2 ++ [] := drop_two (b := sVersion) hx3
  clear hxs
  have hlt := hB.lt
  have hhl := hH.lt
  have hgs := hG.size
  go_enter Tryz.func103, Tryz.ntmps103
  go_wp2_with (first
    | go_at_call 21; refine hrd.mono ?_; rintro e w1 ⟨rfl, hR1, hF1⟩
    | go_at_call 129; refine (newDecoder hR1).mono ?_; rintro e w2 ⟨d, z, q, sk, lf, cs, cl, rfl, hD2, hnew, hF2⟩)
  have hsz1 := hF1.size
  have hsz2 := hF2.size
  have hT3 : Blk (w2.alloc (.cells #[.int .u8 0, .int .i64 0, .string ⟨#[]⟩, .slice none 0 0, .bool false, .int .i64 0, .int .u64 0, .float .f64 0, .bool false, .int .i64 0] 264)) w2.heap.size (tk0 FZ) 264 (0, 0) := Blk.new
  have hF3 : Fr [] w2 (w2.alloc (.cells #[.int .u8 0, .int .i64 0, .string ⟨#[]⟩, .slice none 0 0, .bool false, .int .i64 0, .int .u64 0, .float .f64 0, .bool false, .int .i64 0] 264)) := Fr.alloc Fr.refl
  generalize w2.alloc (.cells #[.int .u8 0, .int .i64 0, .string ⟨#[]⟩, .slice none 0 0, .bool false, .int .i64 0, .int .u64 0, .float .f64 0, .bool false, .int .i64 0] 264) = w3 at *
  obtain ⟨c0, c1, cs, rfl⟩ : ∃ a b c, cs = a :: b :: c := by
    have := hD2.lk
    match cs, this with
    | a :: b :: c, _ => exact ⟨a, b, c, rfl⟩
  obtain ⟨l0, l1, cl, rfl⟩ : ∃ a b c, cl = a :: b :: c := by
    have := hD2.ll
    match cl, this with
    | a :: b :: c, _ => exact ⟨a, b, c, rfl⟩
  have hltD : d < w2.heap.size ∧ z < w2.heap.size ∧ q < w2.heap.size ∧ sk < w2.heap.size ∧ lf < w2.heap.size := by
    obtain ⟨h1, ⟨⟨scr, _, hB⟩, ⟨⟨a, b, c, hb, _⟩, hr, _⟩, _⟩, h3, h4, _⟩ := hD2
    exact ⟨h1.lt, hB.lt, hb.lt, h3.lt, h4.lt⟩
  have hrs := hR1.lt
  have hW3 : Fr [] w w3 := (hF1.trans hF2 (by simp)).trans hF3 (by simp)
  have hG3 := hG.fr hW3 (by simp)
  have hH3 := hW3.blk hH (by simp)
  have hD3 := hD2.fr hF3 (by simp)
  have hoT : Off w2.heap.size d z q w.heap.size sb sk lf := by unfold Off; omega
  have hoH : Off hb d z q w.heap.size sb sk lf := by unfold Off; omega
  have hTh : w2.heap.size ≠ hb := by omega
  have hTw : w.heap.size < w2.heap.size := by omega
  have hrW : w.heap.size ≤ w.heap.size := Nat.le_refl _
  generalize w2.heap.size = T at *
  clear hF1 hF2 hF3 hR1 hD2 hrd hsz1 hsz2
  have hTh' := Ne.symm hTh
  obtain ⟨o1, o2, o3, o4, o5, o6, o7, o8⟩ := hoH
  have hoH : Off hb d z q w.heap.size sb sk lf := ⟨o1, o2, o3, o4, o5, o6, o7, o8⟩
  generalize hre : w.heap.size = r at *
  have Hre := Lib.hid hre
  clear hre
  have hge4 : ∀ k ∈ [d, z, q, r, sk, lf, T], 26 ≤ k := by simp; omega
  have hge5 : ∀ k ∈ [d, z, q, r, sk, lf, hb], 26 ≤ k := by simp; omega
  have hhn : hb ∉ [d, z, q, r, sk, lf, T] := by simp; omega
  have hTn : T ∉ [d, z, q, r, sk, lf, hb] := by obtain ⟨a, b, c, d, e, f, g, h⟩ := hoT; simp; omega
  have hnew2 : ∀ k ∈ [d, z, q, r, sk, lf, T], r ≤ k := by simp; omega
  refine (stepMapOpen (k := 1) hD3 hT3 hoT hG3 hx0 (by omega)).mono ?_
  rintro e w4 ⟨rfl, hD4, hT4, hF4⟩
  have tc4 := hT4.cells
  have hH4 := hF4.blk hH3 hhn
  have hG4 := hG3.fr hF4 hge4
  have hW4 : Fr [hb] w w4 := (hW3.mono (by simp)).trans hF4 (fun k hk hkl => by have := hnew2 k hk; have := Hre.out; omega)
  go_wp2_with (first | (with_reducible refine wp_loop_rounds 2 ?_; rw [rounds_succ]) | (with_reducible rw [rounds_succ]) | ((with_reducible refine list_store 264 (fun K hK => ?_)); refine storeRow _ _ _ rfl T (tk0 FZ) rfl rfl _ _ hT4 (by kernel_rfl) rfl rfl (fun w8 hT8 hF8 => ?_)))
  have hD8 := hD4.fr hF8 (by simp; exact ⟨hoT.1, hoT.2.1, hoT.2.2.1, hoT.2.2.2.1, hoT.2.2.2.2.1, hoT.2.2.2.2.2.1, hoT.2.2.2.2.2.2.1⟩)
  refine (stepKey (k := 0) (s := sVersion) hD8 hT8 hoT (hG4.fr hF8 (by simp; omega)) (by omega) hx3 (by simp [sVersion]) (by simp [sVersion])).mono ?_
  rintro e w9 ⟨rfl, hD9, hT9, hF9⟩
  have tc9 := hT9.cells
  have hF79 : Fr [d, z, q, r, sk, lf, T] w4 w9 := (hF8.mono (by simp)).trans hF9 (by simp)
  have hH9 := hF79.blk hH4 hhn
  have hG9 := hG4.fr hF79 hge4
  have hW9 : Fr [hb] w w9 := hW4.trans hF79 (fun k hk hkl => by have := hnew2 k hk; have := Hre.out; omega)
  go_wp2_with (first | (with_reducible refine wp_loop_rounds 3 ?_; rw [rounds_succ]) | (with_reducible rw [rounds_succ]) | ((with_reducible refine list_store 264 (fun K hK => ?_)); refine storeRow _ _ _ rfl T (tk0 FZ) rfl rfl _ _ hT9 (by kernel_rfl) rfl rfl (fun w10 hT10 hF10 => ?_)))
  have hD10 := hD9.fr hF10 (by simp; exact ⟨hoT.1, hoT.2.1, hoT.2.2.1, hoT.2.2.2.1, hoT.2.2.2.2.1, hoT.2.2.2.2.2.1, hoT.2.2.2.2.2.2.1⟩)
  refine (stepUint (k := 2) hD10 hT10 hoT (hG9.fr hF10 (by simp; omega)) hx4 (by omega)).mono ?_
  rintro e w11 ⟨rfl, hD11, hT11, hF11⟩
  have tc11 := hT11.cells
  have hF911 : Fr [d, z, q, r, sk, lf, T] w9 w11 := (hF10.mono (by simp)).trans hF11 (by simp)
  have hH11 := hF911.blk hH9 hhn
  have hc11 := hH11.cells
  have hf11 := hH11.free
  have hW11 : Fr [hb] w w11 := hW9.trans hF911 (fun k hk hkl => by have := hnew2 k hk; have := Hre.out; omega)
  clear tc9 tc4
  have hHs : Blk (w11.setCell ⟨hb, 1, none⟩ (.int .u64 2)) hb [hv, .int .u64 2] 144 (0, 0) := Blk.conv (Blk.set hH11) rfl
  have hTs := Blk.setNe (a := ⟨hb, 1, none⟩) (v := .int .u64 2) hTh' hT11
  have hDs := hD11.fr (S := [hb]) (w' := w11.setCell ⟨hb, 1, none⟩ (.int .u64 2)) (by exact frP) (by simp [o1, o2, o3, o4, o5, o6, o7])
  have hWs : Fr [hb] w (w11.setCell ⟨hb, 1, none⟩ (.int .u64 2)) := Fr.setCell (by simp) hW11
  go_wp2_with (first | (with_reducible refine wp_loop_rounds 3 ?_; rw [rounds_succ]) | (with_reducible rw [rounds_succ]) | ((with_reducible refine list_store 264 (fun K hK => ?_)); refine storeRow _ _ _ rfl T (tk0 FZ) rfl rfl _ _ hTs (by kernel_rfl) rfl rfl (fun w12 hT12 hF12 => ?_)))
  have hD12 := hDs.fr hF12 (by simp; exact ⟨hoT.1, hoT.2.1, hoT.2.2.1, hoT.2.2.2.1, hoT.2.2.2.2.1, hoT.2.2.2.2.2.1, hoT.2.2.2.2.2.2.1⟩)
  refine (stepMapClose hD12 hT12 hoT).mono ?_
  rintro e w13 ⟨rfl, hT13, hF13⟩
  have tc13 := hT13.cells
  clear tc11
  go_wp2_with (first | (with_reducible refine wp_loop_rounds 3 ?_; rw [rounds_succ]) | (with_reducible rw [rounds_succ]) | fail)
  go_ret
  have hFs : Fr [d, z, q, r, sk, lf, T] (w11.setCell ⟨hb, 1, none⟩ (.int .u64 2)) w13 := (hF12.mono (by simp)).trans hF13 (by simp)
  exact ⟨hv, rfl, hFs.blk hHs hhn, hWs.trans hFs (fun k hk hkl => by have := hnew2 k hk; have := Hre.out; omega)⟩
end Go.Proofs.Wx

namespace Go.Proofs.Wx
open Go Go.RowKit
theorem readHeader {ea : Addr} {w : World} {r sb : Nat} {xs rest : List UInt8} {i : Nat} {l : List CidM} (h : Rdr w r sb xs i) (hx : xs.drop i = headerB l ++ rest) (hG : Gl ea w) (hl : l.length ≤ 50) (hok : ∀ c ∈ l, c.Ok) :
    Calls Tryz.prog 68 #[.iface 63 (.pointer (some ⟨r, 0, none⟩)), .int .u64 33554432] w fun e w' =>
      ∃ p hv, e = .returned (.tuple #[.pointer (some ⟨p, 0, none⟩), .nilIface]) ∧ w.heap.size ≤ p ∧ Blk w' p [hv, .int .u64 1] 144 (0, 0) ∧ Rdr w' r sb xs (i + (headerB l).length) ∧ Fr [r] w w' := by
  have hlen := hbB_length hl hok
  have hlt := h.lt
  have hge := h.ge
  have hgs := hG.size
  have hrd := ldRead (n := (hbB l).length) (rest := hbB l ++ rest) h (by rw [hx]; simp [headerB]) 33554432 (by omega) (by omega) false (by omega) (by simp)
  rw [List.take_left, show i + (Lib.uvarint (hbB l).length).length + (hbB l).length = i + (headerB l).length by simp [headerB]; omega] at hrd
  have hdec := fun (w' : World) (b hb : Nat) (hv : Value) (hB : Blk w' b (by8 (hbB l)) 5 (0, 0)) (hH : Blk w' hb [hv, .int .u64 (0 : Nat)] 144 (0, 0)) hne (hG : Gl ea w') hg => zzDecodeHeader (v := .slice (some ⟨b, 0, none⟩) (hbB l).length (hbB l).length) (Sl.mk (Blk.bs (pre := []) (post := []) hB (by simp) rfl) (Nat.le_refl _) (by omega) rfl) hH hne hG hg hl hok
  clear hx
  generalize (hbB l).length = N at *
  generalize (headerB l).length = M at *
  generalize hbB l = X at *
  go_enter Tryz.func68, Tryz.ntmps68
  go_wp2_with (first
    | go_at_call 102; refine hrd.mono ?_; rintro e w1 ⟨b, rfl, hb1, hR1, hB1, hF1⟩; have hG1 := hG.fr hF1 (by simp; omega); have hbl := hB1.lt; have hsz1 := hF1.size; have hrl1 := hR1.lt
    | go_at_call 103; refine (hdec _ b w1.heap.size _ hB1.alloc (Blk.new (cs := [_, _])) (by omega) (hG1.fr (S := []) (by exact frP) (by simp)) (by omega)).mono ?_; rintro e w2 ⟨hv, rfl, hH2, hF2⟩)
  go_ret2
  exact ⟨w1.heap.size, hv, rfl, hF1.size, hH2, hR1.fr (S := []) (Fr.trans (S := []) (S' := [w1.heap.size]) (by exact frP) hF2 (by simp)) (by simp) (by simp), hF1.trans (Fr.trans (S := []) (S' := [w1.heap.size]) (by exact frP) hF2 (by simp)) (by simp)⟩
end Go.Proofs.Wx

namespace Go.Proofs.Wx
open Go Go.RowKit
theorem uvarintS {w : World} {n : Nat} {xs rest : List UInt8} (hn : n < 9223372036854775808) (hx : xs = Lib.uvarint n ++ rest) :
    Calls Tryz.prog 111 #[.string ⟨xs.toArray⟩] w fun e w' => e = .returned (.tuple #[.int .u64 n, .int .i64 (Lib.uvarint n).length, .nilIface]) ∧ w = w' := by
  have hx' : xs.drop 0 = Lib.uvarint n ++ rest := by simpa using hx
  clear hx
  go_enter Tryz.func111, Tryz.ntmps111
  go_wp2_with fail
  go_loop [5, 6, 7] (fun x s i => fuRel xs n rest x s i) (fun _ s _ => 100 - (intOf s).toNat)
  case atStart => exact ⟨0, 0, n, by omega, rfl, rfl, rfl, UvAt.start n, .inl rfl, hx', by simp⟩
  case round =>
    clear hx'
    obtain ⟨k, q, m, hk, rfl, rfl, rfl, hu, hm0, hxk, hl⟩ := hrel
    obtain ⟨hlt, hb⟩ := uv_bound hxk
    have hu1 := hu.last hn
    have hu2 := hu.next hn
    have hst := hu.step
    have hsm := hu.small hn
    have hget : ∀ h : k < (⟨xs.toArray⟩ : ByteArray).size, ((⟨xs.toArray⟩ : ByteArray)[k]'h) = xs[k] := fun h => rfl
    by_cases hm : m < 128
    · rw [if_pos hm] at hb
      obtain ⟨hb1, hb2, hb3⟩ := hb
      have hgt : ∀ h : k < (⟨xs.toArray⟩ : ByteArray).size, ((⟨xs.toArray⟩ : ByteArray)[k]'h).toNat = m := fun h => by rw [hget]; exact hb1
      have Hl := Lib.hid (show k + 1 = (Lib.uvarint n).length by omega)
      have Hu := Lib.hid hu1
      clear hxk hl hb1 hb2 hb3 hu1 hu2 hst hu hsm hget
      have h56' : (k : Int) ≤ 8 := by omega
      have hklt : (k : Int) < xs.length := by omega
      go_wp2
      all_goals
        go_ret3
        refine ⟨?_, rfl⟩
        rw [← Hl.out]
        first
          | (simp [Hu.out]; done)
          | (have h0 : m = 0 := by assumption
             have h2 := Hu.out
             simp [h0, show IntKind.u64.wrap 0 = 0 by rfl] at h2
             simp [h2]; done)
          | (have h2 := Hu.out
             rw [IntWalk.u64_in _ (by omega)] at h2
             simpa using h2)
    · rw [if_neg hm] at hb
      obtain ⟨hb1, hb2, hb3⟩ := hb
      have hgt : ∀ h : k < (⟨xs.toArray⟩ : ByteArray).size, ((⟨xs.toArray⟩ : ByteArray)[k]'h).toNat = m % 128 + 128 := fun h => by rw [hget]; exact hb1
      have hk7 := hsm (by omega)
      have Hl := Lib.hid (show (Lib.uvarint n).length = k + 1 + (Lib.uvarint (m / 128)).length by omega)
      have Hx := Lib.hid hb2
      have Hu := Lib.hid hu2
      have Hst := Lib.hid hst
      have hlo : m % 128 + 128 < 256 := by omega
      have hlo' : 128 ≤ m % 128 + 128 := by omega
      have Hr : Hid ((m % 128 + 128) % 128 = m % 128) := Lib.hid (by omega)
      generalize m % 128 + 128 = b at *
      have h56 : (k : Int) < 8 := by omega
      have hklt : (k : Int) < xs.length := by omega
      clear hxk hl hb1 hb2 hb3 hu1 hu2 hst hu hsm hget
      go_wp2
      all_goals
        go_round
        case rel =>
          refine ⟨k + 1, _, m / 128, by omega, by go_num, by go_num, ?_, Hst.out, .inr (by omega), Hx.out, Hl.out⟩
          rw [← Hu.out, ← Hr.out, ← and127 b hlo]
        case measure => simp [intOf]; omega

theorem cidVersion {w : World} {c : CidM} (hok : c.Ok) : Calls Tryz.prog 110 #[cidV c] w fun e w' => e = .returned (.int .u64 c.v) ∧ Fr [] w w' := by
  have hle := hok.le
  rcases hok.kind with ⟨h0, _, h1, h2⟩ | ⟨h0, _⟩
  · have hb := CidM.bytes0 h0 h1 h2
    have hln : c.bytes.length = 34 := by rw [hb]; simp [h2]
    have hg0 : ∀ h : 0 < (⟨c.bytes.toArray⟩ : ByteArray).size, ((⟨c.bytes.toArray⟩ : ByteArray)[0]'h) = 18 := fun h => by show c.bytes[0]'_ = 18; simp [hb]
    have hg1 : ∀ h : 1 < (⟨c.bytes.toArray⟩ : ByteArray).size, ((⟨c.bytes.toArray⟩ : ByteArray)[1]'h) = 32 := fun h => by show c.bytes[1]'_ = 32; simp [hb]
    rw [h0]
    clear hb h0 h1 h2 hok hle
    go_enter Tryz.func110, Tryz.ntmps110
    go_wp2
    all_goals (go_ret; exact ⟨rfl, by exact frP⟩)
  · have hb := CidM.bytes1 h0
    have hg0 : ∀ h : 0 < (⟨c.bytes.toArray⟩ : ByteArray).size, ((⟨c.bytes.toArray⟩ : ByteArray)[0]'h) = 1 := fun h => by show c.bytes[0]'_ = 1; simp [hb]
    rw [h0]
    clear hb h0 hok
    go_enter Tryz.func110, Tryz.ntmps110
    go_wp2
    all_goals (go_ret; exact ⟨rfl, by exact frP⟩)

abbrev pfxV (c : CidM) : Value := .agg #[.int .u64 c.v, .int .u64 c.codec, .int .u64 c.code, .int .i64 c.dig.length]
theorem extract_drop (xs : List UInt8) (k n : Nat) (hn : xs.length = n) : (⟨xs.toArray⟩ : ByteArray).extract k n = ⟨(xs.drop k).toArray⟩ := by
  apply ByteArray.ext
  simp [← hn]
  exact List.take_of_length_le (by simp)
theorem cidPrefix {w : World} {c : CidM} (hok : c.Ok) : Calls Tryz.prog 72 #[cidV c] w fun e w' => e = .returned (pfxV c) ∧ Fr [] w w' := by
  have hle := hok.le
  have hv := fun w => cidVersion (w := w) hok
  have hcode := hok.code_lt
  have hdl := hok.len
  rcases hok.kind with ⟨h0, h1, h2, h3⟩ | ⟨h0, hck, _⟩
  · rw [h0] at hv
    unfold pfxV
    rw [h0, h1, h2, h3]
    clear hok hle hcode hdl h0 h1 h2 h3
    go_enter Tryz.func72, Tryz.ntmps72
    go_wp2_with (first
      | go_at_call 110; refine (hv _).mono ?_; rintro e w1 ⟨rfl, hF1⟩; have hZ := hF1.blk (b := w.heap.size + 1) (Blk.newAt (by simp)) (by simp); replace hF1 : Fr [] w w1 := Fr.trans (S := []) (by exact frP) hF1 (by simp)
      | (with_reducible refine list_store 153 (fun K hK => ?_);  refine storeRow _ _ _ rfl (w.heap.size + 1) [.int .u64 0, .int .u64 112, .int .u64 18, .int .i64 32] rfl rfl _ _ hZ (by kernel_rfl) rfl rfl (fun w2 hZ2 hF2 => ?_); have hzc := hZ2.cells))
    refine bodyPost_ret (v := .agg #[.int .u64 0, .int .u64 112, .int .u64 18, .int .i64 32]) (by simp [results, Tryz.results72, go_sem, hzc]) rfl ⟨rfl, ?_⟩
    exact hF1.trans hF2 (by simp)
  · have hb : c.bytes = Lib.uvarint 1 ++ (Lib.uvarint c.codec ++ (Lib.uvarint c.code ++ (Lib.uvarint c.dig.length ++ c.dig))) := by rw [CidM.bytes1 h0, uv1]; simp [mhB]
    have hd1 : c.bytes.drop 1 = Lib.uvarint c.codec ++ (Lib.uvarint c.code ++ (Lib.uvarint c.dig.length ++ c.dig)) := by rw [hb, uv1]; rfl
    have hd2 : c.bytes.drop (1 + (Lib.uvarint c.codec).length) = Lib.uvarint c.code ++ (Lib.uvarint c.dig.length ++ c.dig) := by rw [← List.drop_drop, hd1]; simp
    have hd3 : c.bytes.drop (1 + (Lib.uvarint c.codec).length + (Lib.uvarint c.code).length) = Lib.uvarint c.dig.length ++ c.dig := by rw [← List.drop_drop, hd2]; simp
    have hln : c.bytes.length = 1 + (Lib.uvarint c.codec).length + (Lib.uvarint c.code).length + (Lib.uvarint c.dig.length).length + c.dig.length := by rw [hb, uv1]; simp; omega
    have U0 := fun w => uvarintS (w := w) (n := 1) (xs := c.bytes) (by omega) hb
    have U1 := fun w => uvarintS (w := w) (n := c.codec) (xs := c.bytes.drop 1) (by omega) hd1
    have U2 := fun w => uvarintS (w := w) (n := c.code) (xs := c.bytes.drop (1 + (Lib.uvarint c.codec).length)) (by omega) hd2
    have U3 := fun w => uvarintS (w := w) (n := c.dig.length) (xs := c.bytes.drop (1 + (Lib.uvarint c.codec).length + (Lib.uvarint c.code).length)) (by omega) hd3
    rw [uv1] at U0
    have E0 : (⟨c.bytes.toArray⟩ : ByteArray).extract 0 c.bytes.length = ⟨c.bytes.toArray⟩ := extract_drop c.bytes 0 _ rfl
    have E1 := extract_drop c.bytes 1 _ rfl
    have E2 := extract_drop c.bytes (1 + (Lib.uvarint c.codec).length) _ rfl
    have E3 := extract_drop c.bytes (1 + (Lib.uvarint c.codec).length + (Lib.uvarint c.code).length) _ rfl
    have hk1 := Lib.uvarint_pos c.codec
    have hk2 := Lib.uvarint_pos c.code
    rw [h0] at hv
    unfold pfxV
    rw [h0]
    clear hb hd1 hd2 hd3 hok
    generalize (Lib.uvarint c.codec).length = k1 at *
    generalize (Lib.uvarint c.code).length = k2 at *
    generalize (Lib.uvarint c.dig.length).length = k3 at *
    have hle1 : (1 : Int) + k1 + k2 ≤ c.bytes.length := by omega
    have hle2 : (1 : Int) + k1 ≤ c.bytes.length := by omega
    have hle3 : (1 : Int) ≤ c.bytes.length := by omega
    clear hln
    generalize List.drop 1 c.bytes = X1 at *
    generalize List.drop (1 + k1) c.bytes = X2 at *
    generalize List.drop (1 + k1 + k2) c.bytes = X3 at *
    go_enter Tryz.func72, Tryz.ntmps72
    go_wp2_with (first
      | go_at_call 110; refine (hv _).mono ?_; rintro e w1 ⟨rfl, hF1⟩; have hY := hF1.blk (b := w.heap.size) (Blk.alloc (Blk.newAt rfl)) (by simp); have hZ := hF1.blk (b := w.heap.size + 1) (Blk.newAt (by simp)) (by simp); have hyc := hY.cells; replace hF1 : Fr [] w w1 := Fr.trans (S := []) (by exact frP) hF1 (by simp))
    refine (U0 _).mono ?_; rintro e w2 ⟨rfl, rfl⟩
    go_wp2_with fail
    refine (U1 _).mono ?_; rintro e w2 ⟨rfl, rfl⟩
    go_wp2_with fail
    refine (U2 _).mono ?_; rintro e w2 ⟨rfl, rfl⟩
    go_wp2_with fail
    refine (U3 _).mono ?_; rintro e w2 ⟨rfl, rfl⟩
    go_wp2_with (first
      | (with_reducible refine list_store 153 (fun K hK => ?_);  refine storeRow _ _ _ rfl (w.heap.size + 1) [.int .u64 1, .int .u64 c.codec, .int .u64 c.code, .int .i64 c.dig.length] rfl rfl _ _ hZ (by kernel_rfl) rfl rfl (fun w2 hZ2 hF2 => ?_); have hzc := hZ2.cells))
    refine bodyPost_ret (v := .agg #[.int .u64 1, .int .u64 c.codec, .int .u64 c.code, .int .i64 c.dig.length]) (by simp [results, Tryz.results72, go_sem, hzc]) rfl ⟨rfl, ?_⟩
    exact hF1.trans hF2 (by simp)
end Go.Proofs.Wx
