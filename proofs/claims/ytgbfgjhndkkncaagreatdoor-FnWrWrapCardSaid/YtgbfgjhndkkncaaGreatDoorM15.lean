import Derived.Test.YtgbfgjhndkkncaaGreatDoorM12
import Derived.Test.YtgbfgjhndkkncaaGreatDoorM14
set_option maxRecDepth 100000
set_option maxHeartbeats 1000000
set_option linter.unusedVariables false
set_option linter.unusedSimpArgs false
set_option linter.deprecated false
namespace Go.Proofs.Wx
open Go Go.RowKit
set_option maxRecDepth 1000000 in
set_option maxHeartbeats 12800000 in
theorem extractV1 {ea : Addr} {w : World} {r sb p base B b c e : Nat} {v : Value} {data : List UInt8} (h : Rdr w r sb (fileB 0 0 c data.length e data []) 0) (hO : OptsAt w B b) (hG : Gl ea w) (hc : 51 ≤ c) (hc2 : c ≤ 1000) (h0 : 0 < data.length) (hd : data.length < 512) (he : e < 1000000000)
    (hP : Blk w p [v, .int .i64 0] tMem (0, 0)) (hV : OwnF base w v []) (hvp : v.ownBlock ≠ some p) (hbase : base ≤ w.heap.size) (hrp : r ≠ p) (hsp : sb ≠ p) (hvr : v.ownBlock ≠ some r) (hvs : v.ownBlock ≠ some sb) :
    Calls Tryz.prog 61 #[.iface 63 (.pointer (some ⟨r, 0, none⟩)), MEMI p, .slice (some ⟨B, 0, none⟩) 8 8] w fun e' w' => e' = .returned .nilIface ∧
      ∃ v', Blk w' p [v', .int .i64 data.length] tMem (0, 0) ∧ OwnF base w' v' data ∧ Fr (p :: r :: v.ownBlock.toList) w w' := by
  obtain ⟨xs, hxs⟩ : ∃ xs, Hid (xs = fileB 0 0 c data.length e data []) := ⟨_, rfl⟩
  rw [← hxs.out] at h
  have hd11 : xs.drop 11 = hdrB 0 0 c data.length e ++ (List.replicate (c - 51) 0 ++ data) := by
    rw [hxs.out]; unfold fileB
    rw [List.drop_left' (by decide)]; simp
  have hdc : xs.drop c = data := by
    rw [show c = 11 + (40 + (c - 51)) by omega, ← List.drop_drop, hd11, ← List.drop_drop, List.drop_left' (hdrB_length _ _ _ _ _), List.drop_left' (by simp)]
  have hxl : c + data.length ≤ xs.length := by
    have := congrArg List.length hdc
    simp at this
    have : c ≤ xs.length ∨ xs.length < c := by omega
    omega
  have hRV := readVersion2 (rest := hdrB 0 0 c data.length e ++ (List.replicate (c - 51) 0 ++ (data ++ []))) h hO (by rw [hxs.out]; rfl) hG
  have hlt := h.lt
  have hge := h.ge
  have hpl := hP.lt
  obtain ⟨N, hN⟩ : ∃ N, Hid (N = data.length) := ⟨_, rfl⟩
  have hHd := fun (w' : World) (q : Nat) (hR : Rdr w' r sb xs 11) (hQ : Blk w' q [.int .u64 0, .int .u64 0, .int .u64 0, .int .u64 0, .int .u64 0] tHD (0, 0)) (h1 : q ≠ r) (h2 : q ≠ sb) => headerRead hR hd11 (by omega) (by omega) hc (by omega) h0 (by omega) he hQ h1 h2
  rw [← hN.out] at h0 hd hxl hHd ⊢
  have HX := Lib.hid (And.intro hHd (And.intro hdc hxl))
  have hLN : Hid (((xs.drop c).take N).length = N) := by show _ = _; rw [hdc, hN.out]; simp
  have hTN : Hid ((xs.drop c).take N = data) := by show _ = _; rw [hdc, hN.out]; simp
  have H := Lib.hid (And.intro hP (And.intro hV (And.intro hbase (And.intro hvr hvs))))
  have HC := Lib.hid (And.intro hc2 (And.intro hd he))
  have wc := w64_nat (x := c) (by omega)
  have wN := w64_nat (x := N) (by omega)
  have H9 := Lib.hid (And.intro wc wN)
  clear wc wN
  have z1 : ¬ (c : Int) < 51 := by omega
  have z2 : ¬ (N : Int) ≤ 0 := by omega
  have z3 : (0 : Int) ≤ (N : Int) := by omega
  have wc := H9.out.1
  have wN := H9.out.2
  clear hc hc2 hd he hHd hdc hxl hP hV hbase hvr hvs hG h hd11 hO
  go_enter Tryz.func61, Tryz.ntmps61
  go_wp2_with (first
    | go_at_call 101; refine hRV.mono ?_; rintro e w1 ⟨rfl, hR1, hF1⟩; have hs1 := hF1.size
    | go_at_call 69; (with_reducible refine (HX.out.1 _ w1.heap.size (hR1.fr (S := []) (Fr.alloc Fr.refl) (by simp) (by simp)) (Blk.new (cs := [_, _, _, _, _])) (by omega) (by omega)).mono ?_); rintro e w2 ⟨rfl, hR2, hQ2, hF2⟩; have qc2 := hQ2.cells; have hF02 : Fr [r] w w2 := Fr.trans (S := [r]) (S' := [r, w1.heap.size]) (Fr.alloc hF1) hF2 (by intro k hk hl; simp at hk; rcases hk with h | h; simp [h]; omega); have H2 := Lib.hid (And.intro hR2 (And.intro hQ2 hF02)); clear hR2 hQ2 hF02 hF2 hR1 hF1
    | go_at_call 245; refine (seek_any H2.out.1 c 0 c (by have := HC.out.1; omega) (.inl ⟨rfl, rfl⟩)).mono ?_; rintro e w3 ⟨rfl, hR3, hF3⟩; clear qc2; have hF03 : Fr [r] w w3 := H2.out.2.2.trans hF3 (by simp); have qc3 := (hF3.blk H2.out.2.1 (by simp; omega)).cells; have H3 := Lib.hid (And.intro hR3 hF03); clear hR3 hF03 hF3
    | go_at_call 41; refine (zzCopyN (n := N) (i := c) H3.out.1 (H3.out.2.blk H.out.1 (by simp; exact Ne.symm hrp)) (H.out.2.1.fr H3.out.2 (by simp; exact .inr H.out.2.2.2.1)) hvp (Nat.le_trans H.out.2.2.1 H3.out.2.size) h0 (by have := HC.out.2.1; omega) HX.out.2.2 hrp hsp H.out.2.2.2.1 H.out.2.2.2.2).mono ?_; rintro e w4 ⟨rfl, v4, hP4, hO4, hF4⟩
    | go_at_call 261; obtain ⟨g4, c4, e4, _⟩ := hO4.form; rw [hLN.out] at e4; refine (memSize (n := N) hP4 e4).mono ?_; rintro e w5 ⟨rfl, hF5⟩; have H5 := Lib.hid (And.intro hP4 (And.intro hO4 (And.intro hF4 hF5))))
  go_ret
  obtain ⟨hP4, hO4, hF4, hF5⟩ := H5.out
  rw [hTN.out] at hO4
  refine ⟨rfl, v4, hF5.blk hP4 (by simp), hO4.fr hF5 (by simp), Fr.trans (S := p :: r :: v.ownBlock.toList) (S' := []) (Fr.trans (S := p :: r :: v.ownBlock.toList) (S' := p :: r :: v.ownBlock.toList) (H3.out.2.mono (by simp)) hF4 (fun k hk _ => hk)) hF5 (by simp)⟩
end Go.Proofs.Wx

namespace Go.Proofs.Wx
open Go Go.RowKit
set_option maxRecDepth 1000000 in
set_option maxHeartbeats 12800000 in
theorem wrExtract {ea aa : Addr} {w : World} {c e : Nat} {data : List UInt8} (hG : Gl ea w) (hA : w.cell? ⟨0, 0, none⟩ = some (.iface 193 (.pointer (some aa)))) (hc : 51 ≤ c) (hc2 : c ≤ 1000) (h0 : 0 < data.length) (hd : data.length < 512) (he : e < 1000000000) :
    Calls Tryz.prog 28 #[.string ⟨(fileB 0 0 c data.length e data []).toArray⟩, .string ⟨#[]⟩, zeroOpts] w fun e' w' => e' = .returned (.tuple #[.string ⟨data.toArray⟩, .int .u8 0]) ∧ Fr [] w w' := by
  obtain ⟨xs, hxs⟩ : ∃ xs, Hid (xs = fileB 0 0 c data.length e data []) := ⟨_, rfl⟩
  rw [← hxs.out]
  have hxl : xs.length ≤ 100000 := by rw [hxs.out]; simp [fileB, hdrB_length, pragmaB]; omega
  have hgs := hG.size
  have hal : 0 < 26 := by omega
  have ho0 := fun w => options0 (w := w)
  have hnr := fun (w' : World) (sb sc : Nat) (hS : Bs w' sb 0 xs) (h1 : xs.length ≤ sc) (h2 : sc ≤ 9223372036854775807) (h3 : 26 ≤ w'.heap.size) => newReader hS h1 ⟨by omega, h2⟩ h3
  have HC := Lib.hid (And.intro hc (And.intro hc2 (And.intro h0 (And.intro hd he))))
  clear hc hc2 h0 hd he
  obtain ⟨B0, hB0⟩ : ∃ B0, B0 = w.heap.size := ⟨_, rfl⟩
  go_enter Tryz.func28, Tryz.ntmps28
  go_wp2_with (first
    | ((with_reducible refine list_convert (fun K hK => ?_));  refine strF _ rfl B0 (by simp; omega) [] rfl (by simp) (fun v1 w1 hO1 hF1 => ?_); obtain ⟨g1, c1, e1, hg1, hgl1, hc1⟩ := hO1.form; subst e1; have hF01 : Fr [] w w1 := Fr.trans (S := []) (by exact frP) hF1 (by simp); have hs1 := hF01.size; have hlt0 : w.heap.size < w1.heap.size := (by have := hF1.size; simp at this; omega); have oc1 := (hF1.blk (b := w.heap.size) (cs := [.bool false, .bool false, .bool false, .bool false, .bool false, .bool false, .int .u64 0, .int .u64 0, .int .u64 0, .int .u64 0, .int .u64 0, .int .u64 0]) (T := 35) (fr := (0, 0)) Blk.new (by simp)).cells; have H1 := Lib.hid (And.intro hO1 hF01); clear hO1 hF1 hF01)
    | ((with_reducible refine list_convert (fun K hK => ?_));  refine strB _ rfl xs rfl (by omega) (fun w2 C hC1 hC2 hB2 hF2 => ?_); refine hK _ _ (Fr.ext hF2) ?_; have hP2 : Blk w2 w1.heap.size [.slice (some ⟨g1, 0, none⟩) 0 c1, .int .i64 0] tMem (0, 0) := hF2.blk (Blk.drew (Blk.new (cs := [_, _]))) (by simp); have hF12 : Fr [] w1 w2 := Fr.trans (S := []) (S' := []) (Fr.drew (Fr.alloc Fr.refl)) hF2 (by simp); have hB2' : Bs w2 (w1.heap.size + 1) 0 xs := (by simpa using hB2); have hs2 := hB2'.lt; have hG2 := hG.fr (H1.out.2.trans hF12 (by simp)) (by simp); clear hF2 hB2)
    | go_at_call 21; refine (hnr _ _ _ hB2' hC1 hC2 hG2.size).mono ?_; rintro e w3 ⟨rfl, hR3, hF3⟩; (try go_simp); refine hK _ _ (Fr.ext hF3) ?_; have h3l := hR3.lt
    | go_at_call 22; refine (ho0 _).mono ?_; rintro e w4 ⟨B, b, rfl, hO4, hb1, hb2, hF4⟩; have hF34 : Fr [] w2 w4 := hF3.trans (Fr.trans (S := []) (by exact frP) hF4 (by simp)) (by simp); have hR4 := hR3.fr (S := []) (Fr.trans (S := []) (by exact frP) hF4 (by simp)) (by simp) (by simp); have hs4 := hF34.size
    | go_at_call 61; have hF14 : Fr [] w1 w4 := hF12.trans hF34 (by simp); refine (extractV1 (base := B0) (hxs.out ▸ hR4) hO4 (hG2.fr hF34 (by simp)) HC.out.1 HC.out.2.1 HC.out.2.2.1 HC.out.2.2.2.1 HC.out.2.2.2.2 (hF34.blk hP2 (by simp)) (H1.out.1.fr hF14 (by simp)) (by simp [Value.ownBlock]; omega) (by omega) (by omega) (by omega) (by simp [Value.ownBlock]; omega) (by simp [Value.ownBlock]; omega)).mono ?_; rintro e w5 ⟨rfl, v5, hP5, hV5, hF5⟩; have hF04 : Fr [] w w4 := H1.out.2.trans hF14 (by simp); have hF05 : Fr [] w w5 := Fr.trans (S := []) hF04 hF5 (by intro k hk hl; exfalso; rcases List.mem_cons.1 hk with h | hk; omega; rcases List.mem_cons.1 hk with h | hk; omega; have h3 : k = g1 := (by simpa [Value.ownBlock] using hk); omega); have hA5 : w5.cell? ⟨0, 0, none⟩ = some (.iface 193 (.pointer (some aa))) := (by rw [World.cell?_of_block (w := w) (hF05.block 0 (by omega) (by simp))]; exact hA); obtain ⟨g5, c5, e5, _⟩ := hV5.form; subst e5; have pc5 := hP5.cells; obtain ⟨g5', c5', e5', _, hB5⟩ := hV5.bs; cases e5'; clear oc1
    | ((with_reducible refine list_convert (fun K hK => ?_));  refine strOf _ rfl hB5 rfl rfl ?_)
    | (refine wre 2 [(0,.free),(4,.free),(5,.free),(6,.look),(1,.grow),(2,.grow),(3,.free),(7,.act),(8,.act),(9,.free)] ?_)
    | (with_reducible refine wEI ?_; (first | (refine wEN ?_; skip) | (refine wEF rfl (fun K hK => ?_); go_simp) | (refine wEL rfl rfl (fun K hK => ?_); go_simp) | (refine wER rfl (fun K hK => ?_); go_simp) | (refine wEM rfl (fun K hK => ?_); go_simp; try refine ⟨_, _, ⟨rfl, rfl⟩, ?_⟩) | (refine wpE_growp rfl rfl (fun K hK => ?_); simp only [List.getElem_toArray, List.getElem_cons_succ, List.getElem_cons_zero]; (first | ((with_reducible refine op_convert ?_);  refine strF _ rfl B0 (by simp; omega) [] rfl (by simp) (fun v1 w1 hO1 hF1 => ?_); obtain ⟨g1, c1, e1, hg1, hgl1, hc1⟩ := hO1.form; subst e1; have hF01 : Fr [] w w1 := Fr.trans (S := []) (by exact frP) hF1 (by simp); have hs1 := hF01.size; have hlt0 : w.heap.size < w1.heap.size := (by have := hF1.size; simp at this; omega); have oc1 := (hF1.blk (b := w.heap.size) (cs := [.bool false, .bool false, .bool false, .bool false, .bool false, .bool false, .int .u64 0, .int .u64 0, .int .u64 0, .int .u64 0, .int .u64 0, .int .u64 0]) (T := 35) (fr := (0, 0)) Blk.new (by simp)).cells; have H1 := Lib.hid (And.intro hO1 hF01); clear hO1 hF1 hF01) | ((with_reducible refine op_convert ?_);  refine strB _ rfl xs rfl (by omega) (fun w2 C hC1 hC2 hB2 hF2 => ?_); refine hK _ _ (Fr.ext hF2) ?_; have hP2 : Blk w2 w1.heap.size [.slice (some ⟨g1, 0, none⟩) 0 c1, .int .i64 0] tMem (0, 0) := hF2.blk (Blk.drew (Blk.new (cs := [_, _]))) (by simp); have hF12 : Fr [] w1 w2 := Fr.trans (S := []) (S' := []) (Fr.drew (Fr.alloc Fr.refl)) hF2 (by simp); have hB2' : Bs w2 (w1.heap.size + 1) 0 xs := (by simpa using hB2); have hs2 := hB2'.lt; have hG2 := hG.fr (H1.out.2.trans hF12 (by simp)) (by simp); clear hF2 hB2) | ((with_reducible refine op_convert ?_);  refine strOf _ rfl hB5 rfl rfl ?_))) | (refine wEG rfl (fun K hK => ?_); go_simp) | (refine wpE_actp rfl rfl (fun K hK => ?_); simp only [List.getElem_toArray, List.getElem_cons_succ, List.getElem_cons_zero]; (first | ((with_reducible refine op_convert ?_);  refine strF _ rfl B0 (by simp; omega) [] rfl (by simp) (fun v1 w1 hO1 hF1 => ?_); obtain ⟨g1, c1, e1, hg1, hgl1, hc1⟩ := hO1.form; subst e1; have hF01 : Fr [] w w1 := Fr.trans (S := []) (by exact frP) hF1 (by simp); have hs1 := hF01.size; have hlt0 : w.heap.size < w1.heap.size := (by have := hF1.size; simp at this; omega); have oc1 := (hF1.blk (b := w.heap.size) (cs := [.bool false, .bool false, .bool false, .bool false, .bool false, .bool false, .int .u64 0, .int .u64 0, .int .u64 0, .int .u64 0, .int .u64 0, .int .u64 0]) (T := 35) (fr := (0, 0)) Blk.new (by simp)).cells; have H1 := Lib.hid (And.intro hO1 hF01); clear hO1 hF1 hF01) | ((with_reducible refine op_convert ?_);  refine strB _ rfl xs rfl (by omega) (fun w2 C hC1 hC2 hB2 hF2 => ?_); refine hK _ _ (Fr.ext hF2) ?_; have hP2 : Blk w2 w1.heap.size [.slice (some ⟨g1, 0, none⟩) 0 c1, .int .i64 0] tMem (0, 0) := hF2.blk (Blk.drew (Blk.new (cs := [_, _]))) (by simp); have hF12 : Fr [] w1 w2 := Fr.trans (S := []) (S' := []) (Fr.drew (Fr.alloc Fr.refl)) hF2 (by simp); have hB2' : Bs w2 (w1.heap.size + 1) 0 xs := (by simpa using hB2); have hs2 := hB2'.lt; have hG2 := hG.fr (H1.out.2.trans hF12 (by simp)) (by simp); clear hF2 hB2) | ((with_reducible refine op_convert ?_);  refine strOf _ rfl hB5 rfl rfl ?_))) | (refine wEA rfl (fun K hK => ?_); go_simp))))
  go_ret2
  exact ⟨rfl, hF05⟩
end Go.Proofs.Wx

namespace Go.Proofs.Wx
open Go Go.RowKit
def blkA (b : BlkM) : Value := .agg #[.int .u64 b.cid.v, .int .u64 b.cid.codec, .int .u64 b.cid.code, .string ⟨b.cid.dig.toArray⟩, .string ⟨b.data.toArray⟩]
theorem CidM.Ok.ok1 {c : CidM} (h : c.Ok) : c.Ok1 := by
  have := h.len
  rcases h.kind with ⟨h0, h1, h2, h3⟩ | ⟨h0, h1, h2⟩ <;> exact ⟨by omega, by omega, by omega, by omega⟩
set_option maxRecDepth 1000000 in
set_option maxHeartbeats 12800000 in
theorem spSection {w : World} {b : BlkM} (hok : b.cid.Ok) (hd : b.data.length ≤ 32768) : Calls Tryz.prog 19 #[blkA b] w fun e w' => e = .returned (.string ⟨(secB b).toArray⟩) ∧ Fr [] w w' := by
  have hle := hok.le
  have h1 := fun w => spCidBytes (w := w) hok.ok1
  obtain ⟨N, hN⟩ : ∃ N, Hid (N = b.cid.bytes.length + b.data.length) := ⟨_, rfl⟩
  have hN1 : N < 1000000 := by have := hN.out; omega
  have hS : (b.cid.bytes.length : Int) + (b.data.length : Int) = (N : Int) := by have := hN.out; omega
  have h2 := fun w => spVarint (w := w) (n := N) (by omega)
  have hv := Lib.uvarint_length64 (x := N) (by omega)
  have wL : IntKind.u64.wrap (N : Int) = (N : Int) := by simp [IntKind.wrap, IntKind.bits, IntKind.signed]; omega
  have wI : IntKind.i64.wrap (N : Int) = (N : Int) := by simp [IntKind.wrap, IntKind.bits, IntKind.signed]; omega
  have hb : secB b = Lib.uvarint N ++ (b.cid.bytes ++ b.data) := by rw [hN.out]; simp [secB, BlkM.inner]
  rw [hb]
  clear hb hok
  unfold blkA
  unfold cidA at *
  go_enter Tryz.func19, Tryz.ntmps19
  go_wp2_with (first
    | go_at_call 34; refine (h1 _).mono ?_; rintro e w1 ⟨rfl, hF1⟩; clear h1; have hT := hF1.blk (b := w.heap.size) (Blk.newAt rfl) (by simp); have tc := hT.cells; have hF01 : Fr [] w w1 := Fr.trans (S := []) (by exact frP) hF1 (by simp); clear hF1
    | go_at_call 25; refine (h2 _).mono ?_; rintro e w2 ⟨g1, c1, rfl, hg1, hB1, hF2⟩; (try go_simp); refine hK _ _ (Fr.ext hF2) ?_; clear h2
    | (with_reducible refine wEI ?_); (refine wpE_str _ rfl rfl rfl hB1 rfl rfl ?_); (try go_simp); clear hB1
    | (refine wre 2 [(0,.free),(1,.free),(2,.free),(3,.look),(4,.free),(5,.free),(6,.free),(9,.free),(11,.free),(12,.look),(7,.grow),(8,.look),(10,.free),(13,.free),(14,.free)] ?_)
    | (with_reducible refine wEI ?_; (first | (refine wEN ?_; skip) | (refine wEF rfl (fun K hK => ?_); go_simp) | (refine wEL rfl rfl (fun K hK => ?_); go_simp) | (refine wER rfl (fun K hK => ?_); go_simp) | (refine wEM rfl (fun K hK => ?_); go_simp; try refine ⟨_, _, ⟨rfl, rfl⟩, ?_⟩) | (refine wEG rfl (fun K hK => ?_); go_simp) | (refine wEA rfl (fun K hK => ?_); go_simp))))
  go_ret
  exact ⟨by simp, hF01.trans (Fr.trans (S := []) (Fr.drew Fr.refl) hF2 (by simp)) (by simp)⟩
/-- Blocks in a row of a slice. -/
def BlksAt (w : World) (ad : Option Addr) (l : List BlkM) : Prop := ∀ i x, l[i]? = some x → ∃ b o, ad = some ⟨b, o, none⟩ ∧ w.cell? ⟨b, o + i * 5, none⟩ = some (.int .u64 x.cid.v) ∧ w.cell? ⟨b, o + i * 5 + 1, none⟩ = some (.int .u64 x.cid.codec) ∧ w.cell? ⟨b, o + i * 5 + 2, none⟩ = some (.int .u64 x.cid.code) ∧
  w.cell? ⟨b, o + i * 5 + 3, none⟩ = some (.string ⟨x.cid.dig.toArray⟩) ∧ w.cell? ⟨b, o + i * 5 + 4, none⟩ = some (.string ⟨x.data.toArray⟩)
theorem BlksAt.ext {w w' : World} {ad : Option Addr} {l : List BlkM} (h : BlksAt w ad l) (he : w.Ext w') : BlksAt w' ad l := fun i c hc => by
  obtain ⟨b, o, ha, h1, h2, h3, h4, h5⟩ := h i c hc
  exact ⟨b, o, ha, he.cell h1, he.cell h2, he.cell h3, he.cell h4, he.cell h5⟩
/-- A car as it is handed on. -/
structure CarAt (w : World) (ra ba : Option Addr) (c : CarM) : Prop where
  roots : CidsAt w ra c.roots
  blocks : BlksAt w ba c.blocks
theorem CarAt.ext {w w' : World} {ra ba : Option Addr} {c : CarM} (h : CarAt w ra ba c) (he : w.Ext w') : CarAt w' ra ba c := ⟨h.roots.ext he, h.blocks.ext he⟩
abbrev carA (ra ba : Option Addr) (rc bc : Nat) (c : CarM) : Value := .agg #[.slice ra c.roots.length rc, .slice ba c.blocks.length bc]
def car1Rel (w : World) (pre : List UInt8) (l : List BlkM) (k : Nat) (s3 s12 : Value) (wr : World) : Prop :=
  ∃ l1 l2 X, l = l1 ++ l2 ∧ l2.length = k ∧ s12 = .int .i64 l1.length ∧ s3 = .string ⟨X⟩ ∧ X.toList = pre ++ secsB l1 ∧ Fr [] w wr
set_option maxRecDepth 1000000 in
set_option maxHeartbeats 12800000 in
theorem spCar1 {w : World} {ra ba : Option Addr} {rc bc : Nat} {c : CarM} (h : CarAt w ra ba c) (hok : c.Ok) :
    Calls Tryz.prog 8 #[carA ra ba rc bc c] w fun e w' => e = .returned (.string ⟨c.bytes.toArray⟩) ∧ Fr [] w w' := by
  have hhd := fun (w' : World) (he : w.Ext w') => spHeader (cap := rc) (h.roots.ext he) hok.roots hok.root
  have hlh := headerB_length hok.roots hok.root
  have hcb : c.bytes = headerB c.roots ++ secsB c.blocks := rfl
  rw [hcb]
  obtain ⟨H, hH⟩ : ∃ H, Hid (H = headerB c.roots) := ⟨_, rfl⟩
  rw [← hH.out] at hhd hlh ⊢
  have HL := Lib.hid (And.intro hok h)
  clear hcb hok h
  unfold carA
  go_enter Tryz.func8, Tryz.ntmps8
  go_wp2_with (first
    | go_at_call 18; refine (hhd _ (World.Ext.alloc _ _)).mono ?_; rintro e w1 ⟨rfl, hF1⟩; clear hhd; have hT := hF1.blk (b := w.heap.size) (Blk.newAt rfl) (by simp); have tc := hT.cells; have hF01 : Fr [] w w1 := Fr.trans (S := []) (by exact frP) hF1 (by simp); clear hF1)
  clear tc
  go_loopg [3, 12] c.blocks.length (fun k s3 s12 wr => car1Rel w H c.blocks k s3 s12 wr)
  case atStart => exact ⟨[], c.blocks, _, rfl, rfl, rfl, rfl, by simp [secsB], hF01⟩
  case round =>
    obtain ⟨l1, l2, X, hll, hk, rfl, rfl, hX, hFr⟩ := hrel
    obtain ⟨Y, rfl⟩ : ∃ Y : List UInt8, X = Y.toArray := ⟨X.toList, by simp⟩
    have hY : Y = H ++ secsB l1 := by simpa using hX
    clear hX hF01 hT
    cases l2 with
    | nil =>
      have hz : ¬ (l1.length : Int) < (c.blocks.length : Int) := by rw [hll]; simp
      have e1 : c.blocks = l1 := by simpa using hll
      have HY := Lib.hid (And.intro hY e1)
      clear hll hk hY e1
      go_wp2
      go_ret
      refine ⟨?_, hFr⟩
      rw [HY.out.1, HY.out.2]; rfl
    | cons x l2 =>
      have hz : (l1.length : Int) < (c.blocks.length : Int) := by rw [hll]; simp; omega
      have hgc : c.blocks[l1.length]? = some x := by rw [hll]; simp
      have hxm := List.mem_of_getElem? hgc
      obtain ⟨b, o, rfl, x1, x2, x3, x4, x5⟩ := (HL.out.2.blocks.ext (Fr.ext hFr)) _ _ hgc
      have hse := fun w => spSection (w := w) (HL.out.1.cid x hxm) (HL.out.1.data x hxm)
      have hsl := secB_length (HL.out.1.cid x hxm) (HL.out.1.data x hxm)
      have hl50 : l1.length + l2.length + 1 ≤ 50 := by have := HL.out.1.blocks; rw [hll] at this; simp at this; omega
      have hYl : Y.length ≤ 1700000 := by
        have h1 := secsB_length (l := l1) (fun x hx => HL.out.1.cid x (by rw [hll]; simp [hx])) (fun x hx => HL.out.1.data x (by rw [hll]; simp [hx]))
        have h2 : 32992 * l1.length ≤ 32992 * 50 := Nat.mul_le_mul (Nat.le_refl _) (by omega)
        rw [hY]; simp; omega
      unfold blkA at hse
      have HQ := Lib.hid (And.intro hll (And.intro hk hY))
      clear hll hk hY hgc hxm
      go_wp2_with (first
        | go_at_call 19; (with_reducible refine (hse _).mono ?_); rintro e w4 ⟨rfl, hF4⟩; clear hse)
      go_roundg l2.length
      case measure => have := HQ.out.2.1; simp at this; omega
      case rel =>
        obtain ⟨hll, hk, hY⟩ := HQ.out
        refine ⟨l1 ++ [x], l2, _, by rw [hll]; simp, rfl, by first | (rw [wrap64_1 (by omega)]; simp; done) | (simp; done), rfl, ?_, hFr.trans (Fr.trans (S := []) (by exact frP) hF4 (by simp)) (by simp)⟩
        simp [hY, secsB]
theorem own_blk {w : World} {base g n : Nat} {e : TypeId} {cs : List Value} (h : Blk w g cs e (0, 0)) (hb : base ≤ g) (hl : cs.length = n) (hn : n ≤ 1000000) : w.ownsRow base e 1 (.slice (some ⟨g, 0, none⟩) n n) n cs :=
  ⟨by simp [hl], .inr ⟨g, n, cs.toArray, rfl, hb, h, Nat.le_refl _, by unfold maxLen; omega, by simp [hl], by subst hl; simp⟩⟩
/-- append of one value of one cell that was just laid. -/
theorem app1v {o : Oper} {a : Act} {K : Act → World → Prop} {Q : Exit → Act → World → Prop} {w : World} (s x : Operand) (T e : TypeId)
    (ho : o.op = .call { callee := .builtin .append, args := #[s, x], argTypes := #[T, T] }) {z : Value} {q : Nat} (hT : Tryz.prog.underlying T = some (.slice e)) (hi : (Tryz.prog.info? e).map (fun i => (i.zero, i.size, i.bytes)) = some (some z, 1, q)) (hz : z.cells.size = 1) (hq : q ≤ 1000)
    (base : Nat) (v : Value) (n : Nat) (xs : List Value) (hs : a.eval s = v) (hown : w.ownsRow base e 1 v n xs) (b c : Nat) (hx : a.eval x = .slice (some ⟨b, 0, none⟩) 1 c) (u : Value) (hu : u.oneCell' = true) (hc : w.cell? ⟨b, 0, none⟩ = some u)
    (hl : n < 1000000000) (hbase : base ≤ w.heap.size)
    (h : ∀ v' w', w'.ownsRow base e 1 v' (n + 1) (xs ++ [u]) → Fr v.ownBlock.toList w w' → K (a.put o.dst v') w') : o.wp Tryz.prog a w K Q := by
  refine appOwn s x T ho base e z 1 q hT hi hz (by omega) v n xs hs hown ⟨b, 0, none⟩ 1 c [u] hx rfl ?_ (by intro y hy; simp at hy; subst hy; exact hu) (by omega) ?_ hbase h
  · intro j y hy
    match j, hy with
    | 0, hy => simp at hy; subst hy; rw [Addr.add_lit]; exact hc
  · have := Nat.mul_le_mul (show n + 1 ≤ 1000000000 by omega) hq
    omega
def placesL (c : CarM) (n : Nat) : List Value := (List.range (n + 1)).map fun i => .int .i64 ((headerB c.roots).length + (secsB (c.blocks.take i)).length : Nat)
theorem placesL_get {c : CarM} {n i : Nat} (h : i ≤ n) : (placesL c n)[i]? = some (.int .i64 ((headerB c.roots).length + (secsB (c.blocks.take i)).length : Nat)) := by simp [placesL, show i < n + 1 by omega]
theorem placesL_succ (c : CarM) (n : Nat) : placesL c (n + 1) = placesL c n ++ [.int .i64 ((headerB c.roots).length + (secsB (c.blocks.take (n + 1))).length : Nat)] := by simp [placesL, List.range_succ]
def plRel (w : World) (base : Nat) (c : CarM) (k : Nat) (s3 s4 s16 : Value) (wr : World) : Prop :=
  ∃ i Q, s16 = .int .i64 (i : Nat) ∧ i + k = c.blocks.length ∧ s3 = .int .i64 (Q : Nat) ∧ Hid (Q = (headerB c.roots).length + (secsB (c.blocks.take i)).length) ∧ wr.ownsRow base 3 1 s4 (i + 1) (placesL c i) ∧ Fr [] w wr
set_option maxRecDepth 1000000 in
set_option maxHeartbeats 12800000 in
theorem spPlaces {w : World} {ra ba : Option Addr} {rc bc : Nat} {c : CarM} (h : CarAt w ra ba c) (hok : c.Ok) :
    Calls Tryz.prog 17 #[carA ra ba rc bc c] w fun e w' => ∃ g cp, e = .returned (.slice (some ⟨g, 0, none⟩) (c.blocks.length + 1) cp) ∧ w.heap.size ≤ g ∧ g < w'.heap.size ∧
      (∀ i, i ≤ c.blocks.length → w'.cell? ⟨g, i, none⟩ = some (.int .i64 ((headerB c.roots).length + (secsB (c.blocks.take i)).length : Nat))) ∧ Fr [] w w' := by
  have hhd := fun (w' : World) (he : w.Ext w') => spHeader (cap := rc) (h.roots.ext he) hok.roots hok.root
  have hlh := headerB_length hok.roots hok.root
  have HL := Lib.hid (And.intro hok h)
  clear hok h
  unfold carA
  obtain ⟨H, hH⟩ : ∃ H, Hid (H = headerB c.roots) := ⟨_, rfl⟩
  rw [← hH.out] at hhd hlh
  go_enter Tryz.func17, Tryz.ntmps17
  go_wp2_with (first
    | go_at_call 18; refine (hhd _ (World.Ext.alloc _ _)).mono ?_; rintro e w1 ⟨rfl, hF1⟩; clear hhd; have hT := hF1.blk (b := w.heap.size) (Blk.newAt rfl) (by simp); have tc := hT.cells; have hF01 : Fr [] w w1 := Fr.trans (S := []) (by exact frP) hF1 (by simp); clear hF1; have htl := hT.lt)
  clear tc
  have hO1 : (w1.alloc (.cells #[.int .i64 (H.length : Nat)] 3)).ownsRow w1.heap.size 3 1 (.slice (some ⟨w1.heap.size, 0, none⟩) 1 1) 1 (placesL c 0) := own_blk (Blk.conv (Blk.newAt (cs := [.int .i64 (H.length : Nat)]) rfl) (by simp [placesL, secsB, hH.out])) (Nat.le_refl _) (by simp [placesL]) (by omega)
  have hF02 : Fr [] w (w1.alloc (.cells #[.int .i64 (H.length : Nat)] 3)) := hF01.trans (Fr.alloc Fr.refl : Fr [] w1 _) (by simp)
  have hbs : w1.heap.size < (w1.alloc (.cells #[.int .i64 (H.length : Nat)] 3)).heap.size := by simp
  generalize w1.alloc (.cells #[.int .i64 (H.length : Nat)] 3) = w2 at *
  have hB0 : w.heap.size ≤ w1.heap.size := hF01.size
  generalize w1.heap.size = B0 at *
  go_loopg [3, 4, 16] c.blocks.length (fun k s3 s4 s16 wr => plRel w B0 c k s3 s4 s16 wr)
  case atStart => exact ⟨0, H.length, rfl, by omega, rfl, by show _ = _; simp [secsB, hH.out], hO1, hF02⟩
  case round =>
    obtain ⟨i, Q, rfl, hik, rfl, hQ, hO, hFr⟩ := hrel
    clear hO1 hF02 hF01 hT
    by_cases hi : i < c.blocks.length
    · have hz : (i : Int) < (c.blocks.length : Int) := by omega
      obtain ⟨x, hx⟩ : ∃ x, x = c.blocks[i] := ⟨_, rfl⟩
      have hgc : c.blocks[i]? = some x := by rw [hx]; simp [hi]
      have hxm := List.mem_of_getElem? hgc
      obtain ⟨b, o, rfl, x1, x2, x3, x4, x5⟩ := (HL.out.2.blocks.ext (Fr.ext hFr)) _ _ hgc
      have hse := fun w => spSection (w := w) (HL.out.1.cid x hxm) (HL.out.1.data x hxm)
      have hsl := secB_length (HL.out.1.cid x hxm) (HL.out.1.data x hxm)
      have htk : (secsB (c.blocks.take (i + 1))).length = (secsB (c.blocks.take i)).length + (secB x).length := by
        rw [List.take_succ, hgc]; simp [secsB]
      have hi50 : i < 50 := by have := HL.out.1.blocks; omega
      have hQ2 : Q ≤ 1700000 := by
        have h1 := secsB_length (l := c.blocks.take i) (fun x hx => HL.out.1.cid x (List.mem_of_mem_take hx)) (fun x hx => HL.out.1.data x (List.mem_of_mem_take hx))
        have h2 : 32992 * (c.blocks.take i).length ≤ 32992 * 50 := Nat.mul_le_mul (Nat.le_refl _) (by simp; omega)
        have h3 := headerB_length HL.out.1.roots HL.out.1.root
        rw [hQ.out]; omega
      unfold blkA at hse
      have hQz : (Q : Int) ≤ 1700000 := by omega
      have hsz : ((secB x).length : Int) ≤ 32992 := by omega
      have HQ := Lib.hid (And.intro hik (And.intro hgc htk))
      have hbr := hFr.size
      have hB1 : B0 ≤ wr.heap.size := by obtain ⟨g, cp, rest, _, h1, h2⟩ := own_rowS hO (by omega); have := h2.lt; omega
      clear hik hgc hxm htk hx
      go_wp2_with (first
        | go_at_call 19; (with_reducible refine (hse _).mono ?_); rintro e w4 ⟨rfl, hF4⟩; clear hse; have hO4 := own_fr (own_fr (S := []) hO (Fr.alloc Fr.refl) (by simp)) hF4 (by simp); have h4s := hF4.size; simp only [World.size_alloc] at h4s
        | ((with_reducible refine list_bi .append (fun K hK => ?_));  refine app1v _ _ 49 3 rfl int_slice int_info rfl (by omega) B0 _ (i + 1) _ rfl (own_fr (S := []) hO4 (by exact frP) (by simp)) w4.heap.size 1 rfl (.int .i64 ((Q : Int) + ((secB x).length : Int))) rfl (World.cell?_alloc_new _ _ _ 0) (by omega) (by simp; omega) (fun v5 w5 hO5 hF5 => ?_)))
      go_roundg (c.blocks.length - (i + 1))
      case measure => have := HQ.out.1; omega
      case rel =>
        obtain ⟨hik, hgc, htk⟩ := HQ.out
        refine ⟨i + 1, Q + (secB x).length, by first | (rw [wrap64_1 (by omega)]; done) | (simp; done), by omega, by first | rfl | (push_cast; rfl), ?_, ?_, ?_⟩
        · show _ = _; rw [htk, hQ.out]; omega
        · rw [placesL_succ, htk]
          have e1 : (headerB c.roots).length + ((secsB (c.blocks.take i)).length + (secB x).length) = Q + (secB x).length := by rw [hQ.out]; omega
          rw [e1]
          exact hO5
        · have hF14 : Fr [] wr w4 := Fr.trans (S := []) (Fr.alloc Fr.refl) hF4 (by simp)
          have hF45 := Fr.trans (w := w4) (Fr.alloc Fr.refl) hF5 (fun k hk _ => hk)
          refine (hFr.trans hF14 (by simp)).trans hF45 ?_
          intro k hk hl
          have := own_ge hO k hk
          omega
    · have hz : ¬ (i : Int) < (c.blocks.length : Int) := by omega
      have hie : i = c.blocks.length := by omega
      have HI := Lib.hid hie
      clear hie hik
      go_wp2
      obtain ⟨g, cp, rest, hv, hgb, hgB⟩ := own_rowS hO (by omega)
      subst hv
      go_ret
      refine ⟨g, ⟨cp, by rw [HI.out]; rfl⟩, by omega, hgB.lt, fun j hj => ?_, hFr⟩
      rw [hgB.cell, List.getElem?_append_left (by simp [placesL]; have := HI.out; omega)]
      have := placesL_get (c := c) (n := i) (i := j) (by have := HI.out; omega)
      rw [this]; rfl
end Go.Proofs.Wx

namespace Go.Proofs.Wx
open Go Go.RowKit
def oneCid : CidM := ⟨1, 85, 0, [97]⟩
def oneCar : CarM := ⟨[oneCid], []⟩
theorem oneCid_ok : oneCid.Ok := ⟨by decide, .inr ⟨rfl, by decide, by decide⟩⟩
theorem oneCar_ok : oneCar.Ok := ⟨by decide, by decide, fun x hx => by simp [oneCar] at hx; subst hx; exact oneCid_ok, fun b hb => by simp [oneCar] at hb, fun b hb => by simp [oneCar] at hb⟩
theorem oneCar_len : oneCar.bytes.length < 512 := by
  have h1 : (hbB oneCar.roots).length ≤ 100 := by simp [hbB, hdB, rootsB, oneCar, linkB, CidM.bytes, oneCid, mhB, Lib.uvarint_small, sRoots, sVersion]
  have h2 : (Lib.uvarint (hbB oneCar.roots).length).length = 1 := by rw [Lib.uvarint_small (by omega)]; rfl
  have h3 : (secsB oneCar.blocks).length = 0 := by simp [secsB, oneCar]
  simp only [CarM.bytes, headerB, List.length_append]; omega
theorem spSum0 {w : World} {s : List UInt8} : Calls Tryz.prog 60 #[.int .u64 0, .string ⟨s.toArray⟩] w fun e w' => e = .returned (.tuple #[.string ⟨s.toArray⟩, .bool true]) ∧ Fr [] w w' := by
  go_enter Tryz.func60, Tryz.ntmps60
  go_wp2
  go_ret2
  exact ⟨rfl, Fr.refl⟩
theorem spFitting {w : World} : Calls Tryz.prog 27 #[.int .u64 1, .int .u64 85, .int .u64 0, .string ⟨#[97]⟩] w fun e w' => e = .returned (cidA oneCid) ∧ Fr [] w w' := by
  go_enter Tryz.func27, Tryz.ntmps27
  go_wp2_with (first
    | go_at_call 60; refine (spSum0 (s := [97])).mono ?_; rintro e w1 ⟨rfl, hF1⟩; have hZ := hF1.blk (b := w.heap.size) (cs := [.int .u64 0, .int .u64 0, .int .u64 0, .string ⟨#[]⟩]) (T := 45) (fr := (0, 0)) Blk.new (by simp)
    | (with_reducible refine list_store 45 (fun K hK => ?_);  refine storeRow _ _ _ rfl w.heap.size [.int .u64 1, .int .u64 85, .int .u64 0, .string ⟨#[97]⟩] rfl rfl _ _ hZ (by kernel_rfl) rfl rfl (fun w2 hZ2 hF2 => ?_)))
  obtain ⟨fd, hu⟩ := isStruct_of (P := Tryz.prog) (t := 45) (by kernel_rfl)
  refine bodyPost_ret (results_cell_row rfl _ _ w.heap.size 45 #[.int .u64 1, .int .u64 85, .int .u64 0, .string ⟨#[97]⟩] (0, 0) (.struct fd) rfl ?_ hu rfl (by kernel_rfl)) rfl ?_
  · exact hZ2
  · exact ⟨rfl, Fr.trans (S := []) (S' := [w.heap.size]) (Fr.trans (S := []) (S' := []) (Fr.alloc Fr.refl) hF1 (by simp)) hF2 (by simp)⟩
theorem spPadded {w : World} {n : Nat} (hn : n < 1000000) : Calls Tryz.prog 62 #[hdrA 0 0 51 n (51 + n), .int .u64 3, .int .u64 0] w fun e w' => e = .returned (hdrA 0 0 54 n (54 + n)) ∧ Fr [] w w' := by
  have h1 : (n : Int) < 1000000 := by omega
  go_enter Tryz.func62, Tryz.ntmps62
  go_wp2
  obtain ⟨fd, hu⟩ := isStruct_of (P := Tryz.prog) (t := 38) (by kernel_rfl)
  refine bodyPost_ret (results_cell_row rfl _ _ (w.heap.size + 1) 38 #[.int .u64 0, .int .u64 0, .int .u64 54, .int .u64 n, .int .u64 (51 + n + 3)] (0, 0) (.struct fd) rfl ?_ hu rfl (by kernel_rfl)) rfl ?_
  · have hB : Blk ((w.alloc (.cells #[.int .u64 0, .int .u64 0, .int .u64 54, .int .u64 n, .int .u64 (51 + n + 3)] 38)).alloc (.cells #[.int .u64 0, .int .u64 0, .int .u64 54, .int .u64 n, .int .u64 (51 + n + 3)] 38)) (w.heap.size + 1) [.int .u64 0, .int .u64 0, .int .u64 54, .int .u64 n, .int .u64 (51 + n + 3)] 38 (0, 0) := Blk.newAt (by simp)
    exact hB
  · exact ⟨by simp [hdrA]; omega, by exact frP⟩
set_option maxRecDepth 1000000 in
set_option maxHeartbeats 12800000 in
theorem spWrFile {w : World} {ra ba : Option Addr} {rc bc : Nat} {c : CarM} (h : CarAt w ra ba c) (hok : c.Ok) (hl : c.bytes.length < 512) :
    Calls Tryz.prog 29 #[carA ra ba rc bc c, .int .u64 0, .int .u8 3, .int .u8 0] w fun e w' => e = .returned (.string ⟨(fileB 0 0 54 c.bytes.length 0 c.bytes []).toArray⟩) ∧ Fr [] w w' := by
  obtain ⟨xs, hxs⟩ : ∃ xs, Hid (xs = c.bytes) := ⟨_, rfl⟩
  have hCar := fun (w' : World) (hF : Fr [] w w') => spCar1 (rc := rc) (bc := bc) (h.ext (Fr.ext hF)) hok
  obtain ⟨n, hn⟩ : ∃ n, Hid (n = xs.length) := ⟨_, rfl⟩
  rw [← hxs.out, ← hn.out] at hl ⊢
  have hnh := fun w => spNewHead (n := n) (by omega) w
  have hpd := fun w => spPadded (w := w) (n := n) (by omega)
  have hfb := fun w => spFile (w := w) (a := 0) (b := 0) (c := 54) (d := n) (e := 0) (data := xs) (index := []) (by omega) (by omega) (by rw [← hn.out]; omega) (by simp) (by omega)
  have HCar := Lib.hid hCar
  have HP := Lib.hid (And.intro hnh (And.intro hpd hfb))
  have hlz : (n : Int) < 512 := by omega
  have hwx : IntKind.u64.wrap (xs.length : Int) = (n : Int) := by rw [← hn.out, IntKind.wrap_u64]; omega
  clear hCar hnh hpd hfb
  go_enter Tryz.func29, Tryz.ntmps29
  go_wp2_with (first
    | go_at_call 8; refine (HCar.out _ (by exact frP)).mono ?_; rw [← hxs.out]; rintro e w1 ⟨rfl, hF1⟩; have hF01 : Fr [] w w1 := Fr.trans (S := []) (by exact frP) hF1 (by simp); clear hF1
    | go_at_call 11; refine (HP.out.1 _).mono ?_; rintro e w2 ⟨rfl, hF2⟩; have hF02 : Fr [] w w2 := Fr.trans (S := []) hF01 hF2 (by simp)
    | go_at_call 62; refine (HP.out.2.1 _).mono ?_; rintro e w3 ⟨rfl, hF3⟩; have hF03 : Fr [] w w3 := Fr.trans (S := []) (by exact frP) hF3 (by simp)
    | go_at_call 10; refine (HP.out.2.2 _).mono ?_; rintro e w4 ⟨rfl, hF4⟩)
  go_ret
  exact ⟨rfl, Fr.trans (S := []) (S' := []) (by exact frP) hF4 (by simp)⟩
end Go.Proofs.Wx
