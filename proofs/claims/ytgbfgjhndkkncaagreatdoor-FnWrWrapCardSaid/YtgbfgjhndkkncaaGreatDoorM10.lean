import Derived.Test.YtgbfgjhndkkncaaGreatDoorM7
import Derived.Test.YtgbfgjhndkkncaaGreatDoorM8
import Derived.Test.YtgbfgjhndkkncaaGreatDoorM9
import Derived.Shelf.Small.Bits
import Derived.Shelf.Small.Wraps
import Derived.Shelf.Strconv.Itoa0
import Derived.Shelf.LaysM
import Derived.Shelf.Bytes.Len
import Derived.Shelf.Bytes.TryGrow
import Derived.Shelf.Bytes.GrowSliceCatch
import Derived.Shelf.Bytes.GrowSlice
import Derived.Shelf.Bytes.String
import Derived.Shelf.Bytes.Reset
import Derived.Ground.MnProg
import Derived.Shelf.Bin.LEPutUint32
import Derived.Shelf.Bin.LEUint64
import Derived.Shelf.Bin.LEPutUint64
import Derived.Shelf.Bin.BEUint16
import Derived.Shelf.Bin.BEUint32
import Derived.Shelf.Bin.BEUint64
import Derived.Shelf.Bin.LEPutUint32Panics
import Derived.Shelf.Bin.LEUint64Panics
import Derived.Shelf.Bin.LEPutUint64Panics
import Derived.Shelf.Bin.BEUint16Panics
import Derived.Shelf.Bin.BEUint32Panics
import Derived.Shelf.Bin.BEUint64Panics
import Derived.Shelf.Bin.PutUvarint
import Derived.Shelf.Sort.Plain
import Derived.Shelf.Bytes.ResetKept
import Derived.Ground.GgsProg
import Derived.Shelf.GgSortFunc.Insertion
import Derived.Shelf.Bin.ReadersZ
import Derived.Shelf.GgSortFunc.Small
import Derived.Shelf.GgSortFunc.Compose
import Derived.Shelf.GgSortFunc.LotD
import Derived.Shelf.GgSortFunc.Pivot
import Derived.Shelf.GgSortFunc.Partition
import Derived.Shelf.GgSortFunc.Pdq
import Derived.Shelf.GgSortFunc.Whole
import Derived.Shelf.Bytes.LenAt
import Derived.Shelf.Bytes.StringAt
import Derived.Shelf.Bytes.TryGrowAt
import Derived.Shelf.Bytes.GrowRow0At
import Derived.Shelf.Bytes.GrowRowAt
import Derived.Shelf.Bytes.GrowNilAt
import Derived.Shelf.Bytes.GrowAt
import Derived.Shelf.Bytes.WriteAt
import Derived.Ground.Names2Prog
import Derived.Shelf.Slices.SearchI
import Derived.Shelf.Slices.In.SortNone
import Derived.Shelf.Slices.In.SortNone2
import Derived.Shelf.SlSortFunc.Xorshift
import Derived.Shelf.SlSortFunc.SiftDown
import Derived.Shelf.SlSortFunc.HeapSort
import Derived.Shelf.SlSortFunc.PartialInsertion
import Derived.Test.YtgbfgjhndkkncaaGreatDoorProg
set_option maxRecDepth 100000
set_option maxHeartbeats 1000000
set_option linter.unusedVariables false
set_option linter.unusedSimpArgs false
namespace Go.Proofs.Wx
open Go Go.RowKit
def recC (l : List (CidM × Nat)) : List Value := l.flatMap fun x => [.string ⟨x.1.bytes.toArray⟩, .int .u64 (x.2 : Nat)]
theorem recC_append (a b : List (CidM × Nat)) : recC (a ++ b) = recC a ++ recC b := by simp [recC]
theorem entsAt_snoc : ∀ (p : Nat) (l : List BlkM) (b : BlkM), entsAt p (l ++ [b]) = entsAt p l ++ (if b.cid.code = 0 then [] else [(b.cid, p + (secsB l).length)])
  | p, [], b => by simp [entsAt, secsB]
  | p, x :: l, b => by
    rw [List.cons_append, entsAt, entsAt, entsAt_snoc, List.append_assoc]
    congr 2
    rw [show p + (secB x).length + (secsB l).length = p + (secsB (x :: l)).length by simp [secsB]; omega]
theorem own_mono {base base' : Nat} {w : World} {T : TypeId} {size : Nat} {v : Value} {n : Nat} {xs : List Value} (h : w.ownsRow base T size v n xs) (hb : base' ≤ base) : w.ownsRow base' T size v n xs := by
  refine ⟨h.1, ?_⟩
  rcases h.2 with h2 | ⟨g, cap, cur, h1, h3, h4⟩
  · exact .inl h2
  · exact .inr ⟨g, cap, cur, h1, Nat.le_trans hb h3, h4⟩
theorem rec_slice : Tryz.prog.underlying 146 = some (.slice 159) := by kernel_rfl
theorem rec_info : (Tryz.prog.info? 159).map (fun i => (i.zero, i.size, i.bytes)) = some (some (.agg #[.string ⟨#[]⟩, .int .u64 0]), 2, 24) := by kernel_rfl
theorem make_rec (w : World) : (Instr.makeSlice 146 (.int .i64 0) (.int .i64 0)).run Tryz.prog w = .ok (.slice (some ⟨w.heap.size, 0, none⟩) 0 0) (w.alloc (.cells #[] 159 (0, 0))) := by
  obtain ⟨i, hi, hz, hs, hby⟩ := info_parts rec_info
  have hr := run_make (P := Tryz.prog) w _ _ i (.agg #[.string ⟨#[]⟩, .int .u64 0]) rec_slice hi hz .i64 .i64 0 0 (by omega) (by omega) (by rw [hby]; omega) (by omega)
  rw [hs] at hr
  have e : madeCells (Value.agg #[.string ⟨#[]⟩, .int .u64 0]).cells (0 * 2) = #[] := by simp [madeCells]
  simp only [Int.toNat_zero, e] at hr
  simpa [e] using hr
def ldRel (w : World) (r sb O : Nat) (xs : List UInt8) (p0 base : Nat) (bl : List BlkM) (k : Nat) (wr : World) (s17 s18 : Value) : Prop :=
  ∃ bl1 bl2 v, bl = bl1 ++ bl2 ∧ bl2.length = k ∧ s17 = .int .i64 (p0 + (secsB bl1).length : Nat) ∧ s18 = v ∧ wr.ownsRow base 159 2 v (entsAt p0 bl1).length (recC (entsAt p0 bl1)) ∧
    Rdr wr r sb xs (p0 + (secsB bl1).length) ∧ xs.drop (p0 + (secsB bl1).length) = secsB bl2 ∧ Blk wr O optL 84 (0, 0) ∧ Fr [r] w wr
@[go_sem] theorem field_code (a b c d : Value) (w : World) : (Instr.field 153 (.agg #[a, b, c, d]) 2).run Tryz.prog w = .ok c w := by kernel_rfl
theorem newTwo {W : World} {n : Nat} {t : TypeId} {v u : Value} (e : n = W.heap.size) : ∀ j x, [v, u][j]? = some x → (W.alloc (.cells #[v, u] t)).cell? ((⟨n, 0, none⟩ : Addr).add j) = some x := by
  intro j x hx
  subst e
  match j, hx with
  | 0, hx => simp at hx; subst hx; rw [Addr.add_lit]; exact World.cell?_alloc_new _ _ _ 0
  | 1, hx => simp at hx; subst hx; rw [Addr.add_lit]; exact World.cell?_alloc_new _ _ _ 1
theorem loadIndex {ea : Addr} {w : World} {r sb ix B b : Nat} {c : CarM} (h : Rdr w r sb c.bytes 0) (hO : OptsAt w B b) (hok : c.Ok) (hG : Gl ea w) (hB : B ≠ r) (hb : r < b ∨ b + 8 ≤ r)
    {R : World → Prop} (hLoad : ∀ v w', w'.ownsRow w.heap.size 159 2 v c.ents.length (recC c.ents) → Fr [r] w w' → Rdr w' r sb c.bytes c.bytes.length →
      Calls Tryz.prog 268 #[.pointer (some ⟨ix, 0, none⟩), v] w' fun e w'' => e = .returned .nilIface ∧ R w'') :
    Calls Tryz.prog 37 #[.iface 128 (.pointer (some ⟨ix, 0, none⟩)), .iface 63 (.pointer (some ⟨r, 0, none⟩)), .slice (some ⟨B, 0, none⟩) 8 8] w fun e w'' => e = .returned .nilIface ∧ R w'' := by
  have hlt := h.lt
  have hge := h.ge
  have hao := applyOptions hO
  have hrh := fun (w' : World) (hR : Rdr w' r sb c.bytes 0) (hG : Gl ea w') => readHeader hR (l := c.roots) (rest := secsB c.blocks) (by simp [CarM.bytes]) hG hok.roots hok.root
  have hmk := make_rec
  go_enter Tryz.func37, Tryz.ntmps37
  go_wp2_with (first
    | go_at_call 35; refine hao.mono ?_; rintro e w1 ⟨rfl, hF1⟩
    | go_at_call 67; refine (toByteReadSeeker _ _).mono ?_; rintro e w2 ⟨rfl, rfl⟩)
  have hW1 : Fr [r] w w1 := hF1.mono (by simp)
  have hs1 := hF1.size
  have hO2 : Blk (w1.alloc (.cells optL.toArray 84)) w1.heap.size optL 84 (0, 0) := Blk.new
  have hF2 : Fr [] w1 (w1.alloc (.cells optL.toArray 84)) := Fr.alloc Fr.refl
  generalize w1.alloc (.cells optL.toArray 84) = w2 at *
  have hrO : r ≠ w1.heap.size ∧ sb ≠ w1.heap.size ∧ w.heap.size ≤ w1.heap.size ∧ 26 ≤ w1.heap.size := by have := hG.size; omega
  generalize w1.heap.size = O at *
  have hW2 : Fr [r] w w2 := hW1.trans hF2 (by simp)
  have hR2 := h.fr (hF1.trans hF2 (by simp) : Fr [] w w2) (by simp) (by simp)
  refine (hrh _ hR2 (hG.fr hW2 (by simp; omega))).mono ?_
  rintro e w3 ⟨p, hv, rfl, hp, hH3, hR3, hF3⟩
  have hO3 := hF3.blk hO2 (by simp [Ne.symm hrO.1])
  have hW3 := hW2.trans hF3 (by simp)
  have hH3c := hH3.cells
  have hol := hO2.lt
  have hpO : p ≠ O := by omega
  have hlen := headerB_length hok.roots hok.root
  simp only [Nat.zero_add] at hR3
  generalize hP0 : (headerB c.roots).length = p0 at *
  go_wp2_with (first | fail)
  refine (seek_any hR3 0 1 p0 (by omega) (.inr (.inl ⟨rfl, rfl⟩))).mono ?_
  rintro e w4 ⟨rfl, hR4, hF4⟩
  have hO4 := hF4.blk hO3 (by simp [Ne.symm hrO.1])
  have hW4 := hW3.trans hF4 (by simp)
  have ho4 := hO4.cells
  have hsec : c.bytes.drop p0 = secsB c.blocks := by rw [← hP0]; simp [CarM.bytes]
  have hlenc := hok.length
  clear hH3c
  go_wp2_with (first | fail)
  have hs4 := hO4.lt
  go_loopg [17, 18] (c.blocks.length) (fun k s17 s18 wr => ldRel w r sb O c.bytes p0 (O + 1) c.blocks k wr s17 s18)
  case atStart =>
    refine ⟨[], c.blocks, .slice (some ⟨w4.heap.size, 0, none⟩) 0 0, rfl, rfl, by simp [secsB], rfl, ?_, ?_, by simpa [secsB] using hsec, ?_, ?_⟩
    · exact own_made (by omega) rfl
    · exact hR4.fr (S := []) (by exact frP) (by simp) (by simp)
    · exact blkP
    · exact Fr.alloc hW4
  case round =>
    obtain ⟨bl1, bl2, v, hbl, hk, rfl, rfl, hOw, hRr, hdr, hOr, hFr⟩ := hrel
    subst hk
    have hGr := hG.fr hFr (by simp; omega)
    have or := hOr.cells
    have hszr := hFr.size
    have hol' := hOr.lt
    clear hR4 hF4 hO4 hW4 ho4 hsec hO3 hW3 hH3 hR3 hF3 hO2 hF2 hW2 hR2 hF1 hW1 hrh hao
    cases bl2 with
    | nil =>
      have hle : c.bytes.length ≤ p0 + (secsB bl1).length := by
        have := congrArg List.length hdr
        rw [List.length_drop, show (secsB []).length = 0 from rfl] at this; omega
      have hb1 : c.blocks = bl1 := by simpa using hbl
      have hpl : p0 + (secsB bl1).length = c.bytes.length := by rw [← hP0, ← hb1]; simp [CarM.bytes]
      rw [hpl] at hRr hle ⊢
      rw [← hb1] at hOw
      have hu := readUvarint_eof hRr hle hGr
      have hents : entsAt p0 c.blocks = c.ents := by rw [← hP0]; rfl
      rw [hents] at hOw
      go_wp2_with (first
        | (go_at_call 70; refine hu.mono ?_; rintro e w5 ⟨rfl, hR5, hF5⟩; have he5 := (hGr.fr hF5 (by simp; omega)).eof)
        | (go_at_call 268; refine (hLoad _ _ (own_mono (own_fr hOw hF5 (by simp; omega)) (by omega)) (hFr.trans hF5 (by simp)) hR5).mono ?_; rintro e w6 ⟨rfl, hR⟩))
      go_ret
      exact ⟨rfl, hR⟩
    | cons b2 bl2 =>
      have hbm : b2 ∈ c.blocks := by rw [hbl]; simp
      have hcok := hok.cid b2 hbm
      have hdat := hok.data b2 hbm
      have hil := inner_length hcok hdat
      have hcl := hcok.le
      have hp0 := hlen.1
      have hpos : p0 + (secsB bl1).length + (secB b2).length ≤ c.bytes.length := by
        have h1 := congrArg List.length hdr
        rw [List.length_drop, show (secsB (b2 :: bl2)).length = (secB b2).length + (secsB bl2).length by simp [secsB]] at h1
        have h2 := secB_length hcok hdat
        omega
      have hpos2 : p0 + (secsB bl1).length + (secB b2).length = p0 + (secsB (bl1 ++ [b2])).length := by simp [secsB]; omega
      have hd1 : c.bytes.drop (p0 + (secsB bl1).length) = Lib.uvarint b2.inner.length ++ (b2.inner ++ secsB bl2) := by rw [hdr]; simp [secsB, secB]
      have hd2 : c.bytes.drop (p0 + (secsB bl1).length + (Lib.uvarint b2.inner.length).length) = b2.cid.bytes ++ (b2.data ++ secsB bl2) := by rw [← List.drop_drop, hd1]; simp [BlkM.inner]
      have hd3 : c.bytes.drop (p0 + (secsB (bl1 ++ [b2])).length) = secsB bl2 := by rw [← hpos2, ← List.drop_drop, hdr]; simp [secsB]
      have hsl : p0 + (secsB bl1).length + (Lib.uvarint b2.inner.length).length + b2.cid.bytes.length + b2.data.length = p0 + (secsB (bl1 ++ [b2])).length := by rw [← hpos2]; simp [secB, BlkM.inner]; omega
      have hin : b2.inner.length = b2.cid.bytes.length + b2.data.length := by simp [BlkM.inner]
      have hu := readUvarint (rdSrc r sb c.bytes) hRr (n := b2.inner.length) (by omega) hd1
      have hcf := fun (w' : World) (hR : Rdr w' r sb c.bytes (p0 + (secsB bl1).length + (Lib.uvarint b2.inner.length).length)) => cidFromReader hR hd2 hcok
      have hpf : ∀ w', Calls Tryz.prog 72 #[cidV b2.cid] w' fun e w'' => e = .returned (.agg #[.int .u64 b2.cid.v, .int .u64 b2.cid.codec, .int .u64 b2.cid.code, .int .i64 b2.cid.dig.length]) ∧ Fr [] w' w'' := fun w' => cidPrefix hcok
      have hsk := fun (w' : World) (hR : Rdr w' r sb c.bytes (p0 + (secsB bl1).length + (Lib.uvarint b2.inner.length).length + b2.cid.bytes.length)) => seek_any hR b2.data.length 1 _ (by omega) (.inr (.inl ⟨rfl, rfl⟩))
      rw [hsl] at hsk
      have Hd3 := Lib.hid hd3
      have Hbl := Lib.hid hbl
      have hent := entsAt_snoc p0 bl1 b2
      have hen50 : (entsAt p0 bl1).length ≤ bl1.length := entsAt_length _ _
      have hbl50 : bl1.length + bl2.length + 1 ≤ 50 := by have := hok.blocks; rw [hbl] at this; simp at this; omega
      have HP2 := Lib.hid hpos2
      clear hd1 hd2 hd3 hpos2 hsl hdr hbl
      have hqb : p0 + (secsB (bl1 ++ [b2])).length ≤ c.bytes.length := by rw [← HP2.out]; exact hpos
      have hsk' : ∀ (w' : World), Rdr w' r sb c.bytes (p0 + (secsB bl1).length + (Lib.uvarint b2.inner.length).length + b2.cid.bytes.length) → Calls Tryz.prog 245 #[.pointer (some ⟨r, 0, none⟩), .int .i64 ((b2.cid.bytes.length : Int) + b2.data.length - b2.cid.bytes.length), .int .i64 1] w' fun e w'' => e = .returned (.tuple #[.int .i64 (p0 + (secsB (bl1 ++ [b2])).length : Nat), .nilIface]) ∧ Rdr w'' r sb c.bytes (p0 + (secsB (bl1 ++ [b2])).length) ∧ Fr [r] w' w'' := fun w' hR => by
        rw [show ((b2.cid.bytes.length : Int) + b2.data.length - b2.cid.bytes.length) = ((b2.data.length : Nat) : Int) by omega]; exact hsk w' hR
      have Hent := Lib.hid hent
      clear hsk hent
      generalize hQ : p0 + (secsB (bl1 ++ [b2])).length = Q at *
      have HQ := Lib.hid hQ
      clear hQ
      have hQi : (Q : Int) ≤ 2000000 := by omega
      have hOld := own_slice hOw
      by_cases hc0 : b2.cid.code = 0
      · rw [hc0] at hpf
        go_wp2_with (first
          | go_at_call 70; refine hu.mono ?_; rintro e w5 ⟨rfl, hR5, hF5⟩
          | go_at_call 71; refine (hcf _ hR5).mono ?_; rintro e w6 ⟨rfl, hR6, hF6⟩; have hO6 := (hF6.blk (hF5.blk hOr (by simp [Ne.symm hrO.1])) (by simp [Ne.symm hrO.1])); have oc6 := hO6.cells; have ol6 := hO6.lt; have hOw6 := own_fr (own_fr hOw hF5 (by simp; omega)) hF6 (by simp; omega)
          | go_at_call 72; refine (hpf _).mono ?_; rintro e w7 ⟨rfl, hF7⟩; have hF67 : Fr [] w6 w7 := Fr.trans (S := []) (by exact frP) hF7 (by simp); have hO7 := hF67.blk hO6 (by simp); have oc7 := hO7.cells; have hR7 := hR6.fr hF67 (by simp) (by simp); have hOw7 := own_fr hOw6 hF67 (by simp); clear oc6
          | go_at_call 245; refine (hsk' _ hR7).mono ?_; rintro e w8 ⟨rfl, hR8, hF8⟩; have hO8 := hF8.blk hO7 (by simp [Ne.symm hrO.1]); have hOw8 := own_fr hOw7 hF8 (by simp; omega))
        go_roundg bl2.length
        case rel =>
          refine ⟨bl1 ++ [b2], bl2, _, by rw [Hbl.out]; simp, rfl, by rw [HQ.out], rfl, ?_, by rw [HQ.out]; exact hR8, by rw [HQ.out]; exact Hd3.out, hO8, (((hFr.trans hF5 (by simp)).trans hF6 (by simp)).trans hF67 (by simp)).trans hF8 (by simp)⟩
          rw [Hent.out, if_pos hc0, List.append_nil]; exact hOw8
        case measure => simp
      · obtain ⟨a18, c18, rfl⟩ := hOld
        have hci : ¬ ((b2.cid.code : Int) = 0) := by omega
        go_wp2_with (first
          | go_at_call 70; refine hu.mono ?_; rintro e w5 ⟨rfl, hR5, hF5⟩
          | go_at_call 71; refine (hcf _ hR5).mono ?_; rintro e w6 ⟨rfl, hR6, hF6⟩; have hO6 := (hF6.blk (hF5.blk hOr (by simp [Ne.symm hrO.1])) (by simp [Ne.symm hrO.1])); have oc6 := hO6.cells; have ol6 := hO6.lt; have hOw6 := own_fr (own_fr hOw hF5 (by simp; omega)) hF6 (by simp; omega)
          | go_at_call 72; refine (hpf _).mono ?_; rintro e w7 ⟨rfl, hF7⟩; have hC7 := hF7.blk (b := w6.heap.size) (Blk.newAt rfl) (by simp); have cc7 := hC7.cells; have hF67 : Fr [] w6 w7 := Fr.trans (S := []) (by exact frP) hF7 (by simp); have hO7 := hF67.blk hO6 (by simp); have oc7 := hO7.cells; have ol7 := hO7.lt; have hR7 := hR6.fr hF67 (by simp) (by simp); have hOw7 := own_fr hOw6 hF67 (by simp); clear oc6
          | ((with_reducible refine list_bi .append (fun K hK => ?_));  refine appOwn _ _ 146 rfl (O + 1) 159 (.agg #[.string ⟨#[]⟩, .int .u64 0]) 2 24 rec_slice rec_info rfl (by omega) _ _ _ rfl (own_fr (S := []) hOw7 (by exact frP) (by simp)) _ 1 _ [.string ⟨b2.cid.bytes.toArray⟩, .int .u64 (p0 + (secsB bl1).length : Nat)] rfl rfl (newTwo (by simp)) (by intro u hu; simp at hu; rcases hu with rfl | rfl <;> rfl) (by omega) (by omega) (by simp; omega) (fun v2 w9 hOw9 hF9 => ?_); have hF79 := Fr.trans (w := w7) (S := (Value.slice a18 (entsAt p0 bl1).length c18).ownBlock.toList) (by exact frP) hF9 (fun k hk _ => hk); have hnb := own_ge hOw7; have hO9 := hF79.blk hO7 (fun hm => by have := hnb _ hm; omega); have oc9 := hO9.cells; have hR9 := hR7.fr hF79 (fun hm => by have := hnb _ hm; omega) (fun hm => by have := hnb _ hm; omega); clear oc7)
          | go_at_call 245; refine (hsk' _ hR9).mono ?_; rintro e w8 ⟨rfl, hR8, hF8⟩; have hO8 := hF8.blk hO9 (by simp [Ne.symm hrO.1]); have hOw8 := own_fr hOw9 hF8 (by simp; omega))
        go_roundg bl2.length
        case rel =>
          have hFw : Fr [r] w w9 := ((((hFr.trans hF5 (by simp)).trans hF6 (by simp)).trans hF67 (by simp)).trans hF79 (fun k hk hkl => by have := hnb k hk; omega))
          refine ⟨bl1 ++ [b2], bl2, v2, by rw [Hbl.out]; simp, rfl, by rw [HQ.out], rfl, ?_, by rw [HQ.out]; exact hR8, by rw [HQ.out]; exact Hd3.out, hO8, hFw.trans hF8 (by simp)⟩
          rw [Hent.out, if_neg hc0, List.length_append, recC_append]
          exact hOw8
        case measure => simp
end Go.Proofs.Wx

namespace Go.Proofs.Wx
open Go Go.RowKit
/-- p is a bytes.Buffer that has only been written; v is its slice; its bytes are ys. -/
structure Buf (w : World) (p base : Nat) (v : Value) (ys : List UInt8) : Prop where
  hp : ∃ lr : Int, Blk w p [v, .int .i64 0, .int .i8 lr] 59 (0, 0)
  own : w.ownsRow base 5 1 v ys.length (by8 ys)
  lt : p < base
  len : ys.length < 1000000000000
theorem Buf.fr {w w' : World} {p base : Nat} {v : Value} {ys : List UInt8} {S : List Nat} (h : Buf w p base v ys) (hf : Fr S w w') (h1 : p ∉ S) (h2 : ∀ k ∈ S, k < base ∨ v.ownBlock ≠ some k) : Buf w' p base v ys := by
  obtain ⟨⟨lr, hB⟩, ho, h3, h4⟩ := h
  exact ⟨⟨lr, hf.blk hB h1⟩, own_fr ho hf h2, h3, h4⟩
theorem tryGrowNo {w : World} {p : Nat} {a : Option Addr} {l c n : Nat} {lr : Int} (hB : Blk w p [.slice a l c, .int .i64 0, .int .i8 lr] 59 (0, 0)) (hl : l ≤ c) (hc : c ≤ 9223372036854775807) (hn : n < 1000000000000) (hno : c < l + n) :
    Calls Tryz.prog 254 #[.pointer (some ⟨p, 0, none⟩), .int .i64 n] w fun e w' => e = .returned (.tuple #[.int .i64 0, .bool false]) ∧ w = w' := by
  have hcc := hB.cells
  have h1 : ¬ (n : Int) ≤ (c : Int) - l := by omega
  have h2 : (l : Int) ≤ c := by omega
  have h3 : (c : Int) ≤ 9223372036854775807 := by omega
  go_enter Tryz.func254, Tryz.ntmps254
  go_wp2
  go_ret2
  exact ⟨rfl, rfl⟩
theorem tryGrowYes {w : World} {p : Nat} {a : Addr} {l c n : Nat} {lr : Int} (hB : Blk w p [.slice (some a) l c, .int .i64 0, .int .i8 lr] 59 (0, 0)) (hc : c ≤ 9223372036854775807) (hn : n < 1000000000000) (hyes : l + n ≤ c) :
    Calls Tryz.prog 254 #[.pointer (some ⟨p, 0, none⟩), .int .i64 n] w fun e w' => e = .returned (.tuple #[.int .i64 l, .bool true]) ∧ Blk w' p [.slice (some a) (l + n) c, .int .i64 0, .int .i8 lr] 59 (0, 0) ∧ Fr [p] w w' := by
  have hcc := hB.cells
  have hf := hB.free
  have h1 : (n : Int) ≤ (c : Int) - l := by omega
  have h2 : (l : Int) ≤ c := by omega
  have h3 : (c : Int) ≤ 9223372036854775807 := by omega
  have h4 : (l : Int) + n ≤ c := by omega
  go_enter Tryz.func254, Tryz.ntmps254
  go_wp2
  go_ret2
  refine ⟨rfl, ?_, by exact frP⟩
  exact blkP
end Go.Proofs.Wx

namespace Go.Proofs
open Go.Shelf
def Tryz.lays125_ren : Go.Shelf.Ren := ⟨fun | 125 => 119 | 128 => 146 | 129 => 147 | n => n, fun | 46 => 113 | 3 => 3 | 51 => 176 | 53 => 30 | 4 => 4 | 5 => 5 | 9 => 9 | n => n, fun | n => n⟩
theorem Tryz.lays125 : Go.Proofs.Lays.n125 Tryz.prog Tryz.lays125_ren := {
  mixed := by kernel_rfl
  f125 := Tryz.func119.trans (congrArg some (by kernel_rfl))
  f128 := Tryz.func146.trans (congrArg some (by kernel_rfl))
  f129 := Tryz.func147.trans (congrArg some (by kernel_rfl))
  t3 := Tryz.underlying3
  a3 := Tryz.isAgg3
  z3 := Tryz.sizeOf3
  v3 := Tryz.zeroValue3
  t4 := Tryz.underlying4
  a4 := Tryz.isAgg4
  z4 := Tryz.sizeOf4
  v4 := Tryz.zeroValue4
  t5 := Tryz.underlying5
  a5 := Tryz.isAgg5
  z5 := Tryz.sizeOf5
  v5 := Tryz.zeroValue5
  t9 := Tryz.underlying9
  a9 := Tryz.isAgg9
  z9 := Tryz.sizeOf9
  v9 := Tryz.zeroValue9
  t46 := Tryz.underlying113
  a46 := Tryz.isAgg113
  z46 := Tryz.sizeOf113
  v46 := Tryz.zeroValue113
  t51 := Tryz.underlying176
  a51 := Tryz.isAgg176
  z51 := Tryz.sizeOf176
  v51 := Tryz.zeroValue176
  t53 := Tryz.underlying30
  a53 := Tryz.isAgg30
  z53 := Tryz.sizeOf30
  v53 := Tryz.zeroValue30 }
/-- bits.Len: "Len returns the minimum number of bits required to represent x; the result is 0 for x == 0.": IT RETURNS 'Lib.bitLen x'; the world is as it was. (A uint has 64 bits in the model.) ITS CALLEE bits.Len64 IS MET BY ITS OWN CONTRACT OFF THE SHELF (lay that first). (LAID: no walk: one application.) -/
theorem Tryz.bits_Len (x : Int) (w : World) (h0 : 0 ≤ x) (h1 : x ≤ 18446744073709551615) :
    Calls Tryz.prog 119 #[.int .u64 x] w fun e w' => e = .returned (.int .i64 (Lib.bitLen x.toNat)) ∧ w' = w := Any.bits_Len Tryz.lays125 x w h0 h1
def Tryz.laysM290_ren : Go.Shelf.Ren := ⟨fun | 290 => 256 | 324 => 257 | n => n, fun | 37 => 55 | 3 => 3 | 0 => 0 | 4 => 4 | 20 => 20 | 75 => 61 | 5 => 5 | 80 => 68 | 9 => 9 | n => n, fun | 14 => 24 | n => n⟩
theorem Tryz.laysM290 : Go.Proofs.LaysM.n290 Tryz.prog Tryz.laysM290_ren := {
  mixed := by kernel_rfl
  f290 := Tryz.func256.trans (congrArg some (by kernel_rfl))
  f324 := Tryz.func257.trans (congrArg some (by kernel_rfl))
  t0 := Tryz.underlying0
  a0 := Tryz.isAgg0
  z0 := Tryz.sizeOf0
  v0 := Tryz.zeroValue0
  t3 := Tryz.underlying3
  a3 := Tryz.isAgg3
  z3 := Tryz.sizeOf3
  v3 := Tryz.zeroValue3
  t4 := Tryz.underlying4
  a4 := Tryz.isAgg4
  z4 := Tryz.sizeOf4
  v4 := Tryz.zeroValue4
  t20 := Tryz.underlying20
  a20 := Tryz.isAgg20
  z20 := Tryz.sizeOf20
  v20 := Tryz.zeroValue20
  t37 := Tryz.underlying55
  a37 := Tryz.isAgg55
  z37 := Tryz.sizeOf55
  v37 := Tryz.zeroValue55
  t75 := Tryz.underlying61
  a75 := Tryz.isAgg61
  z75 := Tryz.sizeOf61
  v75 := Tryz.zeroValue61
  g14 := by kernel_rfl
  t5 := Tryz.underlying5
  a5 := Tryz.isAgg5
  z5 := Tryz.sizeOf5
  v5 := Tryz.zeroValue5
  t9 := Tryz.underlying9
  a9 := Tryz.isAgg9
  z9 := Tryz.sizeOf9
  v9 := Tryz.zeroValue9
  t80 := Tryz.underlying68
  a80 := Tryz.isAgg68
  z80 := Tryz.sizeOf68
  v80 := Tryz.zeroValue68
  i0 := by kernel_rfl
  i3 := by kernel_rfl
  i4 := by kernel_rfl
  i5 := by kernel_rfl
  i9 := by kernel_rfl
  i20 := by kernel_rfl
  i37 := by kernel_rfl
  i75 := by kernel_rfl
  i80 := by kernel_rfl
  m14 := by kernel_rfl }
open Go.RowKit in
/-- bytes.growSlice: "growSlice grows b by n, preserving the original content of b.": OF A SLICE THAT LIES AT THE HEAD OF A ROW: a new row, number 'w.heap.size': it begins with b's l cells; its capacity has room for n more; whatever lay below is as it was. (LAID: no walk: one application.) -/
theorem Tryz.bytes_growSlice_row (g l c n : Nat) (cur : Array Value) (w : World) (hg : w.heap[g]? = some (.cells cur 5 (0, 0))) (hcs : cur.size = c) (hlc : l ≤ c) (hn : 1 ≤ n) (hlim : l + n ≤ 140737488355328) (hc2 : c ≤ 140737488355328) (h1 : ∀ v ∈ cur.toList.take l, v.oneCell' = true) :
    Calls Tryz.prog 256 #[.slice (some ⟨g, 0, none⟩) l c, .int .i64 n] w fun e w' => ∃ cap2 cells, e = .returned (.slice (some ⟨w.heap.size, 0, none⟩) l cap2) ∧ w'.heap[w.heap.size]? = some (.cells cells 5 (0, 0)) ∧
      cells.size = cap2 ∧ cells.toList.take l = cur.toList.take l ∧ l + n ≤ cap2 ∧ cap2 ≤ maxLen ∧ Below w.heap.size w w' := Any.bytes_growSlice_row Tryz.laysM290 g l c n cur w hg hcs hlc hn hlim hc2 h1
def Tryz.laysM182_ren : Go.Shelf.Ren := ⟨fun | 182 => 23 | n => n, fun | 130 => 65 | 9 => 9 | 4 => 4 | 0 => 0 | 93 => 59 | 37 => 55 | 3 => 3 | 91 => 57 | 5 => 5 | n => n, fun | n => n⟩
theorem Tryz.laysM182 : Go.Proofs.LaysM.n182 Tryz.prog Tryz.laysM182_ren := {
  mixed := by kernel_rfl
  f182 := Tryz.func23.trans (congrArg some (by kernel_rfl))
  t0 := Tryz.underlying0
  a0 := Tryz.isAgg0
  z0 := Tryz.sizeOf0
  v0 := Tryz.zeroValue0
  t3 := Tryz.underlying3
  a3 := Tryz.isAgg3
  z3 := Tryz.sizeOf3
  v3 := Tryz.zeroValue3
  t4 := Tryz.underlying4
  a4 := Tryz.isAgg4
  z4 := Tryz.sizeOf4
  v4 := Tryz.zeroValue4
  t9 := Tryz.underlying9
  a9 := Tryz.isAgg9
  z9 := Tryz.sizeOf9
  v9 := Tryz.zeroValue9
  t37 := Tryz.underlying55
  a37 := Tryz.isAgg55
  z37 := Tryz.sizeOf55
  v37 := Tryz.zeroValue55
  t93 := Tryz.underlying59
  a93 := Tryz.isAgg59
  z93 := Tryz.sizeOf59
  v93 := Tryz.zeroValue59
  t130 := Tryz.underlying65
  a130 := Tryz.isAgg65
  z130 := Tryz.sizeOf65
  v130 := Tryz.zeroValue65
  t5 := Tryz.underlying5
  a5 := Tryz.isAgg5
  z5 := Tryz.sizeOf5
  v5 := Tryz.zeroValue5
  t91 := Tryz.underlying57
  a91 := Tryz.isAgg57
  z91 := Tryz.sizeOf57
  v91 := Tryz.zeroValue57
  i0 := by kernel_rfl
  i3 := by kernel_rfl
  i4 := by kernel_rfl
  i5 := by kernel_rfl
  i9 := by kernel_rfl
  i37 := by kernel_rfl
  i91 := by kernel_rfl
  i93 := by kernel_rfl
  i130 := by kernel_rfl }
open Go.RowKit in
/-- (*bytes.Buffer).String: "String returns the contents of the unread portion of the buffer as a string.": THE BYTES THAT WERE WRITTEN. The world is as it was but for the count of draws (the statement has two reads: its order is drawn). (LAID: no walk: one application.) -/
theorem Tryz.Buffer_String (B b : Nat) (l : List UInt8) (w : World) (h : Lib.IsBuffer 59 5 B b (Lib.byteCells l) w) :
    Calls Tryz.prog 23 #[.pointer (some ⟨b, 0, none⟩)] w fun e w' => e = .returned (.string ⟨l.toArray⟩) ∧ ∃ n, w' = w.drewN n := Any.Buffer_String Tryz.laysM182 B b l w h
def Tryz.laysBin31_ren : Go.Shelf.Ren := ⟨fun | 31 => 281 | n => n, fun | 25 => 162 | 22 => 55 | 29 => 176 | 0 => 0 | 5 => 5 | 45 => 113 | n => n, fun | n => n⟩
theorem Tryz.laysBin31 : Go.Proofs.LaysBin.n31 Tryz.prog Tryz.laysBin31_ren := {
  mixed := by kernel_rfl
  f31 := Tryz.func281.trans (congrArg some (by kernel_rfl))
  t0 := Tryz.underlying0
  a0 := Tryz.isAgg0
  z0 := Tryz.sizeOf0
  v0 := Tryz.zeroValue0
  i0 := by kernel_rfl
  t5 := Tryz.underlying5
  a5 := Tryz.isAgg5
  z5 := Tryz.sizeOf5
  v5 := Tryz.zeroValue5
  i5 := by kernel_rfl
  t22 := Tryz.underlying55
  a22 := Tryz.isAgg55
  z22 := Tryz.sizeOf55
  v22 := Tryz.zeroValue55
  i22 := by kernel_rfl
  t25 := Tryz.underlying162
  a25 := Tryz.isAgg162
  z25 := Tryz.sizeOf162
  v25 := Tryz.zeroValue162
  i25 := by kernel_rfl
  t29 := Tryz.underlying176
  a29 := Tryz.isAgg176
  z29 := Tryz.sizeOf176
  v29 := Tryz.zeroValue176
  i29 := by kernel_rfl
  t45 := Tryz.underlying113
  a45 := Tryz.isAgg113
  z45 := Tryz.sizeOf113
  v45 := Tryz.zeroValue113
  i45 := by kernel_rfl }
open Go.RowKit in
/-- binary.LittleEndian.PutUint32: "PutUint32 stores v into b[0:4].": v's 4 BYTES, the least first ('Lib.leBytes 4 v'), ARE LAID IN THE SLICE's FIRST 4 CELLS ('World.setCells'); nothing else turns (the receiver, an empty struct, is laid in a new block without cells). (LAID: no walk: one application.) -/
theorem Tryz.binary_LE_PutUint32 (g o n c v : Nat) (hv : v < 4294967296) (x0 x1 x2 x3 : Value) (w : World) (hn : 4 ≤ n) (c0 : w.cell? ⟨g, o, none⟩ = some x0) (c1 : w.cell? ⟨g, o + 1, none⟩ = some x1) (c2 : w.cell? ⟨g, o + 2, none⟩ = some x2) (c3 : w.cell? ⟨g, o + 3, none⟩ = some x3) (f0 : w.frozen? ⟨g, o, none⟩ = false) (f1 : w.frozen? ⟨g, o + 1, none⟩ = false) (f2 : w.frozen? ⟨g, o + 2, none⟩ = false) (f3 : w.frozen? ⟨g, o + 3, none⟩ = false) :
    Calls Tryz.prog 281 #[.agg #[], .slice (some ⟨g, o, none⟩) n c, .int .u32 v] w fun e w' => e = .returned (.tuple #[]) ∧ w' = (w.alloc (.cells #[] 162)).setCells g o (Lib.byteCells (Lib.leBytes 4 v)) := Any.binary_LE_PutUint32 Tryz.laysBin31 g o n c v hv x0 x1 x2 x3 w hn c0 c1 c2 c3 f0 f1 f2 f3
def Tryz.laysBin33_ren : Go.Shelf.Ren := ⟨fun | 33 => 106 | n => n, fun | 25 => 162 | 22 => 55 | 33 => 30 | 0 => 0 | 5 => 5 | 45 => 113 | n => n, fun | n => n⟩
theorem Tryz.laysBin33 : Go.Proofs.LaysBin.n33 Tryz.prog Tryz.laysBin33_ren := {
  mixed := by kernel_rfl
  f33 := Tryz.func106.trans (congrArg some (by kernel_rfl))
  t0 := Tryz.underlying0
  a0 := Tryz.isAgg0
  z0 := Tryz.sizeOf0
  v0 := Tryz.zeroValue0
  i0 := by kernel_rfl
  t5 := Tryz.underlying5
  a5 := Tryz.isAgg5
  z5 := Tryz.sizeOf5
  v5 := Tryz.zeroValue5
  i5 := by kernel_rfl
  t22 := Tryz.underlying55
  a22 := Tryz.isAgg55
  z22 := Tryz.sizeOf55
  v22 := Tryz.zeroValue55
  i22 := by kernel_rfl
  t25 := Tryz.underlying162
  a25 := Tryz.isAgg162
  z25 := Tryz.sizeOf162
  v25 := Tryz.zeroValue162
  i25 := by kernel_rfl
  t33 := Tryz.underlying30
  a33 := Tryz.isAgg30
  z33 := Tryz.sizeOf30
  v33 := Tryz.zeroValue30
  i33 := by kernel_rfl
  t45 := Tryz.underlying113
  a45 := Tryz.isAgg113
  z45 := Tryz.sizeOf113
  v45 := Tryz.zeroValue113
  i45 := by kernel_rfl }
open Go.RowKit in
/-- binary.LittleEndian.Uint64: "Uint64 returns the uint64 representation of b[0:8].": THE NUMBER THAT THE FIRST 8 BYTES SPELL, the least byte first ('Lib.leNat'). Of what was there nothing has turned (the receiver, an empty struct, is laid in a new block without cells; the statement's order is drawn). (LAID: no walk: one application.) -/
theorem Tryz.binary_LE_Uint64 (g o n c : Nat) (b0 b1 b2 b3 b4 b5 b6 b7 : UInt8) (w : World) (hn : 8 ≤ n) (c0 : w.cell? ⟨g, o, none⟩ = some (.int .u8 b0.toNat)) (c1 : w.cell? ⟨g, o + 1, none⟩ = some (.int .u8 b1.toNat)) (c2 : w.cell? ⟨g, o + 2, none⟩ = some (.int .u8 b2.toNat)) (c3 : w.cell? ⟨g, o + 3, none⟩ = some (.int .u8 b3.toNat)) (c4 : w.cell? ⟨g, o + 4, none⟩ = some (.int .u8 b4.toNat)) (c5 : w.cell? ⟨g, o + 5, none⟩ = some (.int .u8 b5.toNat)) (c6 : w.cell? ⟨g, o + 6, none⟩ = some (.int .u8 b6.toNat)) (c7 : w.cell? ⟨g, o + 7, none⟩ = some (.int .u8 b7.toNat)) :
    Calls Tryz.prog 106 #[.agg #[], .slice (some ⟨g, o, none⟩) n c] w fun e w' => e = .returned (.int .u64 (Lib.leNat [b0, b1, b2, b3, b4, b5, b6, b7])) ∧ Below w.heap.size w w' := Any.binary_LE_Uint64 Tryz.laysBin33 g o n c b0 b1 b2 b3 b4 b5 b6 b7 w hn c0 c1 c2 c3 c4 c5 c6 c7
def Tryz.laysBin34_ren : Go.Shelf.Ren := ⟨fun | 34 => 74 | n => n, fun | 25 => 162 | 22 => 55 | 33 => 30 | 0 => 0 | 5 => 5 | 45 => 113 | n => n, fun | n => n⟩
theorem Tryz.laysBin34 : Go.Proofs.LaysBin.n34 Tryz.prog Tryz.laysBin34_ren := {
  mixed := by kernel_rfl
  f34 := Tryz.func74.trans (congrArg some (by kernel_rfl))
  t0 := Tryz.underlying0
  a0 := Tryz.isAgg0
  z0 := Tryz.sizeOf0
  v0 := Tryz.zeroValue0
  i0 := by kernel_rfl
  t5 := Tryz.underlying5
  a5 := Tryz.isAgg5
  z5 := Tryz.sizeOf5
  v5 := Tryz.zeroValue5
  i5 := by kernel_rfl
  t22 := Tryz.underlying55
  a22 := Tryz.isAgg55
  z22 := Tryz.sizeOf55
  v22 := Tryz.zeroValue55
  i22 := by kernel_rfl
  t25 := Tryz.underlying162
  a25 := Tryz.isAgg162
  z25 := Tryz.sizeOf162
  v25 := Tryz.zeroValue162
  i25 := by kernel_rfl
  t33 := Tryz.underlying30
  a33 := Tryz.isAgg30
  z33 := Tryz.sizeOf30
  v33 := Tryz.zeroValue30
  i33 := by kernel_rfl
  t45 := Tryz.underlying113
  a45 := Tryz.isAgg113
  z45 := Tryz.sizeOf113
  v45 := Tryz.zeroValue113
  i45 := by kernel_rfl }
open Go.RowKit in
/-- binary.LittleEndian.PutUint64: "PutUint64 stores v into b[0:8].": v's 8 BYTES, the least first ('Lib.leBytes 8 v'), ARE LAID IN THE SLICE's FIRST 8 CELLS ('World.setCells'); nothing else turns (the receiver, an empty struct, is laid in a new block without cells). (LAID: no walk: one application.) -/
theorem Tryz.binary_LE_PutUint64 (g o n c v : Nat) (hv : v < 18446744073709551616) (x0 x1 x2 x3 x4 x5 x6 x7 : Value) (w : World) (hn : 8 ≤ n) (c0 : w.cell? ⟨g, o, none⟩ = some x0) (c1 : w.cell? ⟨g, o + 1, none⟩ = some x1) (c2 : w.cell? ⟨g, o + 2, none⟩ = some x2) (c3 : w.cell? ⟨g, o + 3, none⟩ = some x3) (c4 : w.cell? ⟨g, o + 4, none⟩ = some x4) (c5 : w.cell? ⟨g, o + 5, none⟩ = some x5) (c6 : w.cell? ⟨g, o + 6, none⟩ = some x6) (c7 : w.cell? ⟨g, o + 7, none⟩ = some x7) (f0 : w.frozen? ⟨g, o, none⟩ = false) (f1 : w.frozen? ⟨g, o + 1, none⟩ = false) (f2 : w.frozen? ⟨g, o + 2, none⟩ = false) (f3 : w.frozen? ⟨g, o + 3, none⟩ = false) (f4 : w.frozen? ⟨g, o + 4, none⟩ = false) (f5 : w.frozen? ⟨g, o + 5, none⟩ = false) (f6 : w.frozen? ⟨g, o + 6, none⟩ = false) (f7 : w.frozen? ⟨g, o + 7, none⟩ = false) :
    Calls Tryz.prog 74 #[.agg #[], .slice (some ⟨g, o, none⟩) n c, .int .u64 v] w fun e w' => e = .returned (.tuple #[]) ∧ w' = (w.alloc (.cells #[] 162)).setCells g o (Lib.byteCells (Lib.leBytes 8 v)) := Any.binary_LE_PutUint64 Tryz.laysBin34 g o n c v hv x0 x1 x2 x3 x4 x5 x6 x7 w hn c0 c1 c2 c3 c4 c5 c6 c7 f0 f1 f2 f3 f4 f5 f6 f7
def Tryz.laysBin46_ren : Go.Shelf.Ren := ⟨fun | 46 => 112 | n => n, fun | 22 => 55 | 33 => 30 | 3 => 3 | 4 => 4 | 5 => 5 | 0 => 0 | 45 => 113 | n => n, fun | n => n⟩
theorem Tryz.laysBin46 : Go.Proofs.LaysBin.n46 Tryz.prog Tryz.laysBin46_ren := {
  mixed := by kernel_rfl
  f46 := Tryz.func112.trans (congrArg some (by kernel_rfl))
  t0 := Tryz.underlying0
  a0 := Tryz.isAgg0
  z0 := Tryz.sizeOf0
  v0 := Tryz.zeroValue0
  i0 := by kernel_rfl
  t3 := Tryz.underlying3
  a3 := Tryz.isAgg3
  z3 := Tryz.sizeOf3
  v3 := Tryz.zeroValue3
  i3 := by kernel_rfl
  t4 := Tryz.underlying4
  a4 := Tryz.isAgg4
  z4 := Tryz.sizeOf4
  v4 := Tryz.zeroValue4
  i4 := by kernel_rfl
  t5 := Tryz.underlying5
  a5 := Tryz.isAgg5
  z5 := Tryz.sizeOf5
  v5 := Tryz.zeroValue5
  i5 := by kernel_rfl
  t22 := Tryz.underlying55
  a22 := Tryz.isAgg55
  z22 := Tryz.sizeOf55
  v22 := Tryz.zeroValue55
  i22 := by kernel_rfl
  t33 := Tryz.underlying30
  a33 := Tryz.isAgg30
  z33 := Tryz.sizeOf30
  v33 := Tryz.zeroValue30
  i33 := by kernel_rfl
  t45 := Tryz.underlying113
  a45 := Tryz.isAgg113
  z45 := Tryz.sizeOf113
  v45 := Tryz.zeroValue113
  i45 := by kernel_rfl }
open Go.RowKit in
/-- binary.PutUvarint: "PutUvarint encodes a uint64 into buf and returns the number of bytes written. If the buffer is too small, PutUvarint will panic.": WHERE buf HAS ROOM: x's VARINT ('Lib.uvarint x') IS LAID IN buf's FIRST CELLS ('World.setCells'); its length comes back; nothing else turns. (LAID: no walk: one application.) -/
theorem Tryz.binary_PutUvarint (g o n c x : Nat) (hx : x < 18446744073709551616) (w : World) (hn : (Lib.uvarint x).length ≤ n) (hcell : ∀ j, j < (Lib.uvarint x).length → (w.cell? ⟨g, o + j, none⟩).isSome = true ∧ w.frozen? ⟨g, o + j, none⟩ = false) :
    Calls Tryz.prog 112 #[.slice (some ⟨g, o, none⟩) n c, .int .u64 x] w fun e w' => e = .returned (.int .i64 (Lib.uvarint x).length) ∧ w' = w.setCells g o (Lib.byteCells (Lib.uvarint x)) := Any.binary_PutUvarint Tryz.laysBin46 g o n c x hx w hn hcell
def Tryz.lays191_ren : Go.Shelf.Ren := ⟨fun | 191 => 113 | 189 => 135 | 125 => 119 | 257 => 171 | 128 => 146 | 129 => 147 | 294 => 184 | 295 => 185 | 296 => 186 | 297 => 187 | 298 => 188 | 299 => 189 | 216 => 190 | 300 => 191 | 301 => 192 | 328 => 207 | 329 => 208 | 330 => 209 | 331 => 210 | 332 => 211 | 215 => 212 | 343 => 224 | n => n, fun | 28 => 49 | 0 => 0 | 3 => 3 | 46 => 113 | 51 => 176 | 53 => 30 | 4 => 4 | 183 => 336 | 182 => 335 | 131 => 289 | 5 => 5 | 9 => 9 | 218 => 356 | 222 => 311 | 228 => 371 | 229 => 342 | n => n, fun | n => n⟩
theorem Tryz.lays191 : Go.Proofs.Lays.n191 Tryz.prog Tryz.lays191_ren := {
  mixed := by kernel_rfl
  f125 := Tryz.func119.trans (congrArg some (by kernel_rfl))
  f128 := Tryz.func146.trans (congrArg some (by kernel_rfl))
  f129 := Tryz.func147.trans (congrArg some (by kernel_rfl))
  f189 := Tryz.func135.trans (congrArg some (by kernel_rfl))
  f191 := Tryz.func113.trans (congrArg some (by kernel_rfl))
  f215 := Tryz.func212.trans (congrArg some (by kernel_rfl))
  f216 := Tryz.func190.trans (congrArg some (by kernel_rfl))
  f257 := Tryz.func171.trans (congrArg some (by kernel_rfl))
  f294 := Tryz.func184.trans (congrArg some (by kernel_rfl))
  f295 := Tryz.func185.trans (congrArg some (by kernel_rfl))
  f296 := Tryz.func186.trans (congrArg some (by kernel_rfl))
  f297 := Tryz.func187.trans (congrArg some (by kernel_rfl))
  f298 := Tryz.func188.trans (congrArg some (by kernel_rfl))
  f299 := Tryz.func189.trans (congrArg some (by kernel_rfl))
  f300 := Tryz.func191.trans (congrArg some (by kernel_rfl))
  f301 := Tryz.func192.trans (congrArg some (by kernel_rfl))
  f328 := Tryz.func207.trans (congrArg some (by kernel_rfl))
  f329 := Tryz.func208.trans (congrArg some (by kernel_rfl))
  f330 := Tryz.func209.trans (congrArg some (by kernel_rfl))
  f331 := Tryz.func210.trans (congrArg some (by kernel_rfl))
  f332 := Tryz.func211.trans (congrArg some (by kernel_rfl))
  f343 := Tryz.func224.trans (congrArg some (by kernel_rfl))
  t0 := Tryz.underlying0
  a0 := Tryz.isAgg0
  z0 := Tryz.sizeOf0
  v0 := Tryz.zeroValue0
  t3 := Tryz.underlying3
  a3 := Tryz.isAgg3
  z3 := Tryz.sizeOf3
  v3 := Tryz.zeroValue3
  t4 := Tryz.underlying4
  a4 := Tryz.isAgg4
  z4 := Tryz.sizeOf4
  v4 := Tryz.zeroValue4
  t5 := Tryz.underlying5
  a5 := Tryz.isAgg5
  z5 := Tryz.sizeOf5
  v5 := Tryz.zeroValue5
  t9 := Tryz.underlying9
  a9 := Tryz.isAgg9
  z9 := Tryz.sizeOf9
  v9 := Tryz.zeroValue9
  t28 := Tryz.underlying49
  a28 := Tryz.isAgg49
  z28 := Tryz.sizeOf49
  v28 := Tryz.zeroValue49
  t46 := Tryz.underlying113
  a46 := Tryz.isAgg113
  z46 := Tryz.sizeOf113
  v46 := Tryz.zeroValue113
  t51 := Tryz.underlying176
  a51 := Tryz.isAgg176
  z51 := Tryz.sizeOf176
  v51 := Tryz.zeroValue176
  t53 := Tryz.underlying30
  a53 := Tryz.isAgg30
  z53 := Tryz.sizeOf30
  v53 := Tryz.zeroValue30
  t131 := Tryz.underlying289
  a131 := Tryz.isAgg289
  z131 := Tryz.sizeOf289
  v131 := Tryz.zeroValue289
  t182 := Tryz.underlying335
  a182 := Tryz.isAgg335
  z182 := Tryz.sizeOf335
  v182 := Tryz.zeroValue335
  t183 := Tryz.underlying336
  a183 := Tryz.isAgg336
  z183 := Tryz.sizeOf336
  v183 := Tryz.zeroValue336
  t218 := Tryz.underlying356
  a218 := Tryz.isAgg356
  z218 := Tryz.sizeOf356
  v218 := Tryz.zeroValue356
  t222 := Tryz.underlying311
  a222 := Tryz.isAgg311
  z222 := Tryz.sizeOf311
  v222 := Tryz.zeroValue311
  t228 := Tryz.underlying371
  a228 := Tryz.isAgg371
  z228 := Tryz.sizeOf371
  v228 := Tryz.zeroValue371
  t229 := Tryz.underlying342
  a229 := Tryz.isAgg342
  z229 := Tryz.sizeOf342
  v229 := Tryz.zeroValue342 }
open Go.Sort Go.RowKit in
theorem Tryz.sort_Ints (blk off cap : Nat) (zs : List Int) (w : World) (hH : Holds (Value.int .i64) w blk off zs.toArray) (hblk : blk < w.heap.size) (hsz : zs.length < 4611686018427387904) :
    Calls Tryz.prog 113 #[.slice (some ⟨blk, off, none⟩) zs.length cap] w fun e w' =>
      e = .returned (.tuple #[]) ∧ ∃ n os, w' = grow (putRow (Value.int .i64) (Sort.ahead w n) blk off (zs.mergeSort fun x y => decide (x ≤ y)).toArray) os := Any.sort_Ints Tryz.lays191 blk off cap zs w hH hblk hsz
def Tryz.laysGg6_ren : Go.Shelf.Ren := ⟨fun | 6 => 90 | 10 => 116 | 11 => 117 | 12 => 118 | 13 => 119 | 14 => 120 | 24 => 146 | 25 => 147 | 26 => 148 | 27 => 149 | 28 => 150 | 29 => 151 | 30 => 152 | 31 => 153 | 32 => 154 | 33 => 155 | 34 => 173 | 35 => 174 | 36 => 175 | 37 => 176 | 38 => 177 | 39 => 194 | n => n, fun | 20 => 20 | 26 => 173 | 35 => 234 | 0 => 0 | 37 => 236 | 3 => 3 | 41 => 113 | 44 => 242 | 49 => 176 | 51 => 30 | 4 => 4 | 54 => 285 | 53 => 284 | 58 => 289 | 5 => 5 | 9 => 9 | 60 => 308 | 64 => 311 | 66 => 341 | 67 => 342 | 17 => 17 | 32 => 231 | 33 => 232 | 82 => 386 | 12 => 12 | 75 => 379 | 76 => 380 | 77 => 381 | 78 => 382 | 79 => 383 | 80 => 384 | n => n, fun | n => n⟩
theorem Tryz.laysGg6 : Go.Proofs.LaysGg.n6 Tryz.prog Tryz.laysGg6_ren := {
  mixed := by kernel_rfl
  f6 := Tryz.func90.trans (congrArg some (by kernel_rfl))
  f10 := Tryz.func116.trans (congrArg some (by kernel_rfl))
  f11 := Tryz.func117.trans (congrArg some (by kernel_rfl))
  f12 := Tryz.func118.trans (congrArg some (by kernel_rfl))
  f13 := Tryz.func119.trans (congrArg some (by kernel_rfl))
  f14 := Tryz.func120.trans (congrArg some (by kernel_rfl))
  f24 := Tryz.func146.trans (congrArg some (by kernel_rfl))
  f25 := Tryz.func147.trans (congrArg some (by kernel_rfl))
  f26 := Tryz.func148.trans (congrArg some (by kernel_rfl))
  f27 := Tryz.func149.trans (congrArg some (by kernel_rfl))
  f28 := Tryz.func150.trans (congrArg some (by kernel_rfl))
  f29 := Tryz.func151.trans (congrArg some (by kernel_rfl))
  f30 := Tryz.func152.trans (congrArg some (by kernel_rfl))
  f31 := Tryz.func153.trans (congrArg some (by kernel_rfl))
  f32 := Tryz.func154.trans (congrArg some (by kernel_rfl))
  f33 := Tryz.func155.trans (congrArg some (by kernel_rfl))
  f34 := Tryz.func173.trans (congrArg some (by kernel_rfl))
  f35 := Tryz.func174.trans (congrArg some (by kernel_rfl))
  f36 := Tryz.func175.trans (congrArg some (by kernel_rfl))
  f37 := Tryz.func176.trans (congrArg some (by kernel_rfl))
  f38 := Tryz.func177.trans (congrArg some (by kernel_rfl))
  f39 := Tryz.func194.trans (congrArg some (by kernel_rfl))
  t0 := Tryz.underlying0
  a0 := Tryz.isAgg0
  z0 := Tryz.sizeOf0
  v0 := Tryz.zeroValue0
  i0 := by kernel_rfl
  t3 := Tryz.underlying3
  a3 := Tryz.isAgg3
  z3 := Tryz.sizeOf3
  v3 := Tryz.zeroValue3
  i3 := by kernel_rfl
  t4 := Tryz.underlying4
  a4 := Tryz.isAgg4
  z4 := Tryz.sizeOf4
  v4 := Tryz.zeroValue4
  i4 := by kernel_rfl
  t5 := Tryz.underlying5
  a5 := Tryz.isAgg5
  z5 := Tryz.sizeOf5
  v5 := Tryz.zeroValue5
  i5 := by kernel_rfl
  t9 := Tryz.underlying9
  a9 := Tryz.isAgg9
  z9 := Tryz.sizeOf9
  v9 := Tryz.zeroValue9
  i9 := by kernel_rfl
  t12 := Tryz.underlying12
  a12 := Tryz.isAgg12
  z12 := Tryz.sizeOf12
  v12 := Tryz.zeroValue12
  i12 := by kernel_rfl
  t17 := Tryz.underlying17
  a17 := Tryz.isAgg17
  z17 := Tryz.sizeOf17
  v17 := Tryz.zeroValue17
  i17 := by kernel_rfl
  t20 := Tryz.underlying20
  a20 := Tryz.isAgg20
  z20 := Tryz.sizeOf20
  v20 := Tryz.zeroValue20
  i20 := by kernel_rfl
  t26 := Tryz.underlying173
  a26 := Tryz.isAgg173
  z26 := Tryz.sizeOf173
  v26 := Tryz.zeroValue173
  i26 := by kernel_rfl
  t32 := Tryz.underlying231
  a32 := Tryz.isAgg231
  z32 := Tryz.sizeOf231
  v32 := Tryz.zeroValue231
  i32 := by kernel_rfl
  t33 := Tryz.underlying232
  a33 := Tryz.isAgg232
  z33 := Tryz.sizeOf232
  v33 := Tryz.zeroValue232
  i33 := by kernel_rfl
  t35 := Tryz.underlying234
  a35 := Tryz.isAgg234
  z35 := Tryz.sizeOf234
  v35 := Tryz.zeroValue234
  i35 := by kernel_rfl
  t37 := Tryz.underlying236
  a37 := Tryz.isAgg236
  z37 := Tryz.sizeOf236
  v37 := Tryz.zeroValue236
  i37 := by kernel_rfl
  t41 := Tryz.underlying113
  a41 := Tryz.isAgg113
  z41 := Tryz.sizeOf113
  v41 := Tryz.zeroValue113
  i41 := by kernel_rfl
  t44 := Tryz.underlying242
  a44 := Tryz.isAgg242
  z44 := Tryz.sizeOf242
  v44 := Tryz.zeroValue242
  i44 := by kernel_rfl
  t49 := Tryz.underlying176
  a49 := Tryz.isAgg176
  z49 := Tryz.sizeOf176
  v49 := Tryz.zeroValue176
  i49 := by kernel_rfl
  t51 := Tryz.underlying30
  a51 := Tryz.isAgg30
  z51 := Tryz.sizeOf30
  v51 := Tryz.zeroValue30
  i51 := by kernel_rfl
  t53 := Tryz.underlying284
  a53 := Tryz.isAgg284
  z53 := Tryz.sizeOf284
  v53 := Tryz.zeroValue284
  i53 := by kernel_rfl
  t54 := Tryz.underlying285
  a54 := Tryz.isAgg285
  z54 := Tryz.sizeOf285
  v54 := Tryz.zeroValue285
  i54 := by kernel_rfl
  t58 := Tryz.underlying289
  a58 := Tryz.isAgg289
  z58 := Tryz.sizeOf289
  v58 := Tryz.zeroValue289
  i58 := by kernel_rfl
  t60 := Tryz.underlying308
  a60 := Tryz.isAgg308
  z60 := Tryz.sizeOf308
  v60 := Tryz.zeroValue308
  i60 := by kernel_rfl
  t64 := Tryz.underlying311
  a64 := Tryz.isAgg311
  z64 := Tryz.sizeOf311
  v64 := Tryz.zeroValue311
  i64 := by kernel_rfl
  t66 := Tryz.underlying341
  a66 := Tryz.isAgg341
  z66 := Tryz.sizeOf341
  v66 := Tryz.zeroValue341
  i66 := by kernel_rfl
  t67 := Tryz.underlying342
  a67 := Tryz.isAgg342
  z67 := Tryz.sizeOf342
  v67 := Tryz.zeroValue342
  i67 := by kernel_rfl
  t75 := Tryz.underlying379
  a75 := Tryz.isAgg379
  z75 := Tryz.sizeOf379
  v75 := Tryz.zeroValue379
  i75 := by kernel_rfl
  t76 := Tryz.underlying380
  a76 := Tryz.isAgg380
  z76 := Tryz.sizeOf380
  v76 := Tryz.zeroValue380
  i76 := by kernel_rfl
  t77 := Tryz.underlying381
  a77 := Tryz.isAgg381
  z77 := Tryz.sizeOf381
  v77 := Tryz.zeroValue381
  i77 := by kernel_rfl
  t78 := Tryz.underlying382
  a78 := Tryz.isAgg382
  z78 := Tryz.sizeOf382
  v78 := Tryz.zeroValue382
  i78 := by kernel_rfl
  t79 := Tryz.underlying383
  a79 := Tryz.isAgg383
  z79 := Tryz.sizeOf383
  v79 := Tryz.zeroValue383
  i79 := by kernel_rfl
  t80 := Tryz.underlying384
  a80 := Tryz.isAgg384
  z80 := Tryz.sizeOf384
  v80 := Tryz.zeroValue384
  i80 := by kernel_rfl
  t82 := Tryz.underlying386
  a82 := Tryz.isAgg386
  z82 := Tryz.sizeOf386
  v82 := Tryz.zeroValue386
  i82 := by kernel_rfl }
open Go.RowKit Go.Sort in
/-- .. and plain. (LAID: no walk: one application.) -/
theorem Tryz.sort_Ints_none (p : Option Addr) (cap : Nat) (w : World) :
    Calls Tryz.prog 113 #[.slice p 0 cap] w fun e w' => e = .returned (.tuple #[]) ∧ w' = w := Any.sort_Ints_none Tryz.lays191 p cap w
end Go.Proofs
