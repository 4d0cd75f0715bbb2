import Derived.Test.YtgbfgjhndkkncaaGreatDoorM7
set_option maxRecDepth 100000
set_option maxHeartbeats 1000000
set_option linter.unusedVariables false
set_option linter.unusedSimpArgs false
namespace Go.Proofs.Wx
open Go Go.RowKit
theorem str_und : Tryz.prog.underlying 9 = some .string := by kernel_rfl
theorem u8_und : Tryz.prog.underlying 5 = some (.int .u8) := by kernel_rfl
/-- []byte(s). -/
theorem strB {o : Oper} {a : Act} {K : Act → World → Prop} {Q : Exit → Act → World → Prop} {w : World} (x : Operand) (ho : o.op = .convert 9 55 x)
    (xs : List UInt8) (hx : a.eval x = .string ⟨xs.toArray⟩) (hl : xs.length ≤ 1000000000000)
    (h : ∀ w' C, xs.length ≤ C → C ≤ 9223372036854775807 → Bs w' w.heap.size 0 xs → Fr [] w w' → K (a.put o.dst (.slice (some ⟨w.heap.size, 0, none⟩) xs.length C)) w') : o.wp Tryz.prog a w K Q := by
  have hr := run_bytes_of_string (P := Tryz.prog) w 9 55 5 ⟨xs.toArray⟩ str_und u8_slice u8_und
  have hs : (⟨xs.toArray⟩ : ByteArray).size = xs.length := by simp [ByteArray.size]
  have hge := grownCap_ge w xs.length 0 5
  have hle := grownCap_le_maxLen w xs.length 0 5 (by unfold maxLen; omega)
  rw [hs] at hr
  generalize grownCap w xs.length 0 5 = C at *
  unfold Oper.wp execOp
  simp only [ho, hx, Sem.run_bind, hr, Result.andThen_ok, Sem.run_pure]
  refine h _ C hge (by unfold maxLen at hle; omega) ?_ (Fr.alloc (Fr.drew Fr.refl))
  refine Blk.bs (pre := []) (post := (bytesRow ⟨xs.toArray⟩ C).toList.drop xs.length) (cs := (bytesRow ⟨xs.toArray⟩ C).toList) (T := 5) (fr := ((bytesRow ⟨xs.toArray⟩ C).size, (bytesRow ⟨xs.toArray⟩ C).size + 1)) ?_ ?_ rfl
  · exact Blk.conv (Blk.newAt (w := w.drew) rfl) rfl
  · have e : (bytesRow ⟨xs.toArray⟩ C).toList = by8 xs ++ List.replicate (C - xs.length) (Value.int .u8 0) := by simp [bytesRow, by8, hs]
    rw [e, List.drop_left' (by simp [by8_length])]; simp
theorem cidDefined {w : World} {c : CidM} (hok : c.Ok) : Calls Tryz.prog 285 #[cidV c] w fun e w' => e = .returned (.bool true) ∧ Fr [] w w' := by
  have hle := hok.le.2
  go_enter Tryz.func285, Tryz.ntmps285
  go_wp2
  go_ret
  refine ⟨?_, by exact frP⟩
  have : c.bytes.isEmpty = false := by cases h : c.bytes <;> simp_all
  simp [this]
theorem cidBytes {w : World} {c : CidM} (hok : c.Ok) : Calls Tryz.prog 278 #[cidV c] w fun e w' => ∃ b cp, e = .returned (.slice (some ⟨b, 0, none⟩) c.bytes.length cp) ∧ w.heap.size ≤ b ∧ c.bytes.length ≤ cp ∧ cp ≤ 9223372036854775807 ∧ Bs w' b 0 c.bytes ∧ Fr [] w w' := by
  have hle := hok.le
  have hd := fun w => cidDefined (w := w) hok
  go_enter Tryz.func278, Tryz.ntmps278
  go_wp2_with (first
    | go_at_call 285; refine (hd _).mono ?_; rintro e w1 ⟨rfl, hF1⟩; have hY := hF1.blk (b := w.heap.size) (Blk.newAt rfl) (by simp); have hyc := hY.cells
    | (with_reducible refine list_convert (fun K hK => ?_);  refine strB _ rfl c.bytes rfl (by omega) (fun w2 C hC1 hC2 hB2 hF2 => ?_)))
  go_ret
  have hs := hF1.size
  simp at hs
  exact ⟨_, C, rfl, by omega, hC1, hC2, hB2, (Fr.trans (S := []) (S' := []) (by exact frP) hF1 (by simp)).trans hF2 (by simp)⟩
theorem cidHash {w : World} {c : CidM} (hok : c.Ok) : Calls Tryz.prog 271 #[cidV c] w fun e w' => ∃ v b, e = .returned v ∧ w.heap.size ≤ b ∧ Sl w' v b (mhB c.code c.dig) ∧ Fr [] w w' := by
  have hle := hok.le
  have hb := fun w => cidBytes (w := w) hok
  have hv := fun w => cidVersion (w := w) hok
  have hcode := hok.code_lt
  rcases hok.kind with ⟨h0, h1, h2, h3⟩ | ⟨h0, hck, _⟩
  · have hmh : c.bytes = mhB c.code c.dig := by unfold CidM.bytes; rw [if_pos h0]
    rw [h0] at hv
    rw [← hmh]
    clear h1 h2 h3 hmh h0 hcode
    go_enter Tryz.func271, Tryz.ntmps271
    go_wp2_with (first
      | go_at_call 278; refine (hb _).mono ?_; rintro e w1 ⟨b, cp, rfl, hb1, hc1, hc2, hB1, hF1⟩; have hY := hF1.blk (b := w.heap.size) (Blk.newAt rfl) (by simp); have hyc := hY.cells
      | go_at_call 110; refine (hv _).mono ?_; rintro e w2 ⟨rfl, hF2⟩)
    go_ret
    simp at hb1
    exact ⟨_, b, rfl, by omega, Sl.mk (hB1.fr hF2 (by simp)) hc1 ⟨by omega, hc2⟩ rfl, (Fr.trans (S := []) (S' := []) (by exact frP) hF1 (by simp)).trans hF2 (by simp)⟩
  · have hbb : c.bytes = Lib.uvarint 1 ++ (Lib.uvarint c.codec ++ mhB c.code c.dig) := by rw [CidM.bytes1 h0, uv1]; rfl
    have hd1 : c.bytes.drop 1 = Lib.uvarint c.codec ++ mhB c.code c.dig := by rw [hbb, uv1]; rfl
    have hd2 : c.bytes.drop (1 + (Lib.uvarint c.codec).length) = mhB c.code c.dig := by rw [← List.drop_drop, hd1]; simp
    have hk1 := Lib.uvarint_pos c.codec
    have hm2 := mhB_two c.code c.dig
    have hln : c.bytes.length = 1 + (Lib.uvarint c.codec).length + (mhB c.code c.dig).length := by rw [hbb, uv1]; simp; omega
    have hA := fun (w' : World) (b cp : Nat) (hB : Bs w' b 0 c.bytes) (h1 : c.bytes.length ≤ cp) (h2 : cp ≤ 9223372036854775807) => fromUvarint (n := 1) (v := .slice (some ⟨b, 0, none⟩) c.bytes.length cp) (Sl.mk hB h1 ⟨by omega, h2⟩ rfl) (by omega) hbb
    have hC := fun (w' : World) (b cp : Nat) (hB : Bs w' b 0 c.bytes) (h1 : c.bytes.length ≤ cp) (h2 : cp ≤ 9223372036854775807) => fromUvarint (n := c.codec) (v := .slice (some ⟨b, 1, none⟩) (c.bytes.length - 1) (cp - 1))
      (Sl.mk (by have := hB.drop 1; rw [hd1] at this; simpa using this) (by rw [← hd1]; simp; omega) (by rw [← hd1]; simp; omega) (by rw [← hd1]; simp)) hck rfl
    rw [uv1] at hA
    rw [h0] at hv
    have Hd2 := Lib.hid hd2
    clear hbb hd1 hd2 h0
    generalize (Lib.uvarint c.codec).length = k at *
    have hle1 : (1 : Int) + k ≤ c.bytes.length := by omega
    have hle2 : (1 : Int) ≤ c.bytes.length := by omega
    have HL := Lib.hid hln
    clear hln
    go_enter Tryz.func271, Tryz.ntmps271
    go_wp2_with (first
      | go_at_call 278; refine (hb _).mono ?_; rintro e w1 ⟨b, cp, rfl, hb1, hc1, hc2, hB1, hF1⟩; have hY := hF1.blk (b := w.heap.size) (Blk.newAt rfl) (by simp); have hyc := hY.cells; have hn1 : ¬ cp = 1 := (by omega); have hn2 : ¬ cp = 1 + k := (by have := HL.out; omega)
      | go_at_call 110; refine (hv _).mono ?_; rintro e w2 ⟨rfl, hF2⟩; have hB2 := hB1.fr hF2 (by simp))
    refine (hA _ b cp hB2 hc1 hc2).mono ?_; rintro e w3 ⟨rfl, rfl⟩
    go_wp2_with fail
    refine (hC _ b cp hB2 hc1 hc2).mono ?_; rintro e w3 ⟨rfl, rfl⟩
    go_wp2_with fail
    go_ret
    simp at hb1
    refine ⟨.slice (some ⟨b, 1 + k, none⟩) (c.bytes.length - (1 + k)) (cp - (1 + k)), b, rfl, by omega, ?_, (Fr.trans (S := []) (S' := []) (by exact frP) hF1 (by simp)).trans hF2 (by simp)⟩
    exact Sl.mk (by have := hB2.drop (1 + k); rw [Hd2.out] at this; simpa using this) (by rw [← Hd2.out]; simp; omega) (by rw [← Hd2.out]; simp; omega) (by rw [← Hd2.out]; simp)
end Go.Proofs.Wx

namespace Go.Proofs.Wx
open Go Go.RowKit
theorem optZeroLengthSectionAsEOF {w : World} : Calls Tryz.prog 43 #[.bool false] w fun e w' => e = .returned (.func (.func 76) #[] #[.pointer (some ⟨w.heap.size, 0, none⟩)]) ∧ w' = w.alloc (.cells #[.bool false] 4) := by
  go_enter Tryz.func43, Tryz.ntmps43
  go_wp2
  go_ret
  exact ⟨rfl, rfl⟩
theorem optStoreIdentityCIDs {w : World} : Calls Tryz.prog 44 #[.bool false] w fun e w' => e = .returned (.func (.func 77) #[] #[.pointer (some ⟨w.heap.size, 0, none⟩)]) ∧ w' = w.alloc (.cells #[.bool false] 4) := by
  go_enter Tryz.func44, Tryz.ntmps44
  go_wp2
  go_ret
  exact ⟨rfl, rfl⟩
theorem optAllowDuplicatePuts {w : World} : Calls Tryz.prog 45 #[.bool false] w fun e w' => e = .returned (.func (.func 78) #[] #[.pointer (some ⟨w.heap.size, 0, none⟩)]) ∧ w' = w.alloc (.cells #[.bool false] 4) := by
  go_enter Tryz.func45, Tryz.ntmps45
  go_wp2
  go_ret
  exact ⟨rfl, rfl⟩
theorem optUseWholeCIDs {w : World} : Calls Tryz.prog 46 #[.bool false] w fun e w' => e = .returned (.func (.func 79) #[] #[.pointer (some ⟨w.heap.size, 0, none⟩)]) ∧ w' = w.alloc (.cells #[.bool false] 4) := by
  go_enter Tryz.func46, Tryz.ntmps46
  go_wp2
  go_ret
  exact ⟨rfl, rfl⟩
theorem optWriteAsCarV1 {w : World} : Calls Tryz.prog 47 #[.bool false] w fun e w' => e = .returned (.func (.func 80) #[] #[.pointer (some ⟨w.heap.size, 0, none⟩)]) ∧ w' = w.alloc (.cells #[.bool false] 4) := by
  go_enter Tryz.func47, Tryz.ntmps47
  go_wp2
  go_ret
  exact ⟨rfl, rfl⟩
theorem optWithTrustedCAR {w : World} : Calls Tryz.prog 48 #[.bool false] w fun e w' => e = .returned (.func (.func 81) #[] #[.pointer (some ⟨w.heap.size, 0, none⟩)]) ∧ w' = w.alloc (.cells #[.bool false] 4) := by
  go_enter Tryz.func48, Tryz.ntmps48
  go_wp2
  go_ret
  exact ⟨rfl, rfl⟩
theorem optUseDataPadding {w : World} : Calls Tryz.prog 49 #[.int .u64 0] w fun e w' => e = .returned (.func (.func 82) #[] #[.pointer (some ⟨w.heap.size, 0, none⟩)]) ∧ w' = w.alloc (.cells #[.int .u64 0] 30) := by
  go_enter Tryz.func49, Tryz.ntmps49
  go_wp2
  go_ret
  exact ⟨rfl, rfl⟩
theorem optUseIndexPadding {w : World} : Calls Tryz.prog 50 #[.int .u64 0] w fun e w' => e = .returned (.func (.func 83) #[] #[.pointer (some ⟨w.heap.size, 0, none⟩)]) ∧ w' = w.alloc (.cells #[.int .u64 0] 30) := by
  go_enter Tryz.func50, Tryz.ntmps50
  go_wp2
  go_ret
  exact ⟨rfl, rfl⟩
/-- The eight options of a call that asks for nothing: closures over their settings, in a slice. -/
structure OptsAt (w : World) (B b : Nat) : Prop where
  list : Blk w B [.func (.func 76) #[] #[.pointer (some ⟨b + 0, 0, none⟩)], .func (.func 77) #[] #[.pointer (some ⟨b + 1, 0, none⟩)], .func (.func 78) #[] #[.pointer (some ⟨b + 2, 0, none⟩)], .func (.func 79) #[] #[.pointer (some ⟨b + 3, 0, none⟩)], .func (.func 80) #[] #[.pointer (some ⟨b + 4, 0, none⟩)], .func (.func 81) #[] #[.pointer (some ⟨b + 5, 0, none⟩)], .func (.func 82) #[] #[.pointer (some ⟨b + 6, 0, none⟩)], .func (.func 83) #[] #[.pointer (some ⟨b + 7, 0, none⟩)]] 108 (0, 0)
  c0 : Blk w (b + 0) [.bool false] 4 (0, 0)
  c1 : Blk w (b + 1) [.bool false] 4 (0, 0)
  c2 : Blk w (b + 2) [.bool false] 4 (0, 0)
  c3 : Blk w (b + 3) [.bool false] 4 (0, 0)
  c4 : Blk w (b + 4) [.bool false] 4 (0, 0)
  c5 : Blk w (b + 5) [.bool false] 4 (0, 0)
  c6 : Blk w (b + 6) [.int .u64 0] 30 (0, 0)
  c7 : Blk w (b + 7) [.int .u64 0] 30 (0, 0)
theorem OptsAt.fr {w w' : World} {B b : Nat} {S : List Nat} (h : OptsAt w B b) (hf : Fr S w w') (hB : B ∉ S) (hb : ∀ k ∈ S, k < b ∨ b + 8 ≤ k) : OptsAt w' B b := by
  obtain ⟨h0, h1, h2, h3, h4, h5, h6, h7, h8⟩ := h
  have o : ∀ i, i < 8 → b + i ∉ S := fun i hi hm => by have := hb _ hm; omega
  exact ⟨hf.blk h0 hB, hf.blk h1 (o 0 (by omega)), hf.blk h2 (o 1 (by omega)), hf.blk h3 (o 2 (by omega)), hf.blk h4 (o 3 (by omega)), hf.blk h5 (o 4 (by omega)), hf.blk h6 (o 5 (by omega)), hf.blk h7 (o 6 (by omega)), hf.blk h8 (o 7 (by omega))⟩
abbrev zeroOpts : Value := .agg #[.bool false, .bool false, .bool false, .bool false, .bool false, .bool false, .int .u64 0, .int .u64 0, .int .u64 0, .int .u64 0, .int .u64 0, .int .u64 0]
theorem options0 {w : World} : Calls Tryz.prog 22 #[zeroOpts] w fun e w' => ∃ B b, e = .returned (.slice (some ⟨B, 0, none⟩) 8 8) ∧ OptsAt w' B b ∧ w.heap.size ≤ b ∧ b + 8 ≤ B ∧ Fr [] w w' := by
  go_enter Tryz.func22, Tryz.ntmps22
  go_wp2_with (first
    | go_at_call 43; refine optZeroLengthSectionAsEOF.mono ?_; rintro e w1 ⟨rfl, rfl⟩; (try go_simp); refine hK _ _ (World.Ext.alloc _ _) ?_
    | go_at_call 44; refine optStoreIdentityCIDs.mono ?_; rintro e w1 ⟨rfl, rfl⟩; (try go_simp); refine hK _ _ (World.Ext.alloc _ _) ?_
    | go_at_call 45; refine optAllowDuplicatePuts.mono ?_; rintro e w1 ⟨rfl, rfl⟩; (try go_simp); refine hK _ _ (World.Ext.alloc _ _) ?_
    | go_at_call 46; refine optUseWholeCIDs.mono ?_; rintro e w1 ⟨rfl, rfl⟩; (try go_simp); refine hK _ _ (World.Ext.alloc _ _) ?_
    | go_at_call 47; refine optWriteAsCarV1.mono ?_; rintro e w1 ⟨rfl, rfl⟩; (try go_simp); refine hK _ _ (World.Ext.alloc _ _) ?_
    | go_at_call 48; refine optWithTrustedCAR.mono ?_; rintro e w1 ⟨rfl, rfl⟩; (try go_simp); refine hK _ _ (World.Ext.alloc _ _) ?_
    | go_at_call 49; refine optUseDataPadding.mono ?_; rintro e w1 ⟨rfl, rfl⟩; (try go_simp); refine hK _ _ (World.Ext.alloc _ _) ?_
    | go_at_call 50; refine optUseIndexPadding.mono ?_; rintro e w1 ⟨rfl, rfl⟩; (try go_simp); refine hK _ _ (World.Ext.alloc _ _) ?_
    | (refine wre 1 [(0,.free),(1,.look),(3,.free),(4,.look),(6,.free),(7,.look),(9,.free),(10,.look),(12,.free),(13,.look),(15,.free),(16,.look),(18,.free),(19,.look),(21,.free),(22,.look),(2,.grow),(5,.grow),(8,.grow),(11,.grow),(14,.grow),(17,.grow),(20,.grow),(23,.grow),(24,.make),(25,.free)] ?_)
    | (with_reducible refine wEI ?_; (first | (refine wEN ?_; skip) | (refine wEF rfl (fun K hK => ?_); go_simp) | (refine wEL rfl rfl (fun K hK => ?_); go_simp) | (refine wER rfl (fun K hK => ?_); go_simp) | (refine wEM rfl (fun K hK => ?_); go_simp; try refine ⟨_, _, ⟨rfl, rfl⟩, ?_⟩) | (refine wEG rfl (fun K hK => ?_); go_simp) | (refine wEA rfl (fun K hK => ?_); go_simp))))
  go_ret
  refine ⟨_, w.heap.size + 1, rfl, ⟨?_, ?_, ?_, ?_, ?_, ?_, ?_, ?_, ?_⟩, by omega, by omega, by repeat (first | exact Fr.refl | (with_reducible refine Fr.drew ?_) | (with_reducible refine Fr.alloc ?_))⟩
  all_goals exact Blk.conv (by repeat (first | (with_reducible refine Blk.newAt ?_; (simp; done)) | (with_reducible apply Blk.drew) | (with_reducible apply Blk.alloc))) (by first | rfl | (simp; done))
theorem opt_info : (Tryz.prog.info? 84).map (·.size) = some 13 := by kernel_rfl
abbrev optL : List Value := [.int .u64 0, .int .u64 0, .int .u64 1025, .bool false, .int .u64 2048, .bool false, .bool false, .bool false, .int .u64 9223372036854775807, .bool false, .bool false, .int .u64 33554432, .int .u64 8388608]
abbrev optL0 : List Value := [.int .u64 0, .int .u64 0, .int .u64 0, .bool false, .int .u64 0, .bool false, .bool false, .bool false, .int .u64 9223372036854775807, .bool false, .bool false, .int .u64 33554432, .int .u64 8388608]
theorem optFZeroLengthSectionAsEOF {w : World} {p c : Nat} (hP : Blk w p optL0 84 (0, 0)) (hC : Blk w c [.bool false] 4 (0, 0)) : Calls Tryz.prog 76 #[.pointer (some ⟨p, 0, none⟩), .pointer (some ⟨c, 0, none⟩)] w fun e w' => e = .returned (.tuple #[]) ∧ Blk w' p optL0 84 (0, 0) ∧ Fr [p] w w' := by
  have hc := hC.cells
  have pc := hP.cells
  have pf := hP.free
  go_enter Tryz.func76, Tryz.ntmps76
  go_wp2
  go_end0
  exact ⟨rfl, Blk.conv (Blk.set hP) rfl, by exact frP⟩
theorem optFStoreIdentityCIDs {w : World} {p c : Nat} (hP : Blk w p optL0 84 (0, 0)) (hC : Blk w c [.bool false] 4 (0, 0)) : Calls Tryz.prog 77 #[.pointer (some ⟨p, 0, none⟩), .pointer (some ⟨c, 0, none⟩)] w fun e w' => e = .returned (.tuple #[]) ∧ Blk w' p optL0 84 (0, 0) ∧ Fr [p] w w' := by
  have hc := hC.cells
  have pc := hP.cells
  have pf := hP.free
  go_enter Tryz.func77, Tryz.ntmps77
  go_wp2
  go_end0
  exact ⟨rfl, Blk.conv (Blk.set hP) rfl, by exact frP⟩
theorem optFAllowDuplicatePuts {w : World} {p c : Nat} (hP : Blk w p optL0 84 (0, 0)) (hC : Blk w c [.bool false] 4 (0, 0)) : Calls Tryz.prog 78 #[.pointer (some ⟨p, 0, none⟩), .pointer (some ⟨c, 0, none⟩)] w fun e w' => e = .returned (.tuple #[]) ∧ Blk w' p optL0 84 (0, 0) ∧ Fr [p] w w' := by
  have hc := hC.cells
  have pc := hP.cells
  have pf := hP.free
  go_enter Tryz.func78, Tryz.ntmps78
  go_wp2
  go_end0
  exact ⟨rfl, Blk.conv (Blk.set hP) rfl, by exact frP⟩
theorem optFUseWholeCIDs {w : World} {p c : Nat} (hP : Blk w p optL0 84 (0, 0)) (hC : Blk w c [.bool false] 4 (0, 0)) : Calls Tryz.prog 79 #[.pointer (some ⟨p, 0, none⟩), .pointer (some ⟨c, 0, none⟩)] w fun e w' => e = .returned (.tuple #[]) ∧ Blk w' p optL0 84 (0, 0) ∧ Fr [p] w w' := by
  have hc := hC.cells
  have pc := hP.cells
  have pf := hP.free
  go_enter Tryz.func79, Tryz.ntmps79
  go_wp2
  go_end0
  exact ⟨rfl, Blk.conv (Blk.set hP) rfl, by exact frP⟩
theorem optFWriteAsCarV1 {w : World} {p c : Nat} (hP : Blk w p optL0 84 (0, 0)) (hC : Blk w c [.bool false] 4 (0, 0)) : Calls Tryz.prog 80 #[.pointer (some ⟨p, 0, none⟩), .pointer (some ⟨c, 0, none⟩)] w fun e w' => e = .returned (.tuple #[]) ∧ Blk w' p optL0 84 (0, 0) ∧ Fr [p] w w' := by
  have hc := hC.cells
  have pc := hP.cells
  have pf := hP.free
  go_enter Tryz.func80, Tryz.ntmps80
  go_wp2
  go_end0
  exact ⟨rfl, Blk.conv (Blk.set hP) rfl, by exact frP⟩
theorem optFWithTrustedCAR {w : World} {p c : Nat} (hP : Blk w p optL0 84 (0, 0)) (hC : Blk w c [.bool false] 4 (0, 0)) : Calls Tryz.prog 81 #[.pointer (some ⟨p, 0, none⟩), .pointer (some ⟨c, 0, none⟩)] w fun e w' => e = .returned (.tuple #[]) ∧ Blk w' p optL0 84 (0, 0) ∧ Fr [p] w w' := by
  have hc := hC.cells
  have pc := hP.cells
  have pf := hP.free
  go_enter Tryz.func81, Tryz.ntmps81
  go_wp2
  go_end0
  exact ⟨rfl, Blk.conv (Blk.set hP) rfl, by exact frP⟩
theorem optFUseDataPadding {w : World} {p c : Nat} (hP : Blk w p optL0 84 (0, 0)) (hC : Blk w c [.int .u64 0] 30 (0, 0)) : Calls Tryz.prog 82 #[.pointer (some ⟨p, 0, none⟩), .pointer (some ⟨c, 0, none⟩)] w fun e w' => e = .returned (.tuple #[]) ∧ Blk w' p optL0 84 (0, 0) ∧ Fr [p] w w' := by
  have hc := hC.cells
  have pc := hP.cells
  have pf := hP.free
  go_enter Tryz.func82, Tryz.ntmps82
  go_wp2
  go_end0
  exact ⟨rfl, Blk.conv (Blk.set hP) rfl, by exact frP⟩
theorem optFUseIndexPadding {w : World} {p c : Nat} (hP : Blk w p optL0 84 (0, 0)) (hC : Blk w c [.int .u64 0] 30 (0, 0)) : Calls Tryz.prog 83 #[.pointer (some ⟨p, 0, none⟩), .pointer (some ⟨c, 0, none⟩)] w fun e w' => e = .returned (.tuple #[]) ∧ Blk w' p optL0 84 (0, 0) ∧ Fr [p] w w' := by
  have hc := hC.cells
  have pc := hP.cells
  have pf := hP.free
  go_enter Tryz.func83, Tryz.ntmps83
  go_wp2
  go_end0
  exact ⟨rfl, Blk.conv (Blk.set hP) rfl, by exact frP⟩
end Go.Proofs.Wx

namespace Go.Proofs.Wx
open Go Go.RowKit
theorem applyOptions {w : World} {B b : Nat} (h : OptsAt w B b) : Calls Tryz.prog 35 #[.slice (some ⟨B, 0, none⟩) 8 8] w fun e w' => e = .returned (.agg optL.toArray) ∧ Fr [] w w' := by
  have hO := h
  have hOf := fun (w' : World) (hf : Fr [] w w') => h.fr hf (by simp) (by simp)
  have hl := h.list.lt
  have l8 := h.c7.lt
  have hr := h.list.cells
  go_enter Tryz.func35, Tryz.ntmps35
  go_wp2_with (first
    | (with_reducible refine wp_loop_rounds 9 ?_); rw [rounds_succ]
    | (with_reducible rw [rounds_succ])
    | go_at_call 76; refine (optFZeroLengthSectionAsEOF (p := w.heap.size + 1) (Blk.conv (Blk.newAt (by simp)) rfl) (hOf _ (by exact frP)).c0).mono ?_; rintro e w1 ⟨rfl, hP, hF⟩; replace hO := h.fr (Fr.trans (S := [w.heap.size + 1]) (by exact frP) hF (by simp)) (by simp; omega) (by simp; omega); clear hr; have hr := hO.list.cells; have pc := hP.cells; have pf := hP.free; have hW := Fr.trans (S := []) (S' := [w.heap.size + 1]) (w := w) (by exact frP) hF (by simp); have hR := hF.blk (b := w.heap.size) (cs := [.int .u64 0, .int .u64 0, .int .u64 0, .bool false, .int .u64 0, .bool false, .bool false, .bool false, .int .u64 0, .bool false, .bool false, .int .u64 0, .int .u64 0]) (Blk.alloc (Blk.newAt rfl)) (by simp)
    | go_at_call 77; refine (optFStoreIdentityCIDs (p := w.heap.size + 1) hP hO.c1).mono ?_; rintro e w1 ⟨rfl, hP, hF⟩; replace hO := hO.fr hF (by simp; omega) (by simp; omega); clear hr; have hr := hO.list.cells; have pc := hP.cells; have pf := hP.free; replace hW : Fr [] w w1 := hW.trans hF (by simp); replace hR := hF.blk hR (by simp)
    | go_at_call 78; refine (optFAllowDuplicatePuts (p := w.heap.size + 1) hP hO.c2).mono ?_; rintro e w1 ⟨rfl, hP, hF⟩; replace hO := hO.fr hF (by simp; omega) (by simp; omega); clear hr; have hr := hO.list.cells; have pc := hP.cells; have pf := hP.free; replace hW : Fr [] w w1 := hW.trans hF (by simp); replace hR := hF.blk hR (by simp)
    | go_at_call 79; refine (optFUseWholeCIDs (p := w.heap.size + 1) hP hO.c3).mono ?_; rintro e w1 ⟨rfl, hP, hF⟩; replace hO := hO.fr hF (by simp; omega) (by simp; omega); clear hr; have hr := hO.list.cells; have pc := hP.cells; have pf := hP.free; replace hW : Fr [] w w1 := hW.trans hF (by simp); replace hR := hF.blk hR (by simp)
    | go_at_call 80; refine (optFWriteAsCarV1 (p := w.heap.size + 1) hP hO.c4).mono ?_; rintro e w1 ⟨rfl, hP, hF⟩; replace hO := hO.fr hF (by simp; omega) (by simp; omega); clear hr; have hr := hO.list.cells; have pc := hP.cells; have pf := hP.free; replace hW : Fr [] w w1 := hW.trans hF (by simp); replace hR := hF.blk hR (by simp)
    | go_at_call 81; refine (optFWithTrustedCAR (p := w.heap.size + 1) hP hO.c5).mono ?_; rintro e w1 ⟨rfl, hP, hF⟩; replace hO := hO.fr hF (by simp; omega) (by simp; omega); clear hr; have hr := hO.list.cells; have pc := hP.cells; have pf := hP.free; replace hW : Fr [] w w1 := hW.trans hF (by simp); replace hR := hF.blk hR (by simp)
    | go_at_call 82; refine (optFUseDataPadding (p := w.heap.size + 1) hP hO.c6).mono ?_; rintro e w1 ⟨rfl, hP, hF⟩; replace hO := hO.fr hF (by simp; omega) (by simp; omega); clear hr; have hr := hO.list.cells; have pc := hP.cells; have pf := hP.free; replace hW : Fr [] w w1 := hW.trans hF (by simp); replace hR := hF.blk hR (by simp)
    | go_at_call 83; refine (optFUseIndexPadding (p := w.heap.size + 1) hP hO.c7).mono ?_; rintro e w1 ⟨rfl, hP, hF⟩; replace hO := hO.fr hF (by simp; omega) (by simp; omega); clear hr; have hr := hO.list.cells; have pc := hP.cells; have pf := hP.free; replace hW : Fr [] w w1 := hW.trans hF (by simp); replace hR := hF.blk hR (by simp)
    | (with_reducible refine list_store 84 (fun K hK => ?_);  have hR1 : Blk _ w.heap.size [.int .u64 0, .int .u64 0, .int .u64 0, .bool false, .int .u64 0, .bool false, .bool false, .bool false, .int .u64 0, .bool false, .bool false, .int .u64 0, .int .u64 0] _ _ := Blk.setNe (a := ⟨w.heap.size + 1, 4, none⟩) (v := .int .u64 2048) (by simp) (Blk.setNe (a := ⟨w.heap.size + 1, 2, none⟩) (v := .int .u64 1025) (by simp) hR); refine storeRow _ _ _ rfl (w.heap.size) optL rfl rfl _ _ hR1 (by kernel_rfl) rfl rfl (fun w2 hR2 hF2 => ?_); have rc := hR2.cells))
  refine bodyPost_ret (v := .agg optL.toArray) (by simp [results, Tryz.results35, go_sem, rc]) rfl ⟨rfl, ?_⟩
  exact Fr.trans (S := []) (S' := [w.heap.size]) (by repeat (first | exact hW | (refine Fr.setCell (.inr (by simp)) ?_))) hF2 (by simp)
end Go.Proofs.Wx
