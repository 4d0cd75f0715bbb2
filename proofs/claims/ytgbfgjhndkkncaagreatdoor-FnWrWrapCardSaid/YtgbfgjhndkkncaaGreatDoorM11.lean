import Derived.Test.YtgbfgjhndkkncaaGreatDoorM3
import Derived.Test.YtgbfgjhndkkncaaGreatDoorM10
import Derived.Sort.AssemblyPlain
import Derived.Lib.Endian
set_option maxRecDepth 100000
set_option maxHeartbeats 1000000
set_option linter.unusedVariables false
set_option linter.unusedSimpArgs false
namespace Go.Proofs.Wx
open Go Go.RowKit
@[go_sem] theorem eql_slice_some (a : Addr) (l c : Nat) (w : World) : (binOp .eql 55 (.slice (some a) l c) (.slice none 0 0)).run Tryz.prog w = .ok (.bool false) w := by kernel_rfl
@[go_sem] theorem eql_slice_none (w : World) : (binOp .eql 55 (.slice none 0 0) (.slice none 0 0)).run Tryz.prog w = .ok (.bool true) w := by kernel_rfl
theorem bufLen {w : World} {p l c : Nat} {a : Option Addr} {lr : Int} (hB : Blk w p [.slice a l c, .int .i64 0, .int .i8 lr] 59 (0, 0)) (hl : l < 1000000000000) :
    Calls Tryz.prog 253 #[.pointer (some ⟨p, 0, none⟩)] w fun e w' => e = .returned (.int .i64 l) ∧ w' = w.drew := by
  have hcc := hB.cells
  have hli : (l : Int) < 1000000000000 := by omega
  go_enter Tryz.func253, Tryz.ntmps253
  go_wp2_with (first
    | (refine wre 1 [(0,.free),(1,.free),(2,.free),(3,.look),(4,.free),(5,.free),(6,.free),(7,.free),(8,.look),(9,.free),(10,.free)] ?_)
    | (with_reducible refine wEI ?_; (first | (refine wEN ?_; skip) | (refine wEF rfl (fun K hK => ?_); go_simp) | (refine wEL rfl rfl (fun K hK => ?_); go_simp) | (refine wER rfl (fun K hK => ?_); go_simp) | (refine wEM rfl (fun K hK => ?_); go_simp; try refine ⟨_, _, ⟨rfl, rfl⟩, ?_⟩) | (refine wEG rfl (fun K hK => ?_); go_simp) | (refine wEA rfl (fun K hK => ?_); go_simp))))
  go_ret
  exact ⟨by simp; exact IntWalk.i64_in _ (by omega), rfl⟩
theorem growRow {w : World} {p g l c n : Nat} {lr : Int} {cs : List Value} (hB : Blk w p [.slice (some ⟨g, 0, none⟩) l c, .int .i64 0, .int .i8 lr] 59 (0, 0)) (hg : Blk w g cs 5 (0, 0)) (hcs : cs.length = c) (hl : l ≤ c) (hc : c ≤ 140737488355328) (hn : n < 1000000000000) (hln : l < 1000000000000) (hl0 : 0 < l) (h0 : 0 < n) (hno : c < l + n)
    (h1 : ∀ v ∈ cs.take l, v.oneCell' = true) :
    Calls Tryz.prog 255 #[.pointer (some ⟨p, 0, none⟩), .int .i64 n] w fun e w' => ∃ C cs2, e = .returned (.int .i64 l) ∧ Blk w' p [.slice (some ⟨w.heap.size, 0, none⟩) (l + n) C, .int .i64 0, .int .i8 lr] 59 (0, 0) ∧
      Blk w' w.heap.size cs2 5 (0, 0) ∧ cs2.length = C ∧ cs2.take l = cs.take l ∧ l + n ≤ C ∧ C ≤ maxLen ∧ Fr [p] w w' := by
  have hpl := hB.lt
  have hlen := bufLen hB hln
  have htg := fun (w' : World) (hB : Blk w' p [.slice (some ⟨g, 0, none⟩) l c, .int .i64 0, .int .i8 lr] 59 (0, 0)) => tryGrowNo (n := n) hB hl (by omega) hn hno
  have hgs := fun (w' : World) (hg' : Blk w' g cs 5 (0, 0)) => Tryz.bytes_growSlice_row g l c n cs.toArray w' hg' (by simpa using hcs) hl h0 (by omega) hc (by simpa using h1)
  have e0 : ¬ ((l : Int) = 0) := by omega
  have dA : decide ((n : Int) ≤ (c : Int) / 2 - l) = false := decide_eq_false (by omega)
  have dB : decide (9223372036854775807 - (c : Int) - n < c) = false := decide_eq_false (by omega)
  have wA : IntKind.i64.wrap ((c : Int) / 2 - l) = (c : Int) / 2 - l := IntWalk.i64_in _ (by omega)
  have wA0 : IntKind.i64.wrap ((c : Int) / 2) = (c : Int) / 2 := IntWalk.i64_in _ (by omega)
  have wB : IntKind.i64.wrap (9223372036854775807 - (c : Int)) = 9223372036854775807 - (c : Int) := IntWalk.i64_in _ (by omega)
  have wC : IntKind.i64.wrap (9223372036854775807 - (c : Int) - n) = 9223372036854775807 - (c : Int) - n := IntWalk.i64_in _ (by omega)
  have wD : IntKind.i64.wrap (n : Int) = n := IntWalk.i64_in _ (by omega)
  have wE : IntKind.i64.wrap ((l : Int) + n) = (l : Int) + n := IntWalk.i64_in _ (by omega)
  have e4 : (l : Int) ≤ c := by omega
  have E := Lib.hid (And.intro dA (And.intro dB (And.intro wA (And.intro wB (And.intro wC (And.intro wD (And.intro wE (And.intro e4 wA0))))))))
  have HN := Lib.hid (And.intro hcs (And.intro hl (And.intro hc (And.intro hn (And.intro hln (And.intro hl0 (And.intro h0 hno)))))))
  clear hcs hl hc hn hln hl0 h0 hno h1 dA dB wA wB wC wD wE e4 wA0
  go_enter Tryz.func255, Tryz.ntmps255
  have hgd := hgs w.drew.drew hg.drew.drew
  have htw := htg w.drew hB.drew
  clear hgs htg
  go_wp2_with (first
    | go_at_call 253; refine hlen.mono ?_; rintro e w1 ⟨rfl, rfl⟩; clear hlen
    | go_at_call 254; refine htw.mono ?_; rintro e w2 ⟨rfl, rfl⟩; clear htw; have bc2 := hB.cell 0; have bc3 := hB.cell 1; have bf1 := hB.free; obtain ⟨dA, dB, wA, wB, wC, wD, wE, e4, wA0⟩ := E.out; clear E
    | go_at_call 256; refine hgd.mono ?_; rintro e w3 ⟨C, cs2, rfl, hN, hCs, htk, hC1, hC2, hb3⟩; have hF3 : Fr [] w w3 := Fr.trans (S := []) (Fr.drew (Fr.drew Fr.refl)) (Fr.of_below (S := []) hb3 (Nat.le_refl _)) (by simp); have hB3 := hF3.blk hB (by simp); have bd0 := hB3.cell 0; have bd1 := hB3.cell 1; have bd2 := hB3.free; have hC3 : (l : Int) + n ≤ C := by omega
    | (refine wre 12 [(0,.free),(1,.free),(2,.free),(3,.look),(4,.free),(5,.free),(6,.free),(7,.look),(8,.free),(9,.free),(10,.free),(11,.look),(12,.free),(13,.act)] ?_)
    | (refine wre 15 [(0,.free),(1,.free),(2,.free),(3,.free),(4,.look),(5,.free),(6,.free),(7,.free),(8,.look),(9,.free),(10,.free),(11,.free),(12,.free),(13,.look),(14,.free),(15,.free),(16,.act),(17,.free),(18,.free),(19,.act)] ?_)
    | (with_reducible refine wEI ?_; (first | (refine wEN ?_; skip) | (refine wEF rfl (fun K hK => ?_); go_simp) | (refine wEL rfl rfl (fun K hK => ?_); go_simp) | (refine wER rfl (fun K hK => ?_); go_simp) | (refine wEM rfl (fun K hK => ?_); go_simp; try refine ⟨_, _, ⟨rfl, rfl⟩, ?_⟩) | (refine wEG rfl (fun K hK => ?_); go_simp) | (refine wEA rfl (fun K hK => ?_); go_simp))))
  go_goals
  go_ret
  have hs : w.heap.size ≠ p := Ne.symm (Nat.ne_of_lt hpl)
  refine ⟨C, cs2.toList, rfl, ?_, ?_, by simpa using hCs, by simpa using htk, hC1, hC2, ?_⟩
  · exact blkP
  · have hN' : Blk w3 w.heap.size cs2.toList 5 (0, 0) := hN
    exact blkP
  · exact (by exact frP)
end Go.Proofs.Wx

namespace Go.Proofs.Wx
open Go Go.RowKit
theorem growNil {w : World} {p n : Nat} {lr : Int} (hB : Blk w p [.slice none 0 0, .int .i64 0, .int .i8 lr] 59 (0, 0)) (h0 : 0 < n) (hn : n ≤ 64) :
    Calls Tryz.prog 255 #[.pointer (some ⟨p, 0, none⟩), .int .i64 n] w fun e w' => e = .returned (.int .i64 0) ∧ Blk w' p [.slice (some ⟨w.heap.size, 0, none⟩) n 64, .int .i64 0, .int .i8 lr] 59 (0, 0) ∧
      Blk w' w.heap.size (List.replicate 64 (.int .u8 0)) 5 (0, 0) ∧ Fr [p] w w' := by
  have hpl := hB.lt
  have hlen := bufLen hB (by omega)
  have htw := tryGrowNo (n := n) hB.drew (Nat.le_refl _) (by omega) (by omega) (by omega)
  have hbc := hB.cell 0
  have hbd := hB.cell 1
  have hf := hB.free
  have hni : (n : Int) ≤ 64 := by omega
  have hs : w.heap.size ≠ p := Ne.symm (Nat.ne_of_lt hpl)
  go_enter Tryz.func255, Tryz.ntmps255
  go_wp2_with (first
    | go_at_call 253; refine hlen.mono ?_; rintro e w1 ⟨rfl, rfl⟩; clear hlen
    | go_at_call 254; refine htw.mono ?_; rintro e w2 ⟨rfl, rfl⟩; clear htw
    | (with_reducible refine list_makeSlice (fun K hK => ?_);  refine makeB _ _ rfl _ _ _ _ n 64 rfl rfl rfl rfl (by omega) (by omega) ?_)
    | (refine wre 12 [(0,.free),(1,.free),(2,.free),(3,.look),(4,.free),(5,.free),(6,.free),(7,.look),(8,.free),(9,.free),(10,.free),(11,.look),(12,.free),(13,.act)] ?_)
    | (refine wre 15 [(0,.free),(1,.free),(2,.free),(3,.free),(4,.look),(5,.free),(6,.free),(7,.free),(8,.look),(9,.free),(10,.free),(11,.free),(12,.free),(13,.look),(14,.free),(15,.free),(16,.act),(17,.free),(18,.free),(19,.act)] ?_)
    | (with_reducible refine wEI ?_; (first | (refine wEN ?_; skip) | (refine wEF rfl (fun K hK => ?_); go_simp) | (refine wEL rfl rfl (fun K hK => ?_); go_simp) | (refine wER rfl (fun K hK => ?_); go_simp) | (refine wEM rfl (fun K hK => ?_); go_simp; try refine ⟨_, _, ⟨rfl, rfl⟩, ?_⟩) | (refine wEG rfl (fun K hK => ?_); go_simp) | (refine wpE_actp rfl rfl (fun K hK => ?_); simp only [List.getElem_toArray, List.getElem_cons_succ, List.getElem_cons_zero]; (first | (with_reducible refine op_makeSlice ?_;  refine makeB _ _ rfl _ _ _ _ n 64 rfl rfl rfl rfl (by omega) (by omega) ?_))) | (refine wEA rfl (fun K hK => ?_); go_simp))))
  go_ret
  refine ⟨rfl, ?_, ?_, ?_⟩
  · exact blkP
  · exact Blk.conv (Blk.newAt (by simp)) rfl
  · exact (by exact frP)
theorem lay_take {cs : List Value} {l : Nat} {ys xs : List UInt8} (h1 : cs.take l = by8 ys) (hl : ys.length = l) (h2 : l + xs.length ≤ cs.length) : (lay cs l xs).take (l + xs.length) = by8 (ys ++ xs) := by
  have h3 : l ≤ cs.length := by omega
  unfold lay
  rw [List.take_append_of_le_length (by simp [by8_length]; omega), h1, by8_append]
  rw [List.take_of_length_le (by simp [by8_length]; omega)]
def WrPost (w : World) (p base : Nat) (v : Value) (ys xs : List UInt8) (e : Ending) (w' : World) : Prop :=
  e = .returned (.tuple #[.int .i64 xs.length, .nilIface]) ∧ ∃ v', Buf w' p base v' (ys ++ xs) ∧ (v'.ownBlock = v.ownBlock ∨ v'.ownBlock = some w.heap.size) ∧ Fr (p :: v.ownBlock.toList) w w'
theorem writeRoom {w : World} {p base b so c2 g cap : Nat} {ys xs : List UInt8} {cur : List Value} {lr : Int} (hp : Blk w p [.slice (some ⟨g, 0, none⟩) ys.length cap, .int .i64 0, .int .i8 lr] 59 (0, 0)) (hpb : p < base) (hbg : base ≤ g)
    (hg : Blk w g cur 5 (0, 0)) (hm : cap ≤ maxLen) (hsz : cur.length = cap) (htk : cur.take ys.length = by8 ys) (hB : Bs w b so xs) (hbp : b ≠ p) (hbv : b ≠ g) (hroom : ys.length + xs.length ≤ cap) (hx0 : xs ≠ []) (hlen : ys.length + xs.length < 1000000000000) :
    Calls Tryz.prog 251 #[.pointer (some ⟨p, 0, none⟩), .slice (some ⟨b, so, none⟩) xs.length c2] w fun e w' => WrPost w p base (.slice (some ⟨g, 0, none⟩) ys.length cap) ys xs e w' := by
  have hf := hp.free
  have hgp : g ≠ p := by omega
  have htg := fun (w' : World) (h : Blk w' p [.slice (some ⟨g, 0, none⟩) ys.length cap, .int .i64 0, .int .i8 0] 59 (0, 0)) => tryGrowYes (n := xs.length) h (by unfold maxLen at hm; omega) (by omega) hroom
  have h1 : (ys.length : Int) + xs.length ≤ cap := by omega
  have hc2 := hp.cell 2
  have hxl := List.length_pos_iff.2 hx0
  have n1 : ¬ cap = ys.length := by omega
  have n2 : ¬ (cap : Int) = ys.length := by omega
  have L1 := Lib.hid (And.intro hm (And.intro hlen (And.intro hroom hsz)))
  clear hm hlen
  go_enter Tryz.func251, Tryz.ntmps251
  go_wp2_with (first
    | go_at_call 254; refine (htg _ (by exact blkP)).mono ?_; rintro e w2 ⟨rfl, hB2, hF2⟩; have hF02 : Fr [p] w w2 := Fr.trans (S := [p]) (by exact frP) hF2 (by simp); have hg2 := hF02.blk hg (by simp [hgp]); have hx2 := hB.fr hF02 (by simp [hbp]); have bc2 := hB2.cell 0; clear htg
    | ((with_reducible refine list_bi .copy (fun K hK => ?_));  refine copyB _ _ 55 55 rfl 5 (by kernel_rfl) (by kernel_rfl) _ _ _ _ _ _ _ _ rfl rfl cur _ (by exact blkP) xs hx2 (by show _ = min _ _; omega) (by have := L1.out; omega) (fun w5 hg5 hf5 => ?_); have hB5 := hf5.blk (b := p) (by exact blkP) (by simp [Ne.symm hgp])))
  go_ret2
  obtain ⟨hm, hlen, _, _⟩ := L1.out
  have hll := lay_length (cs := cur) (off := ys.length) (xs := xs) (by omega)
  refine ⟨rfl, .slice (some ⟨g, 0, none⟩) (ys.length + xs.length) cap, ⟨⟨0, hB5⟩, ⟨by simp [by8_length], .inr ⟨g, cap, (lay cur ys.length xs).toArray, by simp, hbg, hg5, by simp; omega, hm, by simp; omega, ?_⟩⟩, hpb, by simp; omega⟩, .inl (by simp [Value.ownBlock]), ?_⟩
  · have := lay_take htk rfl (xs := xs) (by omega)
    simpa using this
  · refine (hF02.mono (by simp)).trans hf5 (by simp [Value.ownBlock])
theorem writeGrow {w : World} {p base b so c2 g cap : Nat} {ys xs : List UInt8} {cur : List Value} {lr : Int} (hp : Blk w p [.slice (some ⟨g, 0, none⟩) ys.length cap, .int .i64 0, .int .i8 lr] 59 (0, 0)) (hpb : p < base) (hbg : base ≤ g)
    (hg : Blk w g cur 5 (0, 0)) (hyc : ys.length ≤ cap) (hsz : cur.length = cap) (htk : cur.take ys.length = by8 ys) (hB : Bs w b so xs) (hbp : b ≠ p) (hbv : b ≠ g) (hroom : cap < ys.length + xs.length) (hx0 : xs ≠ []) (hy0 : ys ≠ []) (hlen : ys.length + xs.length < 1000000000000) (hbase : base ≤ w.heap.size) :
    Calls Tryz.prog 251 #[.pointer (some ⟨p, 0, none⟩), .slice (some ⟨b, so, none⟩) xs.length c2] w fun e w' => WrPost w p base (.slice (some ⟨g, 0, none⟩) ys.length cap) ys xs e w' := by
  have hf := hp.free
  have hgp : g ≠ p := by omega
  have hxl := List.length_pos_iff.2 hx0
  have hyl := List.length_pos_iff.2 hy0
  have hpw := hp.lt
  have hp1 : Blk (w.setCell ⟨p, 2, none⟩ (.int .i8 0)) p [.slice (some ⟨g, 0, none⟩) ys.length cap, .int .i64 0, .int .i8 0] 59 (0, 0) := hp.set
  have hg1 : Blk (w.setCell ⟨p, 2, none⟩ (.int .i8 0)) g cur 5 (0, 0) := hg.setNe (Ne.symm hgp)
  have hF1 : Fr [p] w (w.setCell ⟨p, 2, none⟩ (.int .i8 0)) := Fr.setCell (.inl (by simp)) Fr.refl
  have hs1 : (w.setCell ⟨p, 2, none⟩ (.int .i8 0)).heap.size = w.heap.size := by simp
  have htg := tryGrowNo (n := xs.length) hp1 hyc (by omega) (by omega) hroom
  have hgr := growRow (n := xs.length) hp1 hg1 hsz hyc (by omega) (by omega) (by omega) (by omega) (by omega) hroom (by rw [htk]; exact by8_one ys)
  rw [hs1] at hgr
  have hc2 := hp.cell 2
  have L1 := Lib.hid (And.intro hlen (And.intro hroom (And.intro hsz hbase)))
  clear hlen hp1 hg1 hs1
  go_enter Tryz.func251, Tryz.ntmps251
  go_wp2_with (first
    | go_at_call 254; refine htg.mono ?_; rintro e w2 ⟨rfl, rfl⟩; clear htg
    | go_at_call 255; refine hgr.mono ?_; rintro e w3 ⟨C, cs2, rfl, hB3, hN3, hl3, htk3, hC3, hm3, hF3⟩; have hF03 : Fr [p] w w3 := hF1.trans hF3 (by simp); have hx3 := hB.fr hF03 (by simp [hbp]); have bc3 := hB3.cell 0; have n1 : ¬ C = ys.length := (by omega); have n2 : ¬ (C : Int) = ys.length := (by omega); have n3 : (ys.length : Int) + xs.length ≤ C := (by omega); clear hgr
    | ((with_reducible refine list_bi .copy (fun K hK => ?_));  refine copyB _ _ 55 55 rfl 5 (by kernel_rfl) (by kernel_rfl) _ _ _ _ _ _ _ _ rfl rfl cs2 _ (by exact blkP) xs hx3 (by show _ = min _ _; omega) (by omega) (fun w5 hg5 hf5 => ?_); have hB5 := hf5.blk (b := p) (by exact blkP) (by simp; omega)))
  go_ret2
  obtain ⟨hlen, _, _, hbase⟩ := L1.out
  have hll := lay_length (cs := cs2) (off := ys.length) (xs := xs) (by omega)
  refine ⟨rfl, .slice (some ⟨w.heap.size, 0, none⟩) (ys.length + xs.length) C, ⟨⟨0, hB5⟩, ⟨by simp [by8_length], .inr ⟨w.heap.size, C, (lay cs2 ys.length xs).toArray, by simp, hbase, hg5, by simp; omega, hm3, by simp; omega, ?_⟩⟩, hpb, by simp; omega⟩, .inr (by simp [Value.ownBlock]), ?_⟩
  · have := lay_take (htk3.trans htk) rfl (xs := xs) (by omega)
    simpa using this
  · exact (hF03.mono (by simp)).trans hf5 (by first | (simp; done) | (simp; omega))
theorem writeNil {w : World} {p base b so c2 : Nat} {xs : List UInt8} {lr : Int} (hp : Blk w p [.slice none 0 0, .int .i64 0, .int .i8 lr] 59 (0, 0)) (hpb : p < base)
    (hB : Bs w b so xs) (hbp : b ≠ p) (hx0 : xs ≠ []) (hlen : xs.length ≤ 64) (hbase : base ≤ w.heap.size) :
    Calls Tryz.prog 251 #[.pointer (some ⟨p, 0, none⟩), .slice (some ⟨b, so, none⟩) xs.length c2] w fun e w' => WrPost w p base (.slice none 0 0) [] xs e w' := by
  have hf := hp.free
  have hxl := List.length_pos_iff.2 hx0
  have hpw := hp.lt
  have hp1 : Blk (w.setCell ⟨p, 2, none⟩ (.int .i8 0)) p [.slice none 0 0, .int .i64 0, .int .i8 0] 59 (0, 0) := hp.set
  have hF1 : Fr [p] w (w.setCell ⟨p, 2, none⟩ (.int .i8 0)) := Fr.setCell (.inl (by simp)) Fr.refl
  have hs1 : (w.setCell ⟨p, 2, none⟩ (.int .i8 0)).heap.size = w.heap.size := by simp
  have htg := tryGrowNo (n := xs.length) hp1 (Nat.le_refl _) (by omega) (by omega) (by omega)
  have hgr := growNil (n := xs.length) hp1 (by omega) (by omega)
  rw [hs1] at hgr
  have hc2 := hp.cell 2
  have n3 : (xs.length : Int) ≤ 64 := by omega
  clear hp1 hs1
  go_enter Tryz.func251, Tryz.ntmps251
  go_wp2_with (first
    | go_at_call 254; refine htg.mono ?_; rintro e w2 ⟨rfl, rfl⟩; clear htg
    | go_at_call 255; refine hgr.mono ?_; rintro e w3 ⟨rfl, hB3, hN3, hF3⟩; have hF03 : Fr [p] w w3 := hF1.trans hF3 (by simp); have hx3 := hB.fr hF03 (by simp [hbp]); have bc3 := hB3.cell 0; clear hgr
    | ((with_reducible refine list_bi .copy (fun K hK => ?_));  refine copyB _ _ 55 55 rfl 5 (by kernel_rfl) (by kernel_rfl) _ _ _ _ _ _ _ _ rfl rfl (List.replicate 64 (.int .u8 0)) _ (by exact blkP) xs hx3 (by show _ = min _ _; omega) (by simp; omega) (fun w5 hg5 hf5 => ?_); have hB5 := hf5.blk (b := p) (by exact blkP) (by simp; omega)))
  go_ret2
  have hll := lay_length (cs := List.replicate 64 (Value.int .u8 0)) (off := 0) (xs := xs) (by simp; omega)
  refine ⟨rfl, .slice (some ⟨w.heap.size, 0, none⟩) xs.length 64, ⟨⟨0, hB5⟩, ⟨by simp [by8_length], .inr ⟨w.heap.size, 64, (lay (List.replicate 64 (Value.int .u8 0)) 0 xs).toArray, by simp, hbase, hg5, by simp; omega, by unfold maxLen; omega, by simpa using hll, ?_⟩⟩, hpb, by simp; omega⟩, .inr (by simp [Value.ownBlock]), ?_⟩
  · have := lay_take (cs := List.replicate 64 (Value.int .u8 0)) (ys := []) (by simp [by8]) rfl (xs := xs) (by simp; omega)
    simpa using this
  · exact (hF03.mono (by simp)).trans hf5 (by first | (simp; done) | (simp; omega))
theorem bufWrite {w : World} {p base b so c2 : Nat} {v : Value} {ys xs : List UInt8} (hBuf : Buf w p base v ys) (hB : Bs w b so xs) (hx : xs ≠ []) (hbp : b ≠ p) (hbv : v.ownBlock ≠ some b) (hfirst : ys = [] → v = .slice none 0 0 ∧ xs.length ≤ 64) (hlen : ys.length + xs.length < 1000000000000) (hbase : base ≤ w.heap.size) :
    Calls Tryz.prog 251 #[.pointer (some ⟨p, 0, none⟩), .slice (some ⟨b, so, none⟩) xs.length c2] w fun e w' => WrPost w p base v ys xs e w' := by
  obtain ⟨⟨lr, hp⟩, ⟨_, own⟩, hpb, _⟩ := hBuf
  rcases own with ⟨rfl, h0⟩ | ⟨g, cap, cur, rfl, hb, hg, hn, hm, hsz, htk⟩
  · have e : ys = [] := List.length_eq_zero_iff.1 h0
    subst e
    exact writeNil hp hpb hB hbp hx (hfirst rfl).2 hbase
  · have hg' : Blk w g cur.toList 5 (0, 0) := hg
    have hbg : b ≠ g := fun e => hbv (by simp [Value.ownBlock, e])
    simp only [Nat.mul_one] at hsz htk
    by_cases hr : ys.length + xs.length ≤ cap
    · exact writeRoom hp hpb hb hg' hm (by simpa using hsz) htk hB hbp hbg hr hx hlen
    · refine writeGrow hp hpb hb hg' hn (by simpa using hsz) htk hB hbp hbg (by omega) hx (fun e => ?_) hlen hbase
      have := (hfirst e).1
      cases this
end Go.Proofs.Wx

namespace Go.Proofs.Wx
open Go Go.RowKit
/-- From the world w, in which the buffer holds ys, the world w' has come, in which it holds ys'; nothing else has turned. -/
structure Wr (p base : Nat) (w : World) (v : Value) (ys : List UInt8) (w' : World) (v' : Value) (ys' : List UInt8) : Prop where
  buf : Buf w' p base v' ys'
  own : v'.ownBlock = v.ownBlock ∨ ∃ k, v'.ownBlock = some k ∧ w.heap.size ≤ k
  fr : Fr (p :: v.ownBlock.toList) w w'
section
variable {p base : Nat} {w w' w'' : World} {v v' v'' : Value} {ys ys' ys'' : List UInt8}
theorem Wr.refl (h : Buf w p base v ys) : Wr p base w v ys w v ys := ⟨h, .inl rfl, Fr.refl⟩
theorem Wr.trans (h : Wr p base w v ys w' v' ys') (h' : Wr p base w' v' ys' w'' v'' ys'') : Wr p base w v ys w'' v'' ys'' := by
  refine ⟨h'.buf, ?_, h.fr.trans h'.fr ?_⟩
  · rcases h'.own with e | ⟨k, e, hk⟩
    · rcases h.own with e1 | ⟨k, e1, hk⟩
      · exact .inl (e.trans e1)
      · exact .inr ⟨k, e.trans e1, hk⟩
    · exact .inr ⟨k, e, Nat.le_trans h.fr.size hk⟩
  · intro k hk hl
    rcases List.mem_cons.1 hk with rfl | hk
    · simp
    · have hk' : v'.ownBlock = some k := by simpa using hk
      rcases h.own with e1 | ⟨k', e1, hk2⟩
      · rw [← e1]; simp [hk']
      · rw [hk'] at e1; cases e1; omega
theorem Buf.ownLt (h : Buf w p base v ys) : ∀ k, v.ownBlock = some k → base ≤ k ∧ k < w.heap.size := h.own.lt
/-- Blocks that are none of the buffer's turn: the buffer stays. -/
theorem Wr.step {X : List Nat} (h : Wr p base w v ys w' v' ys') (hf : Fr X w' w'') (hX : ∀ k ∈ X, k ≠ p ∧ v'.ownBlock ≠ some k ∧ w.heap.size ≤ k) : Wr p base w v ys w'' v' ys' :=
  ⟨h.buf.fr hf (fun hm => (hX p hm).1 rfl) (fun k hk => .inr (hX k hk).2.1), h.own, h.fr.trans hf fun k hk hl => by have := (hX k hk).2.2; omega⟩
theorem Wr.same (h : Wr p base w v ys w' v' ys') (hf : Fr [] w' w'') : Wr p base w v ys w'' v' ys' := h.step hf (by simp)
end
theorem bufW {w : World} {p base b so c2 : Nat} {v : Value} {ys xs : List UInt8} (hBuf : Buf w p base v ys) (hB : Bs w b so xs) (hx : xs ≠ []) (hbp : b ≠ p) (hbv : v.ownBlock ≠ some b) (hfirst : ys = [] → v = .slice none 0 0 ∧ xs.length ≤ 64) (hlen : ys.length + xs.length < 1000000000000) (hbase : base ≤ w.heap.size) :
    Calls Tryz.prog 251 #[.pointer (some ⟨p, 0, none⟩), .slice (some ⟨b, so, none⟩) xs.length c2] w fun e w' => e = .returned (.tuple #[.int .i64 xs.length, .nilIface]) ∧ ∃ v', Wr p base w v ys w' v' (ys ++ xs) :=
  (bufWrite hBuf hB hx hbp hbv hfirst hlen hbase).mono fun e w' ⟨h1, v', h2, h3, h4⟩ => ⟨h1, v', h2, h3.imp id fun h => ⟨_, h, Nat.le_refl _⟩, h4⟩
theorem setCells_fr {g : Nat} : ∀ (vs : List Value) (o : Nat) (w : World), Fr [g] w (w.setCells g o vs)
  | [], o, w => Fr.refl
  | v :: vs, o, w => Fr.trans (S := [g]) (Fr.setCell (.inl (by simp)) Fr.refl) (setCells_fr vs (o + 1) (w.setCell ⟨g, o, none⟩ v)) (fun k hk _ => hk)
theorem setCells_blk {g : Nat} {T : TypeId} : ∀ (vs : List Value) (o : Nat) (w : World) (cs : List Value), Blk w g cs T (0, 0) → o + vs.length ≤ cs.length → Blk (w.setCells g o vs) g (cs.take o ++ vs ++ cs.drop (o + vs.length)) T (0, 0)
  | [], o, w, cs, h, _ => by simpa [World.setCells] using h
  | v :: vs, o, w, cs, h, hl => by
    have h1 := setCells_blk vs (o + 1) (w.setCell ⟨g, o, none⟩ v) (cs.set o v) h.set (by simp at *; omega)
    refine Blk.conv (show Blk (w.setCells g o (v :: vs)) g _ T (0, 0) from h1) ?_
    have ho : o < cs.length := by simp at hl; omega
    rw [List.drop_set, if_pos (by omega), List.take_set]
    have e : (cs.take (o + 1)).set o v = cs.take o ++ [v] := by
      rw [List.take_succ_eq_append_getElem ho, List.set_append_right _ _ (by simp; omega)]
      simp [Nat.min_eq_left (Nat.le_of_lt ho)]
    rw [e]
    simp [Nat.add_assoc, Nat.add_comm 1]
theorem byteCells_by8 (l : List UInt8) : Lib.byteCells l = by8 l := rfl
theorem lay_eq (cs : List Value) (o : Nat) (xs : List UInt8) : cs.take o ++ by8 xs ++ cs.drop (o + (by8 xs).length) = lay cs o xs := by unfold lay; rw [by8_length]
/-- binary.LittleEndian.PutUint64. -/
theorem putU64 {g o n c x : Nat} {w : World} {cs : List Value} (hx : x < 18446744073709551616) (hg : Blk w g cs 5 (0, 0)) (hn : 8 ≤ n) (ho : o + 8 ≤ cs.length) :
    Calls Tryz.prog 74 #[.agg #[], .slice (some ⟨g, o, none⟩) n c, .int .u64 x] w fun e w' => e = .returned (.tuple #[]) ∧ Blk w' g (lay cs o (Lib.leBytes 8 x)) 5 (0, 0) ∧ Fr [g] w w' := by
  have c : ∀ k, k < 8 → w.cell? ⟨g, o + k, none⟩ = some (cs[o + k]?.getD undef) := fun k hk => by
    rw [hg.cell, List.getElem?_eq_getElem (show o + k < cs.length by omega)]; simp
  have f : ∀ k, w.frozen? ⟨g, o + k, none⟩ = false := fun k => hg.free _
  refine (Tryz.binary_LE_PutUint64 g o n _ x hx _ _ _ _ _ _ _ _ w hn (c 0 (by omega)) (c 1 (by omega)) (c 2 (by omega)) (c 3 (by omega)) (c 4 (by omega)) (c 5 (by omega)) (c 6 (by omega)) (c 7 (by omega)) (f 0) (f 1) (f 2) (f 3) (f 4) (f 5) (f 6) (f 7)).mono ?_
  rintro e w' ⟨rfl, rfl⟩
  refine ⟨rfl, ?_, Fr.trans (S := [g]) (Fr.alloc Fr.refl) (setCells_fr _ _ _) (fun k hk _ => hk)⟩
  have := setCells_blk (Lib.byteCells (Lib.leBytes 8 x)) o (w.alloc (.cells #[] 162)) cs hg.alloc (by rw [byteCells_by8, by8_length, Lib.leBytes_length]; exact ho)
  rw [byteCells_by8, lay_eq] at this
  exact this
theorem putU32 {g o n c x : Nat} {w : World} {cs : List Value} (hx : x < 4294967296) (hg : Blk w g cs 5 (0, 0)) (hn : 4 ≤ n) (ho : o + 4 ≤ cs.length) :
    Calls Tryz.prog 281 #[.agg #[], .slice (some ⟨g, o, none⟩) n c, .int .u32 x] w fun e w' => e = .returned (.tuple #[]) ∧ Blk w' g (lay cs o (Lib.leBytes 4 x)) 5 (0, 0) ∧ Fr [g] w w' := by
  have c : ∀ k, k < 4 → w.cell? ⟨g, o + k, none⟩ = some (cs[o + k]?.getD undef) := fun k hk => by
    rw [hg.cell, List.getElem?_eq_getElem (show o + k < cs.length by omega)]; simp
  have f : ∀ k, w.frozen? ⟨g, o + k, none⟩ = false := fun k => hg.free _
  refine (Tryz.binary_LE_PutUint32 g o n _ x hx _ _ _ _ w hn (c 0 (by omega)) (c 1 (by omega)) (c 2 (by omega)) (c 3 (by omega)) (f 0) (f 1) (f 2) (f 3)).mono ?_
  rintro e w' ⟨rfl, rfl⟩
  refine ⟨rfl, ?_, Fr.trans (S := [g]) (Fr.alloc Fr.refl) (setCells_fr _ _ _) (fun k hk _ => hk)⟩
  have := setCells_blk (Lib.byteCells (Lib.leBytes 4 x)) o (w.alloc (.cells #[] 162)) cs hg.alloc (by rw [byteCells_by8, by8_length, Lib.leBytes_length]; exact ho)
  rw [byteCells_by8, lay_eq] at this
  exact this
/-- (*bytes.Buffer).String. -/
theorem bufString {w : World} {p base : Nat} {v : Value} {ys : List UInt8} (h : Buf w p base v ys) :
    Calls Tryz.prog 23 #[.pointer (some ⟨p, 0, none⟩)] w fun e w' => e = .returned (.string ⟨ys.toArray⟩) ∧ Fr [] w w' := by
  obtain ⟨⟨lr, hp⟩, own, hpb, _⟩ := h
  refine (Tryz.Buffer_String p p ys w ⟨Nat.le_refl _, v, lr, hp, ?_, ?_⟩).mono ?_
  · rw [byteCells_by8, by8_length]; exact own_mono own (by omega)
  · intro e; have := own.lt p e; omega
  · rintro e w' ⟨rfl, n, rfl⟩
    exact ⟨rfl, by exact frP⟩
end Go.Proofs.Wx

namespace Go.Proofs.Wx
open Go.Sort
variable {α : Type}
/-- Ascending: no later one is less than an earlier one. -/
def Srt (lt : α → α → Bool) (l : List α) : Prop := l.Pairwise fun x y => lt y x = false
section
variable {lt : α → α → Bool}
theorem Srt.append {X Y : List α} : Srt lt (X ++ Y) ↔ Srt lt X ∧ Srt lt Y ∧ ∀ x ∈ X, ∀ y ∈ Y, lt y x = false := List.pairwise_append
theorem Srt.perm_mem {X Y : List α} (h : X.Perm Y) {x : α} : x ∈ X ↔ x ∈ Y := h.mem_iff
/-- All of X are at most all of Y, when X's last is at most Y's first. -/
theorem Srt.le_all (hO : SWO lt) {X Y : List α} (hX : Srt lt X) (hY : Srt lt Y) (h : X = [] ∨ Y = [] ∨ ∃ X' x y Y', X = X' ++ [x] ∧ Y = y :: Y' ∧ lt y x = false) : ∀ a ∈ X, ∀ b ∈ Y, lt b a = false := by
  intro a ha b hb
  rcases h with rfl | rfl | ⟨X', x, y, Y', rfl, rfl, h⟩
  · simp at ha
  · simp at hb
  have h1 : lt x a = false := by
    rw [Srt.append] at hX
    simp at ha
    rcases ha with ha | rfl
    · exact hX.2.2 a ha x (by simp)
    · exact hO.irrefl _
  have h2 : lt b y = false := by
    simp at hb
    rcases hb with rfl | hb
    · exact hO.irrefl _
    · exact (List.pairwise_cons.1 hY).1 b hb
  exact hO.ntrans _ _ _ h2 (hO.ntrans _ _ _ h h1)
theorem SWO.le_of_lt (hO : SWO lt) {x y : α} (h : lt x y = true) : lt y x = false := hO.asymmA h
/-- The two halves of a merge, put behind each other. -/
theorem merge_core (hO : SWO lt) {X1 X2 Y1 Y2 Z1 Z2 : List α} (hX : Srt lt (X1 ++ X2)) (hY : Srt lt (Y1 ++ Y2))
    (h1 : X1 = [] ∨ Y2 = [] ∨ ∃ X' x y Y', X1 = X' ++ [x] ∧ Y2 = y :: Y' ∧ lt y x = false)
    (h2 : Y1 = [] ∨ X2 = [] ∨ ∃ Y' y x X', Y1 = Y' ++ [y] ∧ X2 = x :: X' ∧ lt x y = false)
    (p1 : Z1.Perm (X1 ++ Y1)) (p2 : Z2.Perm (X2 ++ Y2)) (s1 : Srt lt Z1) (s2 : Srt lt Z2) : Srt lt (Z1 ++ Z2) ∧ (Z1 ++ Z2).Perm ((X1 ++ X2) ++ (Y1 ++ Y2)) := by
  rw [Srt.append] at hX hY
  refine ⟨Srt.append.2 ⟨s1, s2, ?_⟩, ?_⟩
  · intro a ha b hb
    rw [p1.mem_iff, List.mem_append] at ha
    rw [p2.mem_iff, List.mem_append] at hb
    rcases ha with ha | ha <;> rcases hb with hb | hb
    · exact hX.2.2 a ha b hb
    · exact Srt.le_all hO hX.1 hY.2.1 h1 a ha b hb
    · exact Srt.le_all hO hY.1 hX.2.1 h2 a ha b hb
    · exact hY.2.2 a ha b hb
  · refine (p1.append p2).trans ?_
    simp only [List.append_assoc]
    refine List.Perm.append_left _ ?_
    rw [← List.append_assoc, ← List.append_assoc]
    exact List.Perm.append_right _ List.perm_append_comm
/-- One element put into its place among others. -/
theorem ins_core (hO : SWO lt) {x : α} {Y1 Y2 : List α} (hY : Srt lt (Y1 ++ Y2))
    (h1 : Y1 = [] ∨ ∃ Y' y, Y1 = Y' ++ [y] ∧ lt x y = false) (h2 : Y2 = [] ∨ ∃ y Y', Y2 = y :: Y' ∧ lt y x = false) : Srt lt (Y1 ++ x :: Y2) := by
  rw [Srt.append] at hY
  have a1 : ∀ a ∈ Y1, lt x a = false := by
    have := Srt.le_all hO (X := Y1) (Y := [x]) hY.1 (by simp [Srt]) (by
      rcases h1 with h | ⟨Y', y, h, h'⟩
      · exact .inl h
      · exact .inr (.inr ⟨Y', y, x, [], h, rfl, h'⟩))
    intro a ha; exact this a ha x (by simp)
  have a2 : ∀ b ∈ Y2, lt b x = false := by
    have := Srt.le_all hO (X := [x]) (Y := Y2) (by simp [Srt]) hY.2.1 (by
      rcases h2 with h | ⟨y, Y', h, h'⟩
      · exact .inr (.inl h)
      · exact .inr (.inr ⟨[], x, y, Y', rfl, h, h'⟩))
    intro b hb; exact this x (by simp) b hb
  refine Srt.append.2 ⟨hY.1, List.pairwise_cons.2 ⟨fun b hb => a2 b hb, hY.2.1⟩, ?_⟩
  intro a ha b hb
  rcases List.mem_cons.1 hb with rfl | hb
  · exact a1 a ha
  · exact hY.2.2 a ha b hb
end
/-- What a place of a list holds, by lists. -/
theorem split_at {α : Type} [Inhabited α] {l : List α} {i : Nat} (h : i < l.length) : l = l.take i ++ l[i]! :: l.drop (i + 1) := by
  have e : l[i]! = l[i] := by simp [h]
  rw [e]; simp
end Go.Proofs.Wx

namespace Go.Proofs.Wx
open Go
abbrev Itm := CidM × Nat
/-- Numbers, each once, ascending. -/
def insN (x : Nat) : List Nat → List Nat
  | [] => [x]
  | y :: l => if x < y then x :: y :: l else if x = y then y :: l else y :: insN x l
def ascOf (l : List Nat) : List Nat := l.foldr insN []
theorem mem_insN (x z : Nat) : ∀ l, z ∈ insN x l ↔ z = x ∨ z ∈ l
  | [] => by simp [insN]
  | y :: l => by
    unfold insN
    split
    · simp
    · split
      · subst x; simp
      · simp [mem_insN x z l]; constructor <;> intro h <;> rcases h with h | h | h <;> simp [h]
theorem insN_asc (x : Nat) : ∀ l, l.Pairwise (· < ·) → (insN x l).Pairwise (· < ·)
  | [], _ => by simp [insN]
  | y :: l, h => by
    unfold insN
    rw [List.pairwise_cons] at h
    split
    · refine List.pairwise_cons.2 ⟨?_, List.pairwise_cons.2 h⟩
      intro z hz
      rcases List.mem_cons.1 hz with rfl | hz
      · assumption
      · have := h.1 z hz; omega
    · split
      · exact List.pairwise_cons.2 h
      · refine List.pairwise_cons.2 ⟨?_, insN_asc x l h.2⟩
        intro z hz
        rcases (mem_insN x z l).1 hz with rfl | hz
        · omega
        · exact h.1 z hz
theorem mem_ascOf (z : Nat) : ∀ l, z ∈ ascOf l ↔ z ∈ l
  | [] => by simp [ascOf]
  | x :: l => by show z ∈ insN x (ascOf l) ↔ _; rw [mem_insN, mem_ascOf z l]; simp
theorem ascOf_asc : ∀ l, (ascOf l).Pairwise (· < ·)
  | [] => by simp [ascOf]
  | x :: l => insN_asc x _ (ascOf_asc l)
theorem asc_unique : ∀ {a b : List Nat}, a.Pairwise (· < ·) → b.Pairwise (· < ·) → (∀ x, x ∈ a ↔ x ∈ b) → a = b
  | [], [], _, _, _ => rfl
  | [], y :: b, _, _, h => by have := (h y).2 (by simp); simp at this
  | x :: a, [], _, _, h => by have := (h x).1 (by simp); simp at this
  | x :: a, y :: b, ha, hb, h => by
    rw [List.pairwise_cons] at ha hb
    have e : x = y := by
      have h1 := (h x).1 (by simp)
      have h2 := (h y).2 (by simp)
      rcases List.mem_cons.1 h1 with h1 | h1
      · exact h1
      · rcases List.mem_cons.1 h2 with h2 | h2
        · exact h2.symm
        · have := hb.1 x h1; have := ha.1 y h2; omega
    subst e
    congr 1
    refine asc_unique ha.2 hb.2 fun z => ?_
    have := h z
    simp only [List.mem_cons] at this
    constructor
    · intro hz
      rcases this.1 (.inr hz) with rfl | h
      · have := ha.1 z hz; omega
      · exact h
    · intro hz
      rcases this.2 (.inr hz) with rfl | h
      · have := hb.1 z hz; omega
      · exact h
/-- Whatever is ascending and holds the same numbers is it. -/
theorem ascOf_unique {a l : List Nat} (ha : a.Pairwise (· < ·)) (h : ∀ x, x ∈ a ↔ x ∈ l) : a = ascOf l :=
  asc_unique ha (ascOf_asc l) fun x => by rw [h, mem_ascOf]
theorem perm_unique {α : Type} {le : α → α → Prop} : ∀ {a b : List α}, a.Perm b → a.Pairwise le → b.Pairwise le → (∀ x ∈ a, ∀ y ∈ a, le x y → le y x → x = y) → a = b
  | [], b, h, _, _, _ => by simpa using h.symm.eq_nil
  | x :: a, [], h, _, _, _ => by simpa using h.length_eq
  | x :: a, y :: b, h, ha, hb, hu => by
    have e : x = y := by
      have h1 : x ∈ y :: b := h.mem_iff.1 (by simp)
      have h2 : y ∈ x :: a := h.mem_iff.2 (by simp)
      rw [List.pairwise_cons] at ha hb
      rcases List.mem_cons.1 h1 with h1 | h1
      · exact h1
      · rcases List.mem_cons.1 h2 with h3 | h3
        · exact h3.symm
        · exact hu x (by simp) y h2 (ha.1 y h3) (hb.1 x h1)
    subst e
    congr 1
    rw [List.pairwise_cons] at ha hb
    exact perm_unique (List.Perm.cons_inv h) ha.2 hb.2 fun u hu1 v hv1 => hu u (by simp [hu1]) v (by simp [hv1])
/-- Entries by their digests. -/
def sortD (l : List Itm) : List Itm := l.mergeSort fun a b => decide (a.1.dig ≤ b.1.dig)
theorem sortD_perm (l : List Itm) : (sortD l).Perm l := List.mergeSort_perm _ _
theorem sortD_sorted (l : List Itm) : (sortD l).Pairwise fun a b => a.1.dig ≤ b.1.dig := by
  have := List.pairwise_mergeSort (le := fun a b : Itm => decide (a.1.dig ≤ b.1.dig)) (fun a b c h1 h2 => by
    simp only [decide_eq_true_eq] at *; exact List.le_trans h1 h2) (fun a b => by
    simp only [Bool.or_eq_true, decide_eq_true_eq]; exact List.le_total _ _) l
  exact this.imp fun h => by simpa using h
/-- No two entries of one digest. -/
def Distinct (l : List Itm) : Prop := l.Pairwise fun a b => a.1.dig ≠ b.1.dig
theorem Distinct.eq {l : List Itm} (h : Distinct l) : ∀ x ∈ l, ∀ y ∈ l, x.1.dig = y.1.dig → x = y := by
  intro x hx y hy e
  induction l with
  | nil => simp at hx
  | cons a l ih =>
    unfold Distinct at h ih
    rw [List.pairwise_cons] at h
    rcases List.mem_cons.1 hx with rfl | hx' <;> rcases List.mem_cons.1 hy with rfl | hy'
    · rfl
    · exact absurd e (h.1 y hy')
    · exact absurd e.symm (h.1 x hx')
    · exact ih h.2 hx' hy'
theorem sortD_unique {l l' : List Itm} (hp : l'.Perm l) (hs : l'.Pairwise fun a b => a.1.dig ≤ b.1.dig) (hd : Distinct l) : l' = sortD l :=
  perm_unique (hp.trans (sortD_perm l).symm) hs (sortD_sorted l) fun x hx y hy h1 h2 => hd.eq x (hp.mem_iff.1 hx) y (hp.mem_iff.1 hy) (List.le_antisymm h1 h2)
theorem Distinct.filter {l : List Itm} (h : Distinct l) (p : Itm → Bool) : Distinct (l.filter p) := List.Pairwise.filter p h
def rowB (e : Itm) : List UInt8 := e.1.dig ++ Lib.leBytes 8 e.2
def rowsB (l : List Itm) : List UInt8 := l.flatMap rowB
def ofW (l : List Itm) (n : Nat) : List Itm := l.filter fun e => e.1.dig.length == n
def ofC (l : List Itm) (c : Nat) : List Itm := l.filter fun e => e.1.code == c
def widthsOf (l : List Itm) : List Nat := ascOf (l.map fun e => e.1.dig.length)
def codesOf (l : List Itm) : List Nat := ascOf (l.map fun e => e.1.code)
def bucketB (l : List Itm) (n : Nat) : List UInt8 := Lib.leBytes 4 (n + 8) ++ (Lib.leBytes 8 ((n + 8) * (ofW l n).length) ++ rowsB (sortD (ofW l n)))
def groupB (l : List Itm) : List UInt8 := Lib.leBytes 4 (widthsOf l).length ++ (widthsOf l).flatMap (bucketB l)
def codeB (l : List Itm) (c : Nat) : List UInt8 := Lib.leBytes 8 c ++ groupB (ofC l c)
def idxB (l : List Itm) : List UInt8 := Lib.leBytes 4 (codesOf l).length ++ (codesOf l).flatMap (codeB l)
def pragmaB : List UInt8 := [10, 161, 103, 118, 101, 114, 115, 105, 111, 110, 2]
def headB (size : Nat) : List UInt8 := Lib.leBytes 8 0 ++ (Lib.leBytes 8 0 ++ (Lib.leBytes 8 51 ++ (Lib.leBytes 8 size ++ Lib.leBytes 8 (51 + size))))
/-- The wrapped file. -/
def wrapB (c : CarM) : List UInt8 := pragmaB ++ (headB c.bytes.length ++ (c.bytes ++ ([129, 8] ++ idxB c.ents)))
/-- No two entries of one hash function and digest. -/
def OnceC (l : List Itm) : Prop := l.Pairwise fun a b => ¬ (a.1.code = b.1.code ∧ a.1.dig = b.1.dig)
theorem OnceC.ofC {l : List Itm} (h : OnceC l) (c : Nat) : Distinct (ofC l c) := by
  unfold OnceC at h
  unfold Distinct Wx.ofC
  rw [List.pairwise_filter]
  refine h.imp fun {a b} hab ha hb e => hab ⟨?_, e⟩
  simp at ha hb
  rw [ha, hb]
theorem ofW_len {l : List Itm} {n : Nat} {e : Itm} (h : e ∈ ofW l n) : e.1.dig.length = n := by simpa [ofW] using (List.mem_filter.1 h).2
theorem rowsB_length {n : Nat} : ∀ {l : List Itm}, (∀ e ∈ l, e.1.dig.length = n) → (rowsB l).length = (n + 8) * l.length
  | [], _ => by simp [rowsB]
  | e :: l, h => by
    have h1 := h e (by simp)
    have h2 := rowsB_length (l := l) fun x hx => h x (by simp [hx])
    simp [rowsB, rowB, Lib.leBytes_length] at *
    rw [h1, h2, Nat.mul_add]; omega
end Go.Proofs.Wx

namespace Go.Proofs.Wx
open Go Go.RowKit
theorem wrap64_in {n : Int} (h1 : -9223372036854775808 ≤ n) (h2 : n < 9223372036854775808) : RowKit.wrap64 n = n := by
  unfold RowKit.wrap64
  rw [Int.emod_eq_of_lt (by omega) (by omega)]; omega
theorem lay_all {cs : List Value} {xs : List UInt8} (h : xs.length = cs.length) : lay cs 0 xs = by8 xs := by
  unfold lay
  rw [Nat.zero_add, List.drop_of_length_le (by omega)]; simp
theorem Blk.bsAll {w : World} {b : Nat} {cs : List Value} {T : TypeId} {fr : Nat × Nat} {xs : List UInt8} (h : Blk w b cs T fr) (e : cs = by8 xs) : Bs w b 0 xs := Blk.bs (pre := []) (post := []) h (by simp [e]) rfl
abbrev BUFI (p : Nat) : Value := .iface 65 (.pointer (some ⟨p, 0, none⟩))
theorem leB_ne (n x : Nat) : Lib.leBytes (n + 1) x ≠ [] := by simp [Lib.leBytes]
theorem write64 {w : World} {p base x : Nat} {v : Value} {ys : List UInt8} (hBuf : Buf w p base v ys) (hx : x < 18446744073709551616) (hy : ys ≠ []) (hlen : ys.length < 100000000000) (hbase : base ≤ w.heap.size) :
    Calls Tryz.prog 283 #[BUFI p, .int .u64 x] w fun e w' => e = .returned .nilIface ∧ ∃ v', Wr p base w v ys w' v' (ys ++ Lib.leBytes 8 x) := by
  have hpb := hBuf.lt
  have hol := hBuf.ownLt
  have L := Lib.hid (And.intro hx hlen)
  clear hx hlen
  go_enter Tryz.func283, Tryz.ntmps283
  go_wp2_with (first
    | ((with_reducible refine list_makeSlice (fun K hK => ?_));  refine makeB _ _ rfl _ _ _ _ 8 8 rfl rfl rfl rfl (by omega) (by omega) ?_)
    | go_at_call 74; refine (putU64 (cs := List.replicate 8 (.int .u8 0)) L.out.1 (Blk.conv (Blk.newAt rfl) rfl) (by omega) (by simp)).mono ?_; rintro e w2 ⟨rfl, hg2, hF2⟩; have hW2 := (Wr.refl hBuf).step (X := [w.heap.size]) (Fr.trans (S := [w.heap.size]) (by exact frP) hF2 (by simp)) (by simp; exact ⟨by omega, fun e => by have := hol _ e; omega⟩); have hb2 := Blk.bsAll hg2 (lay_all (by simp [Lib.leBytes_length]))
    | go_at_call 251; refine (bufW (c2 := 8) (xs := Lib.leBytes 8 x) hW2.buf hb2 (leB_ne _ _) (by omega) (fun e => by have := hol _ e; omega) (fun e => absurd e hy) (by rw [Lib.leBytes_length]; have := L.out; omega) (Nat.le_trans hbase hW2.fr.size)).mono ?_; rintro e w3 ⟨rfl, v', hW3⟩)
  go_ret
  exact ⟨rfl, v', hW2.trans hW3⟩
theorem write32 {w : World} {p base x : Nat} {v : Value} {ys : List UInt8} (hBuf : Buf w p base v ys) (hx : x < 4294967296) (hy : ys ≠ []) (hlen : ys.length < 100000000000) (hbase : base ≤ w.heap.size) :
    Calls Tryz.prog 275 #[BUFI p, .int .u32 x] w fun e w' => e = .returned .nilIface ∧ ∃ v', Wr p base w v ys w' v' (ys ++ Lib.leBytes 4 x) := by
  have hpb := hBuf.lt
  have hol := hBuf.ownLt
  have L := Lib.hid (And.intro hx hlen)
  clear hx hlen
  go_enter Tryz.func275, Tryz.ntmps275
  go_wp2_with (first
    | ((with_reducible refine list_makeSlice (fun K hK => ?_));  refine makeB _ _ rfl _ _ _ _ 4 4 rfl rfl rfl rfl (by omega) (by omega) ?_)
    | go_at_call 281; refine (putU32 (cs := List.replicate 4 (.int .u8 0)) L.out.1 (Blk.conv (Blk.newAt rfl) rfl) (by omega) (by simp)).mono ?_; rintro e w2 ⟨rfl, hg2, hF2⟩; have hW2 := (Wr.refl hBuf).step (X := [w.heap.size]) (Fr.trans (S := [w.heap.size]) (by exact frP) hF2 (by simp)) (by simp; exact ⟨by omega, fun e => by have := hol _ e; omega⟩); have hb2 := Blk.bsAll hg2 (lay_all (by simp [Lib.leBytes_length]))
    | go_at_call 251; refine (bufW (c2 := 4) (xs := Lib.leBytes 4 x) hW2.buf hb2 (leB_ne _ _) (by omega) (fun e => by have := hol _ e; omega) (fun e => absurd e hy) (by rw [Lib.leBytes_length]; have := L.out; omega) (Nat.le_trans hbase hW2.fr.size)).mono ?_; rintro e w3 ⟨rfl, v', hW3⟩)
  go_ret
  exact ⟨rfl, v', hW2.trans hW3⟩
theorem lay_step {A B : List UInt8} {k : Nat} (h : B.length ≤ k) : lay (by8 A ++ List.replicate k (.int .u8 0)) A.length B = by8 (A ++ B) ++ List.replicate (k - B.length) (.int .u8 0) := by
  unfold lay
  rw [List.take_left' (by8_length _), by8_append, List.drop_append, by8_length, List.drop_of_length_le (by rw [by8_length]; omega)]
  simp
theorem putA {A : List UInt8} {k g o n c x : Nat} {w : World} (hx : x < 18446744073709551616) (hg : Blk w g (by8 A ++ List.replicate k (.int .u8 0)) 5 (0, 0)) (hn : 8 ≤ n) (ho : o = A.length) (hk : 8 ≤ k) :
    Calls Tryz.prog 74 #[.agg #[], .slice (some ⟨g, o, none⟩) n c, .int .u64 x] w fun e w' => e = .returned (.tuple #[]) ∧ Blk w' g (by8 (A ++ Lib.leBytes 8 x) ++ List.replicate (k - 8) (.int .u8 0)) 5 (0, 0) ∧ Fr [g] w w' := by
  subst ho
  refine (putU64 hx hg hn (by simp [by8_length]; omega)).mono ?_
  rintro e w' ⟨h1, h2, h3⟩
  refine ⟨h1, Blk.conv h2 ?_, h3⟩
  rw [lay_step (by rw [Lib.leBytes_length]; exact hk), Lib.leBytes_length]
theorem pragma (w : World) : Calls Tryz.prog 39 #[] w fun e w' => e = .returned (.slice (some ⟨w.heap.size, 0, none⟩) 11 11) ∧ Bs w' w.heap.size 0 pragmaB ∧ Fr [] w w' := by
  go_enter Tryz.func39, Tryz.ntmps39
  go_wp2
  go_ret
  exact ⟨rfl, Blk.bsAll (Blk.newAt rfl) rfl, by exact frP⟩
def isStruct (P : Program) (t : TypeId) : Bool := match P.underlying t with | some (.struct _) => true | _ => false
theorem struct_of {P : Program} {t : TypeId} (h : isStruct P t = true) : ∃ f, P.underlying t = some (.struct f) := by
  unfold isStruct at h
  split at h
  · rename_i f hf; exact ⟨_, hf⟩
  · cases h
theorem newHeader {n : Nat} (hn : n < 1000000000) (w : World) : Calls Tryz.prog 38 #[.int .u64 n] w fun e w' => e = .returned (.agg #[.int .u64 0, .int .u64 0, .int .u64 51, .int .u64 n, .int .u64 (51 + n : Nat)]) ∧ Fr [] w w' := by
  have h1 : (n : Int) < 1000000000 := by omega
  go_enter Tryz.func38, Tryz.ntmps38
  go_wp2
  obtain ⟨fd, hu⟩ := struct_of (P := Tryz.prog) (t := 96) (by kernel_rfl)
  refine bodyPost_ret (results_cell_row rfl _ _ w.heap.size 96 #[.int .u64 0, .int .u64 0, .int .u64 51, .int .u64 n, .int .u64 (51 + n)] (0, 0) (.struct fd) rfl ?_ hu rfl (by kernel_rfl)) rfl ?_
  · rw [Below.heap_alloc _ _ _ (by simp)]; exact heap_alloc_new _ _
  · exact ⟨by simp, by exact frP⟩
end Go.Proofs.Wx
