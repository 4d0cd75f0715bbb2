import Derived.Test.YtdokbceiganhdaaGreatDoorM11
import Derived.Shelf.Strings.Builder1
import Derived.Shelf.Strings.Builder2
import Derived.Shelf.Small.Bits
import Derived.Shelf.LaysM
import Derived.Shelf.Bytes.GrowSlice
import Derived.Shelf.Bytes.String
import Derived.Shelf.Bin.LEUint32
import Derived.Shelf.Bin.LEPutUint32
import Derived.Shelf.Bin.LEUint64
import Derived.Shelf.Bin.LEPutUint64
import Derived.Shelf.Bin.PutUvarint
import Derived.Test.YtdokbceiganhdaaGreatDoorProg
set_option maxRecDepth 100000
set_option maxHeartbeats 1000000
set_option linter.unusedVariables false
set_option linter.unusedSimpArgs false
set_option linter.deprecated false
set_option linter.all false
set_option linter.unusedSectionVars false
namespace Go.Proofs
open Go.Shelf
def Tryz.lays169_ren : Go.Shelf.Ren:=⟨fun|169=>134|n=>n,fun|70=>273|9=>9|0=>0|72=>275|37=>76|127=>325|3=>3|5=>5|n=>n,fun|n=>n⟩
theorem Tryz.lays169 : Go.Proofs.Lays.n169 Tryz.prog Tryz.lays169_ren:={
  mixed:=by kernel_rfl
  f169:=Tryz.func134.trans (congrArg some (by kernel_rfl))
  t0:=Tryz.underlying0
  a0:=Tryz.isAgg0
  z0:=Tryz.sizeOf0
  v0:=Tryz.zeroValue0
  t3:=Tryz.underlying3
  a3:=Tryz.isAgg3
  z3:=Tryz.sizeOf3
  v3:=Tryz.zeroValue3
  t9:=Tryz.underlying9
  a9:=Tryz.isAgg9
  z9:=Tryz.sizeOf9
  v9:=Tryz.zeroValue9
  t37:=Tryz.underlying76
  a37:=Tryz.isAgg76
  z37:=Tryz.sizeOf76
  v37:=Tryz.zeroValue76
  t70:=Tryz.underlying273
  a70:=Tryz.isAgg273
  z70:=Tryz.sizeOf273
  v70:=Tryz.zeroValue273
  t72:=Tryz.underlying275
  a72:=Tryz.isAgg275
  z72:=Tryz.sizeOf275
  v72:=Tryz.zeroValue275
  t127:=Tryz.underlying325
  a127:=Tryz.isAgg325
  z127:=Tryz.sizeOf325
  v127:=Tryz.zeroValue325 }
theorem Tryz.Builder_Extra_169 : Builder.Extra Tryz.prog Tryz.lays169_ren:={
  sizeBuilder:=by kernel_rfl
  liesBuilder:=by kernel_rfl
  t5:=Tryz.underlying5
  a5:=Tryz.isAgg5
  z5:=Tryz.sizeOf5
  v5:=Tryz.zeroValue5
  infoByte:=by kernel_rfl
  cellsByte:=by kernel_rfl
  sizeByte:=by kernel_rfl
  neB5:=by decide }
open Go.RowKit in
/-- (*strings.Builder).String: "String returns the accumulated string.": WHATEVER THE BUILDER HOLDS. (LAID: no walk: one application.) -/
theorem Tryz.Builder_String_any (B b : Nat) (l : List UInt8) (w : World) (h : Lib.IsBuilder 275 5 B b (Lib.byteCells l) w) (hBw : B ≤ w.heap.size) :
    Calls Tryz.prog 134 #[.pointer (some ⟨b,0,none⟩)] w fun e w'=>e = .returned (.string ⟨l.toArray⟩) ∧ Below B w w':=Any.Builder_String_any Tryz.lays169 Tryz.Builder_Extra_169 B b l w h hBw
def Tryz.lays165_ren : Go.Shelf.Ren:=⟨fun|165=>131|240=>152|241=>153|276=>185|277=>186|n=>n,fun|70=>273|3=>3|0=>0|4=>4|9=>9|20=>20|72=>275|37=>76|164=>292|5=>5|n=>n,fun|n=>n⟩
theorem Tryz.lays165 : Go.Proofs.Lays.n165 Tryz.prog Tryz.lays165_ren:={
  mixed:=by kernel_rfl
  f165:=Tryz.func131.trans (congrArg some (by kernel_rfl))
  f240:=Tryz.func152.trans (congrArg some (by kernel_rfl))
  f241:=Tryz.func153.trans (congrArg some (by kernel_rfl))
  f276:=Tryz.func185.trans (congrArg some (by kernel_rfl))
  f277:=Tryz.func186.trans (congrArg some (by kernel_rfl))
  t0:=Tryz.underlying0
  a0:=Tryz.isAgg0
  z0:=Tryz.sizeOf0
  v0:=Tryz.zeroValue0
  t3:=Tryz.underlying3
  a3:=Tryz.isAgg3
  z3:=Tryz.sizeOf3
  v3:=Tryz.zeroValue3
  t4:=Tryz.underlying4
  a4:=Tryz.isAgg4
  z4:=Tryz.sizeOf4
  v4:=Tryz.zeroValue4
  t9:=Tryz.underlying9
  a9:=Tryz.isAgg9
  z9:=Tryz.sizeOf9
  v9:=Tryz.zeroValue9
  t20:=Tryz.underlying20
  a20:=Tryz.isAgg20
  z20:=Tryz.sizeOf20
  v20:=Tryz.zeroValue20
  t37:=Tryz.underlying76
  a37:=Tryz.isAgg76
  z37:=Tryz.sizeOf76
  v37:=Tryz.zeroValue76
  t70:=Tryz.underlying273
  a70:=Tryz.isAgg273
  z70:=Tryz.sizeOf273
  v70:=Tryz.zeroValue273
  t72:=Tryz.underlying275
  a72:=Tryz.isAgg275
  z72:=Tryz.sizeOf275
  v72:=Tryz.zeroValue275
  t164:=Tryz.underlying292
  a164:=Tryz.isAgg292
  z164:=Tryz.sizeOf292
  v164:=Tryz.zeroValue292 }
theorem Tryz.Builder_Extra_165 : Builder.Extra Tryz.prog Tryz.lays165_ren:={
  sizeBuilder:=by kernel_rfl
  liesBuilder:=by kernel_rfl
  t5:=Tryz.underlying5
  a5:=Tryz.isAgg5
  z5:=Tryz.sizeOf5
  v5:=Tryz.zeroValue5
  infoByte:=by kernel_rfl
  cellsByte:=by kernel_rfl
  sizeByte:=by kernel_rfl
  neB5:=by decide }
open Go.RowKit in
/-- (*strings.Builder).Grow AT A BUILDER THAT HAS NOT BEEN WRITTEN ('var b strings.Builder; b.Grow(n)'): "Grow grows b's capacity, if necessary, to guarantee space for another n bytes.": it holds no byte behind it as before it. (LAID: no walk: one application.) -/
theorem Tryz.Builder_Grow_fresh (B b n : Nat) (w : World) (hB : B ≤ b) (hbk : w.heap[b]? = some (.cells #[.pointer none,.slice none 0 0] 275 (0,0))) (hBw : B ≤ w.heap.size) (hn : n ≤ 281474976710656) :
    Calls Tryz.prog 131 #[.pointer (some ⟨b,0,none⟩),.int .i64 n] w fun e w'=>e = .returned (.tuple #[]) ∧ (Lib.BuilderAt 275 5 B b (.pointer (some ⟨b,0,none⟩)) [] w' ∧ Below B w w'):=Any.Builder_Grow_fresh Tryz.lays165 Tryz.Builder_Extra_165 B b n w hB hbk hBw hn
def Tryz.lays125_ren : Go.Shelf.Ren:=⟨fun|125=>143|128=>165|129=>151|n=>n,fun|46=>160|3=>3|51=>211|53=>26|4=>4|5=>5|9=>9|n=>n,fun|n=>n⟩
theorem Tryz.lays125 : Go.Proofs.Lays.n125 Tryz.prog Tryz.lays125_ren:={
  mixed:=by kernel_rfl
  f125:=Tryz.func143.trans (congrArg some (by kernel_rfl))
  f128:=Tryz.func165.trans (congrArg some (by kernel_rfl))
  f129:=Tryz.func151.trans (congrArg some (by kernel_rfl))
  t3:=Tryz.underlying3
  a3:=Tryz.isAgg3
  z3:=Tryz.sizeOf3
  v3:=Tryz.zeroValue3
  t4:=Tryz.underlying4
  a4:=Tryz.isAgg4
  z4:=Tryz.sizeOf4
  v4:=Tryz.zeroValue4
  t5:=Tryz.underlying5
  a5:=Tryz.isAgg5
  z5:=Tryz.sizeOf5
  v5:=Tryz.zeroValue5
  t9:=Tryz.underlying9
  a9:=Tryz.isAgg9
  z9:=Tryz.sizeOf9
  v9:=Tryz.zeroValue9
  t46:=Tryz.underlying160
  a46:=Tryz.isAgg160
  z46:=Tryz.sizeOf160
  v46:=Tryz.zeroValue160
  t51:=Tryz.underlying211
  a51:=Tryz.isAgg211
  z51:=Tryz.sizeOf211
  v51:=Tryz.zeroValue211
  t53:=Tryz.underlying26
  a53:=Tryz.isAgg26
  z53:=Tryz.sizeOf26
  v53:=Tryz.zeroValue26 }
/-- bits.Len: "Len returns the minimum number of bits required to represent x; the result is 0 for x == 0.": IT RETURNS 'Lib.bitLen x'; the world is as it was. (A uint has 64 bits in the model.) ITS CALLEE bits.Len64 IS MET BY ITS OWN CONTRACT OFF THE SHELF (lay that first). (LAID: no walk: one application.) -/
theorem Tryz.bits_Len (x : Int) (w : World) (h0 : 0 ≤ x) (h1 : x ≤ 18446744073709551615) :
    Calls Tryz.prog 143 #[.int .u64 x] w fun e w'=>e = .returned (.int .i64 (Lib.bitLen x.toNat)) ∧ w' = w:=Any.bits_Len Tryz.lays125 x w h0 h1
def Tryz.lays129_ren : Go.Shelf.Ren:=⟨fun|129=>151|n=>n,fun|53=>26|3=>3|4=>4|46=>160|5=>5|9=>9|n=>n,fun|n=>n⟩
theorem Tryz.lays129 : Go.Proofs.Lays.n129 Tryz.prog Tryz.lays129_ren:={
  mixed:=by kernel_rfl
  f129:=Tryz.func151.trans (congrArg some (by kernel_rfl))
  t3:=Tryz.underlying3
  a3:=Tryz.isAgg3
  z3:=Tryz.sizeOf3
  v3:=Tryz.zeroValue3
  t4:=Tryz.underlying4
  a4:=Tryz.isAgg4
  z4:=Tryz.sizeOf4
  v4:=Tryz.zeroValue4
  t5:=Tryz.underlying5
  a5:=Tryz.isAgg5
  z5:=Tryz.sizeOf5
  v5:=Tryz.zeroValue5
  t9:=Tryz.underlying9
  a9:=Tryz.isAgg9
  z9:=Tryz.sizeOf9
  v9:=Tryz.zeroValue9
  t46:=Tryz.underlying160
  a46:=Tryz.isAgg160
  z46:=Tryz.sizeOf160
  v46:=Tryz.zeroValue160
  t53:=Tryz.underlying26
  a53:=Tryz.isAgg26
  z53:=Tryz.sizeOf26
  v53:=Tryz.zeroValue26 }
/-- bits.Len64: "Len64 returns the minimum number of bits required to represent x; the result is 0 for x == 0.": IT RETURNS 'Lib.bitLen x'; the world is as it was. ('h0', 'h1': x is a uint64.) (LAID: no walk: one application.) -/
theorem Tryz.bits_Len64 (x : Int) (w : World) (h0 : 0 ≤ x) (h1 : x ≤ 18446744073709551615) :
    Calls Tryz.prog 151 #[.int .u64 x] w fun e w'=>e = .returned (.int .i64 (Lib.bitLen x.toNat)) ∧ w' = w:=Any.bits_Len64 Tryz.lays129 x w h0 h1
def Tryz.laysM290_ren : Go.Shelf.Ren:=⟨fun|290=>267|324=>268|n=>n,fun|37=>76|3=>3|0=>0|4=>4|20=>20|75=>71|5=>5|80=>87|9=>9|n=>n,fun|14=>25|n=>n⟩
theorem Tryz.laysM290 : Go.Proofs.LaysM.n290 Tryz.prog Tryz.laysM290_ren:={
  mixed:=by kernel_rfl
  f290:=Tryz.func267.trans (congrArg some (by kernel_rfl))
  f324:=Tryz.func268.trans (congrArg some (by kernel_rfl))
  t0:=Tryz.underlying0
  a0:=Tryz.isAgg0
  z0:=Tryz.sizeOf0
  v0:=Tryz.zeroValue0
  t3:=Tryz.underlying3
  a3:=Tryz.isAgg3
  z3:=Tryz.sizeOf3
  v3:=Tryz.zeroValue3
  t4:=Tryz.underlying4
  a4:=Tryz.isAgg4
  z4:=Tryz.sizeOf4
  v4:=Tryz.zeroValue4
  t20:=Tryz.underlying20
  a20:=Tryz.isAgg20
  z20:=Tryz.sizeOf20
  v20:=Tryz.zeroValue20
  t37:=Tryz.underlying76
  a37:=Tryz.isAgg76
  z37:=Tryz.sizeOf76
  v37:=Tryz.zeroValue76
  t75:=Tryz.underlying71
  a75:=Tryz.isAgg71
  z75:=Tryz.sizeOf71
  v75:=Tryz.zeroValue71
  g14:=by kernel_rfl
  t5:=Tryz.underlying5
  a5:=Tryz.isAgg5
  z5:=Tryz.sizeOf5
  v5:=Tryz.zeroValue5
  t9:=Tryz.underlying9
  a9:=Tryz.isAgg9
  z9:=Tryz.sizeOf9
  v9:=Tryz.zeroValue9
  t80:=Tryz.underlying87
  a80:=Tryz.isAgg87
  z80:=Tryz.sizeOf87
  v80:=Tryz.zeroValue87
  i0:=by kernel_rfl
  i3:=by kernel_rfl
  i4:=by kernel_rfl
  i5:=by kernel_rfl
  i9:=by kernel_rfl
  i20:=by kernel_rfl
  i37:=by kernel_rfl
  i75:=by kernel_rfl
  i80:=by kernel_rfl
  m14:=by kernel_rfl }
open Go.RowKit in
/-- bytes.growSlice: "growSlice grows b by n, preserving the original content of b.": OF A SLICE THAT LIES AT THE HEAD OF A ROW: a new row, number 'w.heap.size': it begins with b's l cells; its capacity has room for n more; whatever lay below is as it was. (LAID: no walk: one application.) -/
theorem Tryz.bytes_growSlice_row (g l c n : Nat) (cur : Array Value) (w : World) (hg : w.heap[g]? = some (.cells cur 5 (0,0))) (hcs : cur.size = c) (hlc : l ≤ c) (hn : 1 ≤ n) (hlim : l + n ≤ 140737488355328) (hc2 : c ≤ 140737488355328) (h1 : ∀ v ∈ cur.toList.take l,v.oneCell' = true) :
    Calls Tryz.prog 267 #[.slice (some ⟨g,0,none⟩) l c,.int .i64 n] w fun e w'=>∃ cap2 cells,e = .returned (.slice (some ⟨w.heap.size,0,none⟩) l cap2) ∧ w'.heap[w.heap.size]? = some (.cells cells 5 (0,0)) ∧
      cells.size = cap2 ∧ cells.toList.take l = cur.toList.take l ∧ l + n ≤ cap2 ∧ cap2 ≤ maxLen ∧ Below w.heap.size w w':=Any.bytes_growSlice_row Tryz.laysM290 g l c n cur w hg hcs hlc hn hlim hc2 h1
def Tryz.laysM182_ren : Go.Shelf.Ren:=⟨fun|182=>38|n=>n,fun|130=>86|9=>9|4=>4|0=>0|93=>83|37=>76|3=>3|91=>81|5=>5|n=>n,fun|n=>n⟩
theorem Tryz.laysM182 : Go.Proofs.LaysM.n182 Tryz.prog Tryz.laysM182_ren:={
  mixed:=by kernel_rfl
  f182:=Tryz.func38.trans (congrArg some (by kernel_rfl))
  t0:=Tryz.underlying0
  a0:=Tryz.isAgg0
  z0:=Tryz.sizeOf0
  v0:=Tryz.zeroValue0
  t3:=Tryz.underlying3
  a3:=Tryz.isAgg3
  z3:=Tryz.sizeOf3
  v3:=Tryz.zeroValue3
  t4:=Tryz.underlying4
  a4:=Tryz.isAgg4
  z4:=Tryz.sizeOf4
  v4:=Tryz.zeroValue4
  t9:=Tryz.underlying9
  a9:=Tryz.isAgg9
  z9:=Tryz.sizeOf9
  v9:=Tryz.zeroValue9
  t37:=Tryz.underlying76
  a37:=Tryz.isAgg76
  z37:=Tryz.sizeOf76
  v37:=Tryz.zeroValue76
  t93:=Tryz.underlying83
  a93:=Tryz.isAgg83
  z93:=Tryz.sizeOf83
  v93:=Tryz.zeroValue83
  t130:=Tryz.underlying86
  a130:=Tryz.isAgg86
  z130:=Tryz.sizeOf86
  v130:=Tryz.zeroValue86
  t5:=Tryz.underlying5
  a5:=Tryz.isAgg5
  z5:=Tryz.sizeOf5
  v5:=Tryz.zeroValue5
  t91:=Tryz.underlying81
  a91:=Tryz.isAgg81
  z91:=Tryz.sizeOf81
  v91:=Tryz.zeroValue81
  i0:=by kernel_rfl
  i3:=by kernel_rfl
  i4:=by kernel_rfl
  i5:=by kernel_rfl
  i9:=by kernel_rfl
  i37:=by kernel_rfl
  i91:=by kernel_rfl
  i93:=by kernel_rfl
  i130:=by kernel_rfl }
open Go.RowKit in
/-- (*bytes.Buffer).String: "String returns the contents of the unread portion of the buffer as a string.": THE BYTES THAT WERE WRITTEN. The world is as it was but for the count of draws (the statement has two reads: its order is drawn). (LAID: no walk: one application.) -/
theorem Tryz.Buffer_String (B b : Nat) (l : List UInt8) (w : World) (h : Lib.IsBuffer 83 5 B b (Lib.byteCells l) w) :
    Calls Tryz.prog 38 #[.pointer (some ⟨b,0,none⟩)] w fun e w'=>e = .returned (.string ⟨l.toArray⟩) ∧ ∃ n,w' = w.drewN n:=Any.Buffer_String Tryz.laysM182 B b l w h
def Tryz.laysBin30_ren : Go.Shelf.Ren:=⟨fun|30=>301|n=>n,fun|25=>126|22=>76|29=>211|0=>0|5=>5|45=>160|n=>n,fun|n=>n⟩
theorem Tryz.laysBin30 : Go.Proofs.LaysBin.n30 Tryz.prog Tryz.laysBin30_ren:={
  mixed:=by kernel_rfl
  f30:=Tryz.func301.trans (congrArg some (by kernel_rfl))
  t0:=Tryz.underlying0
  a0:=Tryz.isAgg0
  z0:=Tryz.sizeOf0
  v0:=Tryz.zeroValue0
  i0:=by kernel_rfl
  t5:=Tryz.underlying5
  a5:=Tryz.isAgg5
  z5:=Tryz.sizeOf5
  v5:=Tryz.zeroValue5
  i5:=by kernel_rfl
  t22:=Tryz.underlying76
  a22:=Tryz.isAgg76
  z22:=Tryz.sizeOf76
  v22:=Tryz.zeroValue76
  i22:=by kernel_rfl
  t25:=Tryz.underlying126
  a25:=Tryz.isAgg126
  z25:=Tryz.sizeOf126
  v25:=Tryz.zeroValue126
  i25:=by kernel_rfl
  t29:=Tryz.underlying211
  a29:=Tryz.isAgg211
  z29:=Tryz.sizeOf211
  v29:=Tryz.zeroValue211
  i29:=by kernel_rfl
  t45:=Tryz.underlying160
  a45:=Tryz.isAgg160
  z45:=Tryz.sizeOf160
  v45:=Tryz.zeroValue160
  i45:=by kernel_rfl }
open Go.RowKit in
/-- binary.LittleEndian.Uint32: "Uint32 returns the uint32 representation of b[0:4].": THE NUMBER THAT THE FIRST 4 BYTES SPELL, the least byte first ('Lib.leNat'). Of what was there nothing has turned (the receiver, an empty struct, is laid in a new block without cells; the statement's order is drawn). (LAID: no walk: one application.) -/
theorem Tryz.binary_LE_Uint32 (g o n c : Nat) (b0 b1 b2 b3 : UInt8) (w : World) (hn : 4 ≤ n) (c0 : w.cell? ⟨g,o,none⟩ = some (.int .u8 b0.toNat)) (c1 : w.cell? ⟨g,o + 1,none⟩ = some (.int .u8 b1.toNat)) (c2 : w.cell? ⟨g,o + 2,none⟩ = some (.int .u8 b2.toNat)) (c3 : w.cell? ⟨g,o + 3,none⟩ = some (.int .u8 b3.toNat)) :
    Calls Tryz.prog 301 #[.agg #[],.slice (some ⟨g,o,none⟩) n c] w fun e w'=>e = .returned (.int .u32 (Lib.leNat [b0,b1,b2,b3])) ∧ Below w.heap.size w w':=Any.binary_LE_Uint32 Tryz.laysBin30 g o n c b0 b1 b2 b3 w hn c0 c1 c2 c3
def Tryz.laysBin31_ren : Go.Shelf.Ren:=⟨fun|31=>297|n=>n,fun|25=>126|22=>76|29=>211|0=>0|5=>5|45=>160|n=>n,fun|n=>n⟩
theorem Tryz.laysBin31 : Go.Proofs.LaysBin.n31 Tryz.prog Tryz.laysBin31_ren:={
  mixed:=by kernel_rfl
  f31:=Tryz.func297.trans (congrArg some (by kernel_rfl))
  t0:=Tryz.underlying0
  a0:=Tryz.isAgg0
  z0:=Tryz.sizeOf0
  v0:=Tryz.zeroValue0
  i0:=by kernel_rfl
  t5:=Tryz.underlying5
  a5:=Tryz.isAgg5
  z5:=Tryz.sizeOf5
  v5:=Tryz.zeroValue5
  i5:=by kernel_rfl
  t22:=Tryz.underlying76
  a22:=Tryz.isAgg76
  z22:=Tryz.sizeOf76
  v22:=Tryz.zeroValue76
  i22:=by kernel_rfl
  t25:=Tryz.underlying126
  a25:=Tryz.isAgg126
  z25:=Tryz.sizeOf126
  v25:=Tryz.zeroValue126
  i25:=by kernel_rfl
  t29:=Tryz.underlying211
  a29:=Tryz.isAgg211
  z29:=Tryz.sizeOf211
  v29:=Tryz.zeroValue211
  i29:=by kernel_rfl
  t45:=Tryz.underlying160
  a45:=Tryz.isAgg160
  z45:=Tryz.sizeOf160
  v45:=Tryz.zeroValue160
  i45:=by kernel_rfl }
open Go.RowKit in
/-- binary.LittleEndian.PutUint32: "PutUint32 stores v into b[0:4].": v's 4 BYTES, the least first ('Lib.leBytes 4 v'), ARE LAID IN THE SLICE's FIRST 4 CELLS ('World.setCells'); nothing else turns (the receiver, an empty struct, is laid in a new block without cells). (LAID: no walk: one application.) -/
theorem Tryz.binary_LE_PutUint32 (g o n c v : Nat) (hv : v < 4294967296) (x0 x1 x2 x3 : Value) (w : World) (hn : 4 ≤ n) (c0 : w.cell? ⟨g,o,none⟩ = some x0) (c1 : w.cell? ⟨g,o + 1,none⟩ = some x1) (c2 : w.cell? ⟨g,o + 2,none⟩ = some x2) (c3 : w.cell? ⟨g,o + 3,none⟩ = some x3) (f0 : w.frozen? ⟨g,o,none⟩ = false) (f1 : w.frozen? ⟨g,o + 1,none⟩ = false) (f2 : w.frozen? ⟨g,o + 2,none⟩ = false) (f3 : w.frozen? ⟨g,o + 3,none⟩ = false) :
    Calls Tryz.prog 297 #[.agg #[],.slice (some ⟨g,o,none⟩) n c,.int .u32 v] w fun e w'=>e = .returned (.tuple #[]) ∧ w' = (w.alloc (.cells #[] 126)).setCells g o (Lib.byteCells (Lib.leBytes 4 v)):=Any.binary_LE_PutUint32 Tryz.laysBin31 g o n c v hv x0 x1 x2 x3 w hn c0 c1 c2 c3 f0 f1 f2 f3
def Tryz.laysBin33_ren : Go.Shelf.Ren:=⟨fun|33=>116|n=>n,fun|25=>126|22=>76|33=>26|0=>0|5=>5|45=>160|n=>n,fun|n=>n⟩
theorem Tryz.laysBin33 : Go.Proofs.LaysBin.n33 Tryz.prog Tryz.laysBin33_ren:={
  mixed:=by kernel_rfl
  f33:=Tryz.func116.trans (congrArg some (by kernel_rfl))
  t0:=Tryz.underlying0
  a0:=Tryz.isAgg0
  z0:=Tryz.sizeOf0
  v0:=Tryz.zeroValue0
  i0:=by kernel_rfl
  t5:=Tryz.underlying5
  a5:=Tryz.isAgg5
  z5:=Tryz.sizeOf5
  v5:=Tryz.zeroValue5
  i5:=by kernel_rfl
  t22:=Tryz.underlying76
  a22:=Tryz.isAgg76
  z22:=Tryz.sizeOf76
  v22:=Tryz.zeroValue76
  i22:=by kernel_rfl
  t25:=Tryz.underlying126
  a25:=Tryz.isAgg126
  z25:=Tryz.sizeOf126
  v25:=Tryz.zeroValue126
  i25:=by kernel_rfl
  t33:=Tryz.underlying26
  a33:=Tryz.isAgg26
  z33:=Tryz.sizeOf26
  v33:=Tryz.zeroValue26
  i33:=by kernel_rfl
  t45:=Tryz.underlying160
  a45:=Tryz.isAgg160
  z45:=Tryz.sizeOf160
  v45:=Tryz.zeroValue160
  i45:=by kernel_rfl }
open Go.RowKit in
/-- binary.LittleEndian.Uint64: "Uint64 returns the uint64 representation of b[0:8].": THE NUMBER THAT THE FIRST 8 BYTES SPELL, the least byte first ('Lib.leNat'). Of what was there nothing has turned (the receiver, an empty struct, is laid in a new block without cells; the statement's order is drawn). (LAID: no walk: one application.) -/
theorem Tryz.binary_LE_Uint64 (g o n c : Nat) (b0 b1 b2 b3 b4 b5 b6 b7 : UInt8) (w : World) (hn : 8 ≤ n) (c0 : w.cell? ⟨g,o,none⟩ = some (.int .u8 b0.toNat)) (c1 : w.cell? ⟨g,o + 1,none⟩ = some (.int .u8 b1.toNat)) (c2 : w.cell? ⟨g,o + 2,none⟩ = some (.int .u8 b2.toNat)) (c3 : w.cell? ⟨g,o + 3,none⟩ = some (.int .u8 b3.toNat)) (c4 : w.cell? ⟨g,o + 4,none⟩ = some (.int .u8 b4.toNat)) (c5 : w.cell? ⟨g,o + 5,none⟩ = some (.int .u8 b5.toNat)) (c6 : w.cell? ⟨g,o + 6,none⟩ = some (.int .u8 b6.toNat)) (c7 : w.cell? ⟨g,o + 7,none⟩ = some (.int .u8 b7.toNat)) :
    Calls Tryz.prog 116 #[.agg #[],.slice (some ⟨g,o,none⟩) n c] w fun e w'=>e = .returned (.int .u64 (Lib.leNat [b0,b1,b2,b3,b4,b5,b6,b7])) ∧ Below w.heap.size w w':=Any.binary_LE_Uint64 Tryz.laysBin33 g o n c b0 b1 b2 b3 b4 b5 b6 b7 w hn c0 c1 c2 c3 c4 c5 c6 c7
def Tryz.laysBin34_ren : Go.Shelf.Ren:=⟨fun|34=>68|n=>n,fun|25=>126|22=>76|33=>26|0=>0|5=>5|45=>160|n=>n,fun|n=>n⟩
theorem Tryz.laysBin34 : Go.Proofs.LaysBin.n34 Tryz.prog Tryz.laysBin34_ren:={
  mixed:=by kernel_rfl
  f34:=Tryz.func68.trans (congrArg some (by kernel_rfl))
  t0:=Tryz.underlying0
  a0:=Tryz.isAgg0
  z0:=Tryz.sizeOf0
  v0:=Tryz.zeroValue0
  i0:=by kernel_rfl
  t5:=Tryz.underlying5
  a5:=Tryz.isAgg5
  z5:=Tryz.sizeOf5
  v5:=Tryz.zeroValue5
  i5:=by kernel_rfl
  t22:=Tryz.underlying76
  a22:=Tryz.isAgg76
  z22:=Tryz.sizeOf76
  v22:=Tryz.zeroValue76
  i22:=by kernel_rfl
  t25:=Tryz.underlying126
  a25:=Tryz.isAgg126
  z25:=Tryz.sizeOf126
  v25:=Tryz.zeroValue126
  i25:=by kernel_rfl
  t33:=Tryz.underlying26
  a33:=Tryz.isAgg26
  z33:=Tryz.sizeOf26
  v33:=Tryz.zeroValue26
  i33:=by kernel_rfl
  t45:=Tryz.underlying160
  a45:=Tryz.isAgg160
  z45:=Tryz.sizeOf160
  v45:=Tryz.zeroValue160
  i45:=by kernel_rfl }
open Go.RowKit in
/-- binary.LittleEndian.PutUint64: "PutUint64 stores v into b[0:8].": v's 8 BYTES, the least first ('Lib.leBytes 8 v'), ARE LAID IN THE SLICE's FIRST 8 CELLS ('World.setCells'); nothing else turns (the receiver, an empty struct, is laid in a new block without cells). (LAID: no walk: one application.) -/
theorem Tryz.binary_LE_PutUint64 (g o n c v : Nat) (hv : v < 18446744073709551616) (x0 x1 x2 x3 x4 x5 x6 x7 : Value) (w : World) (hn : 8 ≤ n) (c0 : w.cell? ⟨g,o,none⟩ = some x0) (c1 : w.cell? ⟨g,o + 1,none⟩ = some x1) (c2 : w.cell? ⟨g,o + 2,none⟩ = some x2) (c3 : w.cell? ⟨g,o + 3,none⟩ = some x3) (c4 : w.cell? ⟨g,o + 4,none⟩ = some x4) (c5 : w.cell? ⟨g,o + 5,none⟩ = some x5) (c6 : w.cell? ⟨g,o + 6,none⟩ = some x6) (c7 : w.cell? ⟨g,o + 7,none⟩ = some x7) (f0 : w.frozen? ⟨g,o,none⟩ = false) (f1 : w.frozen? ⟨g,o + 1,none⟩ = false) (f2 : w.frozen? ⟨g,o + 2,none⟩ = false) (f3 : w.frozen? ⟨g,o + 3,none⟩ = false) (f4 : w.frozen? ⟨g,o + 4,none⟩ = false) (f5 : w.frozen? ⟨g,o + 5,none⟩ = false) (f6 : w.frozen? ⟨g,o + 6,none⟩ = false) (f7 : w.frozen? ⟨g,o + 7,none⟩ = false) :
    Calls Tryz.prog 68 #[.agg #[],.slice (some ⟨g,o,none⟩) n c,.int .u64 v] w fun e w'=>e = .returned (.tuple #[]) ∧ w' = (w.alloc (.cells #[] 126)).setCells g o (Lib.byteCells (Lib.leBytes 8 v)):=Any.binary_LE_PutUint64 Tryz.laysBin34 g o n c v hv x0 x1 x2 x3 x4 x5 x6 x7 w hn c0 c1 c2 c3 c4 c5 c6 c7 f0 f1 f2 f3 f4 f5 f6 f7
def Tryz.laysBin46_ren : Go.Shelf.Ren:=⟨fun|46=>128|n=>n,fun|22=>76|33=>26|3=>3|4=>4|5=>5|0=>0|45=>160|n=>n,fun|n=>n⟩
theorem Tryz.laysBin46 : Go.Proofs.LaysBin.n46 Tryz.prog Tryz.laysBin46_ren:={
  mixed:=by kernel_rfl
  f46:=Tryz.func128.trans (congrArg some (by kernel_rfl))
  t0:=Tryz.underlying0
  a0:=Tryz.isAgg0
  z0:=Tryz.sizeOf0
  v0:=Tryz.zeroValue0
  i0:=by kernel_rfl
  t3:=Tryz.underlying3
  a3:=Tryz.isAgg3
  z3:=Tryz.sizeOf3
  v3:=Tryz.zeroValue3
  i3:=by kernel_rfl
  t4:=Tryz.underlying4
  a4:=Tryz.isAgg4
  z4:=Tryz.sizeOf4
  v4:=Tryz.zeroValue4
  i4:=by kernel_rfl
  t5:=Tryz.underlying5
  a5:=Tryz.isAgg5
  z5:=Tryz.sizeOf5
  v5:=Tryz.zeroValue5
  i5:=by kernel_rfl
  t22:=Tryz.underlying76
  a22:=Tryz.isAgg76
  z22:=Tryz.sizeOf76
  v22:=Tryz.zeroValue76
  i22:=by kernel_rfl
  t33:=Tryz.underlying26
  a33:=Tryz.isAgg26
  z33:=Tryz.sizeOf26
  v33:=Tryz.zeroValue26
  i33:=by kernel_rfl
  t45:=Tryz.underlying160
  a45:=Tryz.isAgg160
  z45:=Tryz.sizeOf160
  v45:=Tryz.zeroValue160
  i45:=by kernel_rfl }
open Go.RowKit in
/-- binary.PutUvarint: "PutUvarint encodes a uint64 into buf and returns the number of bytes written. If the buffer is too small, PutUvarint will panic.": WHERE buf HAS ROOM: x's VARINT ('Lib.uvarint x') IS LAID IN buf's FIRST CELLS ('World.setCells'); its length comes back; nothing else turns. (LAID: no walk: one application.) -/
theorem Tryz.binary_PutUvarint (g o n c x : Nat) (hx : x < 18446744073709551616) (w : World) (hn : (Lib.uvarint x).length ≤ n) (hcell : ∀ j,j < (Lib.uvarint x).length → (w.cell? ⟨g,o + j,none⟩).isSome = true ∧ w.frozen? ⟨g,o + j,none⟩ = false) :
    Calls Tryz.prog 128 #[.slice (some ⟨g,o,none⟩) n c,.int .u64 x] w fun e w'=>e = .returned (.int .i64 (Lib.uvarint x).length) ∧ w' = w.setCells g o (Lib.byteCells (Lib.uvarint x)):=Any.binary_PutUvarint Tryz.laysBin46 g o n c x hx w hn hcell
end Go.Proofs

namespace Go.Proofs.Wx
open Go Go.RowKit
@[go_sem] theorem eql_slice_some (a : Addr) (l c : Nat) (w : World) : (binOp .eql 76 (.slice (some a) l c) (.slice none 0 0)).run Tryz.prog w = .ok (.bool false) w:=by kernel_rfl
@[go_sem] theorem eql_slice_none (w : World) : (binOp .eql 76 (.slice none 0 0) (.slice none 0 0)).run Tryz.prog w = .ok (.bool true) w:=by kernel_rfl
theorem bufLen {w : World} {p l c : Nat} {a : Option Addr} {lr : Int} (hB : Blk w p [.slice a l c,.int .i64 0,.int .i8 lr] 83 (0,0)) (hl : l < 1000000000000) :
    Calls Tryz.prog 264 #[.pointer (some ⟨p,0,none⟩)] w fun e w'=>e = .returned (.int .i64 l) ∧ w' = w.drew:=by
  have hcc:=hB.cells
  have hli : (l : Int) < 1000000000000:=by omega
  go_enter Tryz.func264,Tryz.ntmps264
  go_wp2_with (first
    | (refine wre 1 [(0,.free),(1,.free),(2,.free),(3,.look),(4,.free),(5,.free),(6,.free),(7,.free),(8,.look),(9,.free),(10,.free)] ?_)
    | (with_reducible refine wEI ?_;(first|(refine wEN ?_;skip)|(refine wEF rfl (fun K hK=>?_);go_simp)|(refine wEL rfl rfl (fun K hK=>?_);go_simp)|(refine wER rfl (fun K hK=>?_);go_simp)|(refine wEM rfl (fun K hK=>?_);go_simp;try refine ⟨_,_,⟨rfl,rfl⟩,?_⟩)|(refine wEG rfl (fun K hK=>?_);go_simp)|(refine wEA rfl (fun K hK=>?_);go_simp))))
  go_ret
  exact ⟨by simp;exact IntWalk.i64_in _ (by omega),rfl⟩
theorem growRow {w : World} {p g l c n : Nat} {lr : Int} {cs : List Value} (hB : Blk w p [.slice (some ⟨g,0,none⟩) l c,.int .i64 0,.int .i8 lr] 83 (0,0)) (hg : Blk w g cs 5 (0,0)) (hcs : cs.length = c) (hl : l ≤ c) (hc : c ≤ 140737488355328) (hn : n < 1000000000000) (hln : l < 1000000000000) (hl0 : 0 < l) (h0 : 0 < n) (hno : c < l + n)
    (h1 : ∀ v ∈ cs.take l,v.oneCell' = true) :
    Calls Tryz.prog 266 #[.pointer (some ⟨p,0,none⟩),.int .i64 n] w fun e w'=>∃ C cs2,e = .returned (.int .i64 l) ∧ Blk w' p [.slice (some ⟨w.heap.size,0,none⟩) (l + n) C,.int .i64 0,.int .i8 lr] 83 (0,0) ∧
      Blk w' w.heap.size cs2 5 (0,0) ∧ cs2.length = C ∧ cs2.take l = cs.take l ∧ l + n ≤ C ∧ C ≤ maxLen ∧ Fr [p] w w':=by
  have hpl:=hB.lt
  have hlen:=bufLen hB hln
  have htg:=fun (w' : World) (hB : Blk w' p [.slice (some ⟨g,0,none⟩) l c,.int .i64 0,.int .i8 lr] 83 (0,0))=>tryGrowNo (n:=n) hB hl (by omega) hn hno
  have hgs:=fun (w' : World) (hg' : Blk w' g cs 5 (0,0))=>Tryz.bytes_growSlice_row g l c n cs.toArray w' hg' (by simpa using hcs) hl h0 (by omega) hc (by simpa using h1)
  have e0 : ¬ ((l : Int) = 0):=by omega
  have dA : decide ((n : Int) ≤ (c : Int) / 2 - l) = false:=decide_eq_false (by omega)
  have dB : decide (9223372036854775807 - (c : Int) - n < c) = false:=decide_eq_false (by omega)
  have wA : IntKind.i64.wrap ((c : Int) / 2 - l) = (c : Int) / 2 - l:=IntWalk.i64_in _ (by omega)
  have wA0 : IntKind.i64.wrap ((c : Int) / 2) = (c : Int) / 2:=IntWalk.i64_in _ (by omega)
  have wB : IntKind.i64.wrap (9223372036854775807 - (c : Int)) = 9223372036854775807 - (c : Int):=IntWalk.i64_in _ (by omega)
  have wC : IntKind.i64.wrap (9223372036854775807 - (c : Int) - n) = 9223372036854775807 - (c : Int) - n:=IntWalk.i64_in _ (by omega)
  have wD : IntKind.i64.wrap (n : Int) = n:=IntWalk.i64_in _ (by omega)
  have wE : IntKind.i64.wrap ((l : Int) + n) = (l : Int) + n:=IntWalk.i64_in _ (by omega)
  have e4 : (l : Int) ≤ c:=by omega
  have E:=Lib.hid (And.intro dA (And.intro dB (And.intro wA (And.intro wB (And.intro wC (And.intro wD (And.intro wE (And.intro e4 wA0))))))))
  have HN:=Lib.hid (And.intro hcs (And.intro hl (And.intro hc (And.intro hn (And.intro hln (And.intro hl0 (And.intro h0 hno)))))))
  clear hcs hl hc hn hln hl0 h0 hno h1 dA dB wA wB wC wD wE e4 wA0
  go_enter Tryz.func266,Tryz.ntmps266
  have hgd:=hgs w.drew.drew hg.drew.drew
  have htw:=htg w.drew hB.drew
  clear hgs htg
  go_wp2_with (first
    | go_at_call 264;refine hlen.mono ?_;rintro e w1 ⟨rfl,rfl⟩;clear hlen
    | go_at_call 265;refine htw.mono ?_;rintro e w2 ⟨rfl,rfl⟩;clear htw;have bc2:=hB.cell 0;have bc3:=hB.cell 1;have bf1:=hB.free;obtain ⟨dA,dB,wA,wB,wC,wD,wE,e4,wA0⟩:=E.out;clear E
    | go_at_call 267;refine hgd.mono ?_;rintro e w3 ⟨C,cs2,rfl,hN,hCs,htk,hC1,hC2,hb3⟩;have hF3 : Fr [] w w3:=Fr.trans (S:=[]) (Fr.drew (Fr.drew Fr.refl)) (Fr.of_below (S:=[]) hb3 (Nat.le_refl _)) (by simp);have hB3:=hF3.blk hB (by simp);have bd0:=hB3.cell 0;have bd1:=hB3.cell 1;have bd2:=hB3.free;have hC3 : (l : Int) + n ≤ C:=by omega
    | (refine wre 12 [(0,.free),(1,.free),(2,.free),(3,.look),(4,.free),(5,.free),(6,.free),(7,.look),(8,.free),(9,.free),(10,.free),(11,.look),(12,.free),(13,.act)] ?_)
    | (refine wre 15 [(0,.free),(1,.free),(2,.free),(3,.free),(4,.look),(5,.free),(6,.free),(7,.free),(8,.look),(9,.free),(10,.free),(11,.free),(12,.free),(13,.look),(14,.free),(15,.free),(16,.act),(17,.free),(18,.free),(19,.act)] ?_)
    | (with_reducible refine wEI ?_;(first|(refine wEN ?_;skip)|(refine wEF rfl (fun K hK=>?_);go_simp)|(refine wEL rfl rfl (fun K hK=>?_);go_simp)|(refine wER rfl (fun K hK=>?_);go_simp)|(refine wEM rfl (fun K hK=>?_);go_simp;try refine ⟨_,_,⟨rfl,rfl⟩,?_⟩)|(refine wEG rfl (fun K hK=>?_);go_simp)|(refine wEA rfl (fun K hK=>?_);go_simp))))
  go_goals
  go_ret
  have hs : w.heap.size ≠ p:=Ne.symm (Nat.ne_of_lt hpl)
  refine ⟨C,cs2.toList,rfl,?_,?_,by simpa using hCs,by simpa using htk,hC1,hC2,?_⟩
  · exact blkP
  · have hN' : Blk w3 w.heap.size cs2.toList 5 (0,0):=hN
    exact blkP
  · exact (by exact frP)
end Go.Proofs.Wx

namespace Go.Proofs.Wx
open Go Go.RowKit
theorem growNil {w : World} {p n : Nat} {lr : Int} (hB : Blk w p [.slice none 0 0,.int .i64 0,.int .i8 lr] 83 (0,0)) (h0 : 0 < n) (hn : n ≤ 64) :
    Calls Tryz.prog 266 #[.pointer (some ⟨p,0,none⟩),.int .i64 n] w fun e w'=>e = .returned (.int .i64 0) ∧ Blk w' p [.slice (some ⟨w.heap.size,0,none⟩) n 64,.int .i64 0,.int .i8 lr] 83 (0,0) ∧
      Blk w' w.heap.size (List.replicate 64 (.int .u8 0)) 5 (0,0) ∧ Fr [p] w w':=by
  have hpl:=hB.lt
  have hlen:=bufLen hB (by omega)
  have htw:=tryGrowNo (n:=n) hB.drew (Nat.le_refl _) (by omega) (by omega) (by omega)
  have hbc:=hB.cell 0
  have hbd:=hB.cell 1
  have hf:=hB.free
  have hni : (n : Int) ≤ 64:=by omega
  have hs : w.heap.size ≠ p:=Ne.symm (Nat.ne_of_lt hpl)
  go_enter Tryz.func266,Tryz.ntmps266
  go_wp2_with (first
    | go_at_call 264;refine hlen.mono ?_;rintro e w1 ⟨rfl,rfl⟩;clear hlen
    | go_at_call 265;refine htw.mono ?_;rintro e w2 ⟨rfl,rfl⟩;clear htw
    | (with_reducible refine list_makeSlice (fun K hK=>?_);  refine makeB _ _ rfl _ _ _ _ n 64 rfl rfl rfl rfl (by omega) (by omega) ?_)
    | (refine wre 12 [(0,.free),(1,.free),(2,.free),(3,.look),(4,.free),(5,.free),(6,.free),(7,.look),(8,.free),(9,.free),(10,.free),(11,.look),(12,.free),(13,.act)] ?_)
    | (refine wre 15 [(0,.free),(1,.free),(2,.free),(3,.free),(4,.look),(5,.free),(6,.free),(7,.free),(8,.look),(9,.free),(10,.free),(11,.free),(12,.free),(13,.look),(14,.free),(15,.free),(16,.act),(17,.free),(18,.free),(19,.act)] ?_)
    | (with_reducible refine wEI ?_;(first|(refine wEN ?_;skip)|(refine wEF rfl (fun K hK=>?_);go_simp)|(refine wEL rfl rfl (fun K hK=>?_);go_simp)|(refine wER rfl (fun K hK=>?_);go_simp)|(refine wEM rfl (fun K hK=>?_);go_simp;try refine ⟨_,_,⟨rfl,rfl⟩,?_⟩)|(refine wEG rfl (fun K hK=>?_);go_simp)|(refine wpE_actp rfl rfl (fun K hK=>?_);simp only [List.getElem_toArray,List.getElem_cons_succ,List.getElem_cons_zero];(first|(with_reducible refine op_makeSlice ?_;  refine makeB _ _ rfl _ _ _ _ n 64 rfl rfl rfl rfl (by omega) (by omega) ?_)))|(refine wEA rfl (fun K hK=>?_);go_simp))))
  go_ret
  refine ⟨rfl,?_,?_,?_⟩
  · exact blkP
  · exact Blk.conv (Blk.newAt (by simp)) rfl
  · exact (by exact frP)
theorem lay_take {cs : List Value} {l : Nat} {ys xs : List UInt8} (h1 : cs.take l = by8 ys) (hl : ys.length = l) (h2 : l + xs.length ≤ cs.length) : (lay cs l xs).take (l + xs.length) = by8 (ys ++ xs):=by
  have h3 : l ≤ cs.length:=by omega
  unfold lay
  rw [List.take_append_of_le_length (by simp [by8_length];omega),h1,by8_append]
  rw [List.take_of_length_le (by simp [by8_length];omega)]
def WrPost (w : World) (p base : Nat) (v : Value) (ys xs : List UInt8) (e : Ending) (w' : World) : Prop :=
  e = .returned (.tuple #[.int .i64 xs.length,.nilIface]) ∧ ∃ v',Buf w' p base v' (ys ++ xs) ∧ (v'.ownBlock = v.ownBlock ∨ v'.ownBlock = some w.heap.size) ∧ Fr (p :: v.ownBlock.toList) w w'
theorem writeRoom {w : World} {p base b so c2 g cap : Nat} {ys xs : List UInt8} {cur : List Value} {lr : Int} (hp : Blk w p [.slice (some ⟨g,0,none⟩) ys.length cap,.int .i64 0,.int .i8 lr] 83 (0,0)) (hpb : p < base) (hbg : base ≤ g)
    (hg : Blk w g cur 5 (0,0)) (hm : cap ≤ maxLen) (hsz : cur.length = cap) (htk : cur.take ys.length = by8 ys) (hB : Bs w b so xs) (hbp : b ≠ p) (hbv : b ≠ g) (hroom : ys.length + xs.length ≤ cap) (hx0 : xs ≠ []) (hlen : ys.length + xs.length < 1000000000000) :
    Calls Tryz.prog 262 #[.pointer (some ⟨p,0,none⟩),.slice (some ⟨b,so,none⟩) xs.length c2] w fun e w'=>WrPost w p base (.slice (some ⟨g,0,none⟩) ys.length cap) ys xs e w':=by
  have hf:=hp.free
  have hgp : g ≠ p:=by omega
  have htg:=fun (w' : World) (h : Blk w' p [.slice (some ⟨g,0,none⟩) ys.length cap,.int .i64 0,.int .i8 0] 83 (0,0))=>tryGrowYes (n:=xs.length) h (by unfold maxLen at hm;omega) (by omega) hroom
  have h1 : (ys.length : Int) + xs.length ≤ cap:=by omega
  have hc2:=hp.cell 2
  have hxl:=List.length_pos_iff.2 hx0
  have n1 : ¬ cap = ys.length:=by omega
  have n2 : ¬ (cap : Int) = ys.length:=by omega
  have L1:=Lib.hid (And.intro hm (And.intro hlen (And.intro hroom hsz)))
  clear hm hlen
  go_enter Tryz.func262,Tryz.ntmps262
  go_wp2_with (first
    | go_at_call 265;refine (htg _ (by exact blkP)).mono ?_;rintro e w2 ⟨rfl,hB2,hF2⟩;have hF02 : Fr [p] w w2:=Fr.trans (S:=[p]) (by exact frP) hF2 (by simp);have hg2:=hF02.blk hg (by simp [hgp]);have hx2:=hB.fr hF02 (by simp [hbp]);have bc2:=hB2.cell 0;clear htg
    | ((with_reducible refine list_bi .copy (fun K hK=>?_));  refine copyB _ _ 76 76 rfl 5 (by kernel_rfl) (by kernel_rfl) _ _ _ _ _ _ _ _ rfl rfl cur _ (by exact blkP) xs hx2 (by show _ = min _ _;omega) (by have:=L1.out;omega) (fun w5 hg5 hf5=>?_);have hB5:=hf5.blk (b:=p) (by exact blkP) (by simp [Ne.symm hgp])))
  go_ret2
  obtain ⟨hm,hlen,_,_⟩:=L1.out
  have hll:=lay_length (cs:=cur) (off:=ys.length) (xs:=xs) (by omega)
  refine ⟨rfl,.slice (some ⟨g,0,none⟩) (ys.length + xs.length) cap,⟨⟨0,hB5⟩,⟨by simp [by8_length],.inr ⟨g,cap,(lay cur ys.length xs).toArray,by simp,hbg,hg5,by simp;omega,hm,by simp;omega,?_⟩⟩,hpb,by simp;omega⟩,.inl (by simp [Value.ownBlock]),?_⟩
  · have:=lay_take htk rfl (xs:=xs) (by omega)
    simpa using this
  · refine (hF02.mono (by simp)).trans hf5 (by simp [Value.ownBlock])
theorem writeGrow {w : World} {p base b so c2 g cap : Nat} {ys xs : List UInt8} {cur : List Value} {lr : Int} (hp : Blk w p [.slice (some ⟨g,0,none⟩) ys.length cap,.int .i64 0,.int .i8 lr] 83 (0,0)) (hpb : p < base) (hbg : base ≤ g)
    (hg : Blk w g cur 5 (0,0)) (hyc : ys.length ≤ cap) (hsz : cur.length = cap) (htk : cur.take ys.length = by8 ys) (hB : Bs w b so xs) (hbp : b ≠ p) (hbv : b ≠ g) (hroom : cap < ys.length + xs.length) (hx0 : xs ≠ []) (hy0 : ys ≠ []) (hlen : ys.length + xs.length < 1000000000000) (hbase : base ≤ w.heap.size) :
    Calls Tryz.prog 262 #[.pointer (some ⟨p,0,none⟩),.slice (some ⟨b,so,none⟩) xs.length c2] w fun e w'=>WrPost w p base (.slice (some ⟨g,0,none⟩) ys.length cap) ys xs e w':=by
  have hf:=hp.free
  have hgp : g ≠ p:=by omega
  have hxl:=List.length_pos_iff.2 hx0
  have hyl:=List.length_pos_iff.2 hy0
  have hpw:=hp.lt
  have hp1 : Blk (w.setCell ⟨p,2,none⟩ (.int .i8 0)) p [.slice (some ⟨g,0,none⟩) ys.length cap,.int .i64 0,.int .i8 0] 83 (0,0):=hp.set
  have hg1 : Blk (w.setCell ⟨p,2,none⟩ (.int .i8 0)) g cur 5 (0,0):=hg.setNe (Ne.symm hgp)
  have hF1 : Fr [p] w (w.setCell ⟨p,2,none⟩ (.int .i8 0)):=Fr.setCell (.inl (by simp)) Fr.refl
  have hs1 : (w.setCell ⟨p,2,none⟩ (.int .i8 0)).heap.size = w.heap.size:=by simp
  have htg:=tryGrowNo (n:=xs.length) hp1 hyc (by omega) (by omega) hroom
  have hgr:=growRow (n:=xs.length) hp1 hg1 hsz hyc (by omega) (by omega) (by omega) (by omega) (by omega) hroom (by rw [htk];exact by8_one ys)
  rw [hs1] at hgr
  have hc2:=hp.cell 2
  have L1:=Lib.hid (And.intro hlen (And.intro hroom (And.intro hsz hbase)))
  clear hlen hp1 hg1 hs1
  go_enter Tryz.func262,Tryz.ntmps262
  go_wp2_with (first
    | go_at_call 265;refine htg.mono ?_;rintro e w2 ⟨rfl,rfl⟩;clear htg
    | go_at_call 266;refine hgr.mono ?_;rintro e w3 ⟨C,cs2,rfl,hB3,hN3,hl3,htk3,hC3,hm3,hF3⟩;have hF03 : Fr [p] w w3:=hF1.trans hF3 (by simp);have hx3:=hB.fr hF03 (by simp [hbp]);have bc3:=hB3.cell 0;have n1 : ¬ C = ys.length:=(by omega);have n2 : ¬ (C : Int) = ys.length:=(by omega);have n3 : (ys.length : Int) + xs.length ≤ C:=(by omega);clear hgr
    | ((with_reducible refine list_bi .copy (fun K hK=>?_));  refine copyB _ _ 76 76 rfl 5 (by kernel_rfl) (by kernel_rfl) _ _ _ _ _ _ _ _ rfl rfl cs2 _ (by exact blkP) xs hx3 (by show _ = min _ _;omega) (by omega) (fun w5 hg5 hf5=>?_);have hB5:=hf5.blk (b:=p) (by exact blkP) (by simp;omega)))
  go_ret2
  obtain ⟨hlen,_,_,hbase⟩:=L1.out
  have hll:=lay_length (cs:=cs2) (off:=ys.length) (xs:=xs) (by omega)
  refine ⟨rfl,.slice (some ⟨w.heap.size,0,none⟩) (ys.length + xs.length) C,⟨⟨0,hB5⟩,⟨by simp [by8_length],.inr ⟨w.heap.size,C,(lay cs2 ys.length xs).toArray,by simp,hbase,hg5,by simp;omega,hm3,by simp;omega,?_⟩⟩,hpb,by simp;omega⟩,.inr (by simp [Value.ownBlock]),?_⟩
  · have:=lay_take (htk3.trans htk) rfl (xs:=xs) (by omega)
    simpa using this
  · exact (hF03.mono (by simp)).trans hf5 (by first|(simp;done)|(simp;omega))
theorem writeNil {w : World} {p base b so c2 : Nat} {xs : List UInt8} {lr : Int} (hp : Blk w p [.slice none 0 0,.int .i64 0,.int .i8 lr] 83 (0,0)) (hpb : p < base)
    (hB : Bs w b so xs) (hbp : b ≠ p) (hx0 : xs ≠ []) (hlen : xs.length ≤ 64) (hbase : base ≤ w.heap.size) :
    Calls Tryz.prog 262 #[.pointer (some ⟨p,0,none⟩),.slice (some ⟨b,so,none⟩) xs.length c2] w fun e w'=>WrPost w p base (.slice none 0 0) [] xs e w':=by
  have hf:=hp.free
  have hxl:=List.length_pos_iff.2 hx0
  have hpw:=hp.lt
  have hp1 : Blk (w.setCell ⟨p,2,none⟩ (.int .i8 0)) p [.slice none 0 0,.int .i64 0,.int .i8 0] 83 (0,0):=hp.set
  have hF1 : Fr [p] w (w.setCell ⟨p,2,none⟩ (.int .i8 0)):=Fr.setCell (.inl (by simp)) Fr.refl
  have hs1 : (w.setCell ⟨p,2,none⟩ (.int .i8 0)).heap.size = w.heap.size:=by simp
  have htg:=tryGrowNo (n:=xs.length) hp1 (Nat.le_refl _) (by omega) (by omega) (by omega)
  have hgr:=growNil (n:=xs.length) hp1 (by omega) (by omega)
  rw [hs1] at hgr
  have hc2:=hp.cell 2
  have n3 : (xs.length : Int) ≤ 64:=by omega
  clear hp1 hs1
  go_enter Tryz.func262,Tryz.ntmps262
  go_wp2_with (first
    | go_at_call 265;refine htg.mono ?_;rintro e w2 ⟨rfl,rfl⟩;clear htg
    | go_at_call 266;refine hgr.mono ?_;rintro e w3 ⟨rfl,hB3,hN3,hF3⟩;have hF03 : Fr [p] w w3:=hF1.trans hF3 (by simp);have hx3:=hB.fr hF03 (by simp [hbp]);have bc3:=hB3.cell 0;clear hgr
    | ((with_reducible refine list_bi .copy (fun K hK=>?_));  refine copyB _ _ 76 76 rfl 5 (by kernel_rfl) (by kernel_rfl) _ _ _ _ _ _ _ _ rfl rfl (List.replicate 64 (.int .u8 0)) _ (by exact blkP) xs hx3 (by show _ = min _ _;omega) (by simp;omega) (fun w5 hg5 hf5=>?_);have hB5:=hf5.blk (b:=p) (by exact blkP) (by simp;omega)))
  go_ret2
  have hll:=lay_length (cs:=List.replicate 64 (Value.int .u8 0)) (off:=0) (xs:=xs) (by simp;omega)
  refine ⟨rfl,.slice (some ⟨w.heap.size,0,none⟩) xs.length 64,⟨⟨0,hB5⟩,⟨by simp [by8_length],.inr ⟨w.heap.size,64,(lay (List.replicate 64 (Value.int .u8 0)) 0 xs).toArray,by simp,hbase,hg5,by simp;omega,by unfold maxLen;omega,by simpa using hll,?_⟩⟩,hpb,by simp;omega⟩,.inr (by simp [Value.ownBlock]),?_⟩
  · have:=lay_take (cs:=List.replicate 64 (Value.int .u8 0)) (ys:=[]) (by simp [by8]) rfl (xs:=xs) (by simp;omega)
    simpa using this
  · exact (hF03.mono (by simp)).trans hf5 (by first|(simp;done)|(simp;omega))
theorem bufWrite {w : World} {p base b so c2 : Nat} {v : Value} {ys xs : List UInt8} (hBuf : Buf w p base v ys) (hB : Bs w b so xs) (hx : xs ≠ []) (hbp : b ≠ p) (hbv : v.ownBlock ≠ some b) (hfirst : ys = [] → v = .slice none 0 0 ∧ xs.length ≤ 64) (hlen : ys.length + xs.length < 1000000000000) (hbase : base ≤ w.heap.size) :
    Calls Tryz.prog 262 #[.pointer (some ⟨p,0,none⟩),.slice (some ⟨b,so,none⟩) xs.length c2] w fun e w'=>WrPost w p base v ys xs e w':=by
  obtain ⟨⟨lr,hp⟩,⟨_,own⟩,hpb,_⟩:=hBuf
  rcases own with ⟨rfl,h0⟩|⟨g,cap,cur,rfl,hb,hg,hn,hm,hsz,htk⟩
  · have e : ys = []:=List.length_eq_zero_iff.1 h0
    subst e
    exact writeNil hp hpb hB hbp hx (hfirst rfl).2 hbase
  · have hg' : Blk w g cur.toList 5 (0,0):=hg
    have hbg : b ≠ g:=fun e=>hbv (by simp [Value.ownBlock,e])
    simp only [Nat.mul_one] at hsz htk
    by_cases hr : ys.length + xs.length ≤ cap
    · exact writeRoom hp hpb hb hg' hm (by simpa using hsz) htk hB hbp hbg hr hx hlen
    · refine writeGrow hp hpb hb hg' hn (by simpa using hsz) htk hB hbp hbg (by omega) hx (fun e=>?_) hlen hbase
      have:=(hfirst e).1
      cases this
end Go.Proofs.Wx
