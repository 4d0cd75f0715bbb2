import Derived.Test.YtdokbceiganhdaaGreatDoorM8
import Derived.Test.YtdokbceiganhdaaGreatDoorM14
import Derived.Test.YtdokbceiganhdaaGreatDoorM15
import Derived.Test.YtdokbceiganhdaaGreatDoorM37
set_option maxRecDepth 100000
set_option maxHeartbeats 1000000
set_option linter.unusedVariables false
set_option linter.unusedSimpArgs false
set_option linter.deprecated false
set_option linter.all false
set_option linter.unusedSectionVars false
namespace Go.Proofs.Wx
open Go Go.RowKit
abbrev oOrS0 : List (Nat × Cls):=[(0,.look),(1,.free),(2,.free)]
abbrev oOrS1 : List (Nat × Cls):=[(0,.free),(1,.free),(2,.free),(3,.look),(4,.free),(5,.free),(6,.free),(7,.free),(8,.look),(9,.free),(10,.free),(11,.act),(12,.free),(13,.free),(14,.free),(15,.free),(16,.free)]
abbrev oOrS2 : List (Nat × Cls):=[(0,.free),(1,.free),(2,.free),(3,.look),(4,.free),(5,.free),(6,.free),(7,.look),(8,.free),(9,.free)]
theorem readAtC {w : World} {r sb i j : Nat} {xs : List UInt8} (h : Rdr w r sb xs i)
    (pb po pl pc : Nat) (cs : List Value) (T : TypeId) (hp : Blk w pb cs T (0,0)) (hpl : po + pl ≤ cs.length) (hpc : pl < 1000000000000) (hpr : pb ≠ r) (hps : pb ≠ sb) (hj : j + pl ≤ xs.length) (h0 : 0 < pl) :
    Calls Tryz.prog 436 #[.pointer (some ⟨r,0,none⟩),.slice (some ⟨pb,po,none⟩) pl pc,.int .i64 j] w fun e w' =>
      e = .returned (.tuple #[.int .i64 pl,.nilIface]) ∧ Rdr w' r sb xs i ∧ Blk w' pb (lay cs po ((xs.drop j).take pl)) T (0,0) ∧ Fr [pb] w w':=by
  obtain ⟨so,sc,pr,hB,hne,hS,hl,hl2,hi2,hg⟩:=h
  have hc:=hB.cells
  have hf:=hB.free
  have hne':=Ne.symm hne
  have hX:=(hS.drop j).take pl
  have hXl : ((xs.drop j).take pl).length = pl:=by simp;omega
  generalize (xs.drop j).take pl = X at *
  have hjz : (j : Int) < (xs.length : Int):=by omega
  have hjs : ¬ sc = j:=by omega
  have hjl : (j : Int) ≤ 1000000000000:=by omega
  have hmin : Nat.min (xs.length - j) pl = pl:=Nat.min_eq_right (by omega)
  have HL:=Lib.hid (And.intro hXl hmin)
  clear hXl hmin
  go_enter Tryz.func436,Tryz.ntmps436
  go_wp2_with (first
    | (with_reducible refine list_bi .copy (fun K hK=>?_);  refine copyB _ _ 76 76 rfl 5 (by kernel_rfl) (by kernel_rfl) _ _ _ _ _ _ _ _ rfl rfl cs T (by exact blkP) X (hX.fr (S:=[]) (by exact frP) (by simp)) (by rw [HL.out.1];exact HL.out.2.symm) (by have:=HL.out.1;omega) (fun w1 hb1 hF1=>?_);rw [HL.out.1])
    | (refine wre 4 oOrS0 ?_)
    | (with_reducible refine wEI ?_;(first|(refine wEN ?_;skip)|(refine wEF rfl (fun K hK=>?_);go_simp)|(refine wEL rfl rfl (fun K hK=>?_);go_simp)|(refine wER rfl (fun K hK=>?_);go_simp)|(refine wEM rfl (fun K hK=>?_);go_simp;try refine ⟨_,_,⟨rfl,rfl⟩,?_⟩)|(refine wpE_growp rfl rfl (fun K hK=>?_);simp only [List.getElem_toArray,List.getElem_cons_succ,List.getElem_cons_zero];(first|(with_reducible refine op_bi .copy ?_;  refine copyB _ _ 76 76 rfl 5 (by kernel_rfl) (by kernel_rfl) _ _ _ _ _ _ _ _ rfl rfl cs T (by exact blkP) X (hX.fr (S:=[]) (by exact frP) (by simp)) (by rw [HL.out.1];exact HL.out.2.symm) (by have:=HL.out.1;omega) (fun w1 hb1 hF1=>?_);rw [HL.out.1])))|(refine wEG rfl (fun K hK=>?_);go_simp)|(refine wpE_actp rfl rfl (fun K hK=>?_);simp only [List.getElem_toArray,List.getElem_cons_succ,List.getElem_cons_zero];(first|(with_reducible refine op_bi .copy ?_;  refine copyB _ _ 76 76 rfl 5 (by kernel_rfl) (by kernel_rfl) _ _ _ _ _ _ _ _ rfl rfl cs T (by exact blkP) X (hX.fr (S:=[]) (by exact frP) (by simp)) (by rw [HL.out.1];exact HL.out.2.symm) (by have:=HL.out.1;omega) (fun w1 hb1 hF1=>?_);rw [HL.out.1])))|(refine wEA rfl (fun K hK=>?_);go_simp))))
  go_ret2
  exact ⟨rfl,⟨so,sc,pr,hF1.blk hB (by simp;exact Ne.symm hpr),hne,hS.fr hF1 (by simp;exact Ne.symm hps),hl,hl2,hi2,hg⟩,hb1,hF1⟩
abbrev tOR : TypeId:=281
/-- It stands at i of the bytes from base on. -/
def OrsI (o r sb base : Nat) (fs : List UInt8) (w : World) (i : Nat) : Prop :=
  (∃ b,Blk w o [.iface 74 (.pointer (some ⟨r,0,none⟩)),.int .i64 base,.int .i64 (base + i : Nat),.int .u8 b] 284 (0,0)) ∧ ∃ j,Rdr w r sb fs j
@[go_sem] theorem ta_or_byteReader (a : Addr) (w : World) : (Instr.typeAssert (.iface tOR (.pointer (some a))) 98 253 true).run Tryz.prog w = .ok (.tuple #[.iface tOR (.pointer (some a)),.bool true]) w:=by kernel_rfl
@[go_sem] theorem ta_or_byteReadSeeker (a : Addr) (w : World) : (Instr.typeAssert (.iface tOR (.pointer (some a))) 98 173 true).run Tryz.prog w = .ok (.tuple #[.iface tOR (.pointer (some a)),.bool true]) w:=by kernel_rfl
@[go_sem] theorem ahead_bytes_Reader_ReadAt (a : Addr) (w : World) : (nilAhead 615 74 (.pointer (some a)) "ReadAt").run Tryz.prog w = .ok (some false) w := by kernel_rfl
@[go_sem] theorem meth_bytes_Reader_ReadAt (a : Addr) (w : World) : (method 615 74 (.pointer (some a)) "ReadAt").run Tryz.prog w = .ok (436, .pointer (some a)) w := by kernel_rfl
section
variable {o r sb base : Nat} {fs : List UInt8}
theorem OrsI.fr {w w' : World} {S : List Nat} {i : Nat} (h : OrsI o r sb base fs w i) (hf : Fr S w w') (hS : ∀ k ∈ S,k ∉ [o,r,sb]) : OrsI o r sb base fs w' i:=by
  obtain ⟨⟨b,h1⟩,j,h2⟩:=h
  exact ⟨⟨b,hf.blk h1 (fun hm=>hS _ hm (by simp))⟩,j,h2.fr hf (fun hm=>hS _ hm (by simp)) (fun hm=>hS _ hm (by simp))⟩
theorem OrsI.lt {w : World} {i : Nat} (h : OrsI o r sb base fs w i) : o < w.heap.size ∧ r < w.heap.size ∧ sb < w.heap.size:=by
  obtain ⟨⟨b,h1⟩,j,h2⟩:=h
  exact ⟨h1.lt,h2.lt.1,h2.lt.2⟩
theorem orsRead {w : World} {i : Nat} (hor : o ≠ r) (hos : o ≠ sb) (hfs : fs.length < 1000000000) (h : OrsI o r sb base fs w i)
    (pb po pl pc : Nat) (cs : List Value) (T : TypeId) (hp : Blk w pb cs T (0,0)) (hpl : po + pl ≤ cs.length) (hpc : pl < 1000000000000) (hD : pb ∉ [o,r,sb]) (hi : i + pl ≤ (fs.drop base).length) (h0 : 0 < pl) :
    Calls Tryz.prog 396 #[.pointer (some ⟨o,0,none⟩),.slice (some ⟨pb,po,none⟩) pl pc] w fun e w' =>
      e = .returned (.tuple #[.int .i64 pl,.nilIface]) ∧ OrsI o r sb base fs w' (i + pl) ∧ Blk w' pb (lay cs po (((fs.drop base).drop i).take pl)) T (0,0) ∧ Fr [pb,o] w w':=by
  obtain ⟨⟨b,hB⟩,j,hR⟩:=h
  have hbl : base + i + pl ≤ fs.length:=by simp at hi;omega
  simp only [List.mem_cons,List.not_mem_nil,or_false,not_or] at hD
  have hra:=fun w' (hF : Fr [] w w')=>readAtC (j:=base + i) (hR.fr hF (by simp) (by simp)) pb po pl pc cs T (hF.blk hp (by simp)) hpl hpc hD.2.1 hD.2.2 hbl h0
  simp only [← List.drop_drop] at hra
  have hc:=hB.cells
  obtain ⟨q,hq⟩ : ∃ q,q = base + i:=⟨_,rfl⟩
  simp only [← hq] at hra hc
  have hqz : (q : Int) ≤ 1000000000:=by omega
  have hpz : (pl : Int) ≤ 1000000000:=by omega
  have H:=Lib.hid (And.intro hB hq)
  clear hB hq hi hbl
  go_enter Tryz.func396,Tryz.ntmps396
  go_wp2_with (first
    | go_at_call 436;refine (hra _ (by exact frP)).mono ?_;rintro e w1 ⟨rfl,hR1,hb1,hF1'⟩;clear hc;have hF1:=Fr.trans (w:=w) (S:=[pb]) (by exact frP) hF1' (fun k hk _=>hk);clear hF1';have hO1:=hF1.blk H.out.1 (by simp;exact Ne.symm hD.1);rw [← H.out.2] at hO1;have oc1:=hO1.cells;have of1:=hO1.free;have H1:=Lib.hid (And.intro hR1 (And.intro hb1 (And.intro hF1 hO1)));clear hR1 hb1 hF1 hO1
    | (refine wre 1 oOrS1 ?_)
    | (with_reducible refine wEI ?_;(first|(refine wEN ?_;skip)|(refine wEF rfl (fun K hK=>?_);go_simp)|(refine wEL rfl rfl (fun K hK=>?_);go_simp)|(refine wER rfl (fun K hK=>?_);go_simp)|(refine wEM rfl (fun K hK=>?_);go_simp;try refine ⟨_,_,⟨rfl,rfl⟩,?_⟩)|(refine wEG rfl (fun K hK=>?_);go_simp)|(refine wEA rfl (fun K hK=>?_);go_simp))))
  go_ret2
  obtain ⟨hR1,hb1,hF1,hO1⟩:=H1.out
  have hFS : Fr [o] w1 (w1.setCell ⟨o,2,none⟩ (.int .i64 ((q : Int) + pl))):=Fr.setCell (by simp) Fr.refl
  refine ⟨rfl,⟨⟨b,Blk.conv hO1.set (by have:=H.out.2;simp;omega)⟩,j,hR1.fr hFS (by simp;exact Ne.symm hor) (by simp;exact Ne.symm hos)⟩,hFS.blk hb1 (by simp;exact hD.1),(hF1.mono (by simp)).trans hFS (by simp)⟩
theorem orsReadOwn {w : World} {i : Nat} (hor : o ≠ r) (hos : o ≠ sb) (hfs : fs.length < 1000000000) (h : OrsI o r sb base fs w i) (hi : base + i < fs.length) :
    Calls Tryz.prog 396 #[.pointer (some ⟨o,0,none⟩),.slice (some ⟨o,3,none⟩) 1 1] w fun e w' =>
      e = .returned (.tuple #[.int .i64 1,.nilIface]) ∧ Blk w' o [.iface 74 (.pointer (some ⟨r,0,none⟩)),.int .i64 base,.int .i64 (base + (i + 1) : Nat),.int .u8 (fs[base + i].toNat : Nat)] 284 (0,0) ∧ (∃ j,Rdr w' r sb fs j) ∧ Fr [o] w w':=by
  obtain ⟨⟨b,hB⟩,j,hR⟩:=h
  have hra:=fun w' (hF : Fr [] w w')=>readAtC (j:=base + i) (hR.fr hF (by simp) (by simp)) o 3 1 1 _ _ (hF.blk hB (by simp)) (by simp) (by omega) hor hos (by omega) (by omega)
  have ht : (fs.drop (base + i)).take 1 = [fs[base + i]]:=by rw [List.drop_eq_getElem_cons hi];rfl
  simp only [ht] at hra
  have hc:=hB.cells
  obtain ⟨x,hx⟩ : ∃ x,x = fs[base + i]:=⟨_,rfl⟩
  simp only [← hx] at hra ⊢
  obtain ⟨q,hq⟩ : ∃ q,q = base + i:=⟨_,rfl⟩
  simp only [← hq] at hra hc
  have hqz : (q : Int) ≤ 1000000000:=by omega
  have H:=Lib.hid hq
  clear hB hq hi ht hx
  go_enter Tryz.func396,Tryz.ntmps396
  go_wp2_with (first
    | go_at_call 436;refine (hra _ (by exact frP)).mono ?_;rintro e w1 ⟨rfl,hR1,hb1,hF1'⟩;clear hc;have hF1:=Fr.trans (w:=w) (S:=[o]) (by exact frP) hF1' (fun k hk _=>hk);clear hF1';have hO1 : Blk w1 o [.iface 74 (.pointer (some ⟨r,0,none⟩)),.int .i64 base,.int .i64 (q : Nat),.int .u8 (x.toNat : Nat)] 284 (0,0):=hb1.conv (by simp [lay,by8]);have oc1:=hO1.cells;have of1:=hO1.free;have H1:=Lib.hid (And.intro hR1 (And.intro hF1 hO1));clear hR1 hb1 hF1 hO1
    | (refine wre 1 oOrS1 ?_)
    | (with_reducible refine wEI ?_;(first|(refine wEN ?_;skip)|(refine wEF rfl (fun K hK=>?_);go_simp)|(refine wEL rfl rfl (fun K hK=>?_);go_simp)|(refine wER rfl (fun K hK=>?_);go_simp)|(refine wEM rfl (fun K hK=>?_);go_simp;try refine ⟨_,_,⟨rfl,rfl⟩,?_⟩)|(refine wEG rfl (fun K hK=>?_);go_simp)|(refine wEA rfl (fun K hK=>?_);go_simp))))
  go_ret2
  obtain ⟨hR1,hF1,hO1⟩:=H1.out
  have hFS : Fr [o] w1 (w1.setCell ⟨o,2,none⟩ (.int .i64 ((q : Int) + 1))):=Fr.setCell (by simp) Fr.refl
  exact ⟨rfl,Blk.conv hO1.set (by have:=H.out;simp;omega),⟨j,hR1.fr hFS (by simp;exact Ne.symm hor) (by simp;exact Ne.symm hos)⟩,hF1.trans hFS (by simp)⟩
theorem orsReadByte {w : World} {i : Nat} (hor : o ≠ r) (hos : o ≠ sb) (hfs : fs.length < 1000000000) (h : OrsI o r sb base fs w i) (hi : i < (fs.drop base).length) :
    Calls Tryz.prog 398 #[.pointer (some ⟨o,0,none⟩)] w fun e w' =>
      e = .returned (.tuple #[.int .u8 ((fs.drop base)[i].toNat : Nat),.nilIface]) ∧ OrsI o r sb base fs w' (i + 1) ∧ Fr [o] w w':=by
  have hi2 : base + i < fs.length:=by simp at hi;omega
  have hc:=orsReadOwn hor hos hfs h hi2
  have hx : (fs.drop base)[i] = fs[base + i]:=by simp
  rw [hx]
  generalize fs[base + i] = x at *
  obtain ⟨⟨b,hB⟩,j,hR⟩:=h
  have hoc:=hB.cells
  clear hx hi hi2 hB
  go_enter Tryz.func398,Tryz.ntmps398
  go_wp2_with (first
    | go_at_call 396;refine hc.mono ?_;rintro e w1 ⟨rfl,hO1,hR1,hF1⟩;clear hoc;have oc1:=hO1.cells)
  go_ret2
  exact ⟨rfl,⟨⟨_,hO1⟩,hR1⟩,hF1⟩
theorem orsSrc (hor : o ≠ r) (hos : o ≠ sb) (hfs : fs.length < 1000000000) : Src tOR ⟨o,0,none⟩ [o] [o,r,sb] (fs.drop base) (OrsI o r sb base fs) 396 where
  ahead _:=by kernel_rfl
  meth _:=by kernel_rfl
  enter _ _:=by kernel_rfl
  call w i pb po pl pc cs T' h hp hpl hpc hD hi h0:=(orsRead hor hos hfs h pb po pl pc cs T' hp hpl hpc hD hi h0)
  fr w w' S' i h hF hn:=h.fr hF hn
  lt w i h k hk:=by have:=h.lt;simp at hk;rcases hk with rfl|rfl|rfl <;> omega
  sub k hk:=by simp at hk;simp [hk]
theorem orsBSrc (hor : o ≠ r) (hos : o ≠ sb) (hfs : fs.length < 1000000000) : BSrc tOR ⟨o,0,none⟩ [o] (fs.drop base) (OrsI o r sb base fs) 398 where
  ahead _:=by kernel_rfl
  meth _:=by kernel_rfl
  enter _:=by kernel_rfl
  call w i hi h:=orsReadByte hor hos hfs h hi
end
theorem orsToByteReader (a : Addr) (w : World) : Calls Tryz.prog 135 #[.iface tOR (.pointer (some a))] w fun e w'=>e = .returned (.iface tOR (.pointer (some a))) ∧ w = w':=by
  go_enter Tryz.func135,Tryz.ntmps135
  go_wp2
  go_ret
  exact ⟨rfl,rfl⟩
theorem orsToByteReadSeeker (a : Addr) (w : World) : Calls Tryz.prog 87 #[.iface tOR (.pointer (some a))] w fun e w'=>e = .returned (.iface tOR (.pointer (some a))) ∧ w = w':=by
  go_enter Tryz.func87,Tryz.ntmps87
  go_wp2
  go_ret
  exact ⟨rfl,rfl⟩
theorem orsPos {w : World} {o base q i : Nat} {rv bv : Value} (hB : Blk w o [rv,.int .i64 base,.int .i64 q,bv] 284 (0,0)) (hqb : (q : Int) - (base : Int) = (i : Int)) (hi : (i : Int) ≤ 1000000000) :
    Calls Tryz.prog 400 #[.pointer (some ⟨o,0,none⟩)] w fun e w'=>e = .returned (.int .i64 i) ∧ Fr [] w w':=by
  have hc:=hB.cells
  have HW : Hid (IntKind.i64.wrap (i : Int) = (i : Int)):=by show _ = _;simp [IntKind.wrap,IntKind.bits,IntKind.signed];omega
  go_enter Tryz.func400,Tryz.ntmps400
  go_wp2_with (first
    | (refine wre 1 oOrS2 ?_)
    | (with_reducible refine wEI ?_;(first|(refine wEN ?_;skip)|(refine wEF rfl (fun K hK=>?_);go_simp)|(refine wEL rfl rfl (fun K hK=>?_);go_simp)|(refine wER rfl (fun K hK=>?_);go_simp)|(refine wEM rfl (fun K hK=>?_);go_simp;try refine ⟨_,_,⟨rfl,rfl⟩,?_⟩)|(refine wEG rfl (fun K hK=>?_);go_simp)|(refine wEA rfl (fun K hK=>?_);go_simp))))
  go_ret
  exact ⟨by show Ending.returned (.int .i64 (IntKind.i64.wrap (i : Int))) = _;rw [HW.out],by exact frP⟩
/-- Seek(0, io.SeekCurrent): where it stands. -/
theorem orsSeek0 {o r sb base : Nat} {fs : List UInt8} {w : World} {i : Nat} (hor : o ≠ r) (hos : o ≠ sb) (h : OrsI o r sb base fs w i) (hb : base + i < 1000000000) :
    Calls Tryz.prog 399 #[.pointer (some ⟨o,0,none⟩),.int .i64 0,.int .i64 1] w fun e w'=>e = .returned (.tuple #[.int .i64 i,.nilIface]) ∧ OrsI o r sb base fs w' i ∧ Fr [o] w w':=by
  obtain ⟨⟨b,hB⟩,j,hR⟩:=h
  have hc:=hB.cells
  have hf:=hB.free
  obtain ⟨q,hq⟩ : ∃ q,q = base + i:=⟨_,rfl⟩
  rw [← hq] at hc
  have hqz : (q : Int) ≤ 1000000000:=by omega
  have hqb : (q : Int) - (base : Int) = (i : Int):=by omega
  have hiz : (i : Int) ≤ 1000000000:=by omega
  have H:=Lib.hid (And.intro hB hq)
  clear hB hq
  go_enter Tryz.func399,Tryz.ntmps399
  go_wp2_with (first
    | go_at_call 400;have hB1 : Blk (w.setCell ⟨o,2,none⟩ (.int .i64 (q : Nat))) o [.iface 74 (.pointer (some ⟨r,0,none⟩)),.int .i64 base,.int .i64 (q : Nat),.int .u8 b] 284 (0,0):=Blk.conv (Blk.set H.out.1) (by rw [← H.out.2];rfl);refine (orsPos hB1 hqb hiz).mono ?_;rintro e w2 ⟨rfl,hF2⟩;have H2:=Lib.hid (And.intro hB1 hF2))
  go_ret2
  obtain ⟨hB1,hF2⟩:=H2.out
  have hFS : Fr [o] w (w.setCell ⟨o,2,none⟩ (.int .i64 (q : Nat))):=Fr.setCell (by simp) Fr.refl
  exact ⟨rfl,⟨⟨b,hF2.blk (Blk.conv hB1 (by rw [H.out.2])) (by simp)⟩,j,(hR.fr hFS (by simp;exact Ne.symm hor) (by simp;exact Ne.symm hos)).fr hF2 (by simp) (by simp)⟩,hFS.trans hF2 (by simp)⟩
/-- io.SectionReader over a bytes.Reader. -/
def SecI (s r sb base n : Nat) (fs : List UInt8) (w : World) (i : Nat) : Prop :=
  Blk w s [.iface 74 (.pointer (some ⟨r,0,none⟩)),.int .i64 base,.int .i64 (base + i : Nat),.int .i64 (base + n : Nat),.int .i64 n] 287 (0,0) ∧ ∃ j,Rdr w r sb fs j
abbrev tSR : TypeId:=221
theorem secRead {s r sb base n : Nat} {fs : List UInt8} {w : World} {i : Nat} (hsr : s ≠ r) (hss : s ≠ sb) (hfs : fs.length < 1000000000) (hn : base + n ≤ fs.length) (h : SecI s r sb base n fs w i)
    (pb po pl pc : Nat) (cs : List Value) (T : TypeId) (hp : Blk w pb cs T (0,0)) (hpl : po + pl ≤ cs.length) (hpc : pl < 1000000000000) (hD : pb ∉ [s,r,sb]) (hi : i + pl ≤ n) (h0 : 0 < pl) :
    Calls Tryz.prog 360 #[.pointer (some ⟨s,0,none⟩),.slice (some ⟨pb,po,none⟩) pl pc] w fun e w' =>
      e = .returned (.tuple #[.int .i64 pl,.nilIface]) ∧ SecI s r sb base n fs w' (i + pl) ∧ Blk w' pb (lay cs po ((fs.drop (base + i)).take pl)) T (0,0) ∧ Fr [pb,s] w w':=by
  obtain ⟨hB,j,hR⟩:=h
  simp only [List.mem_cons,List.not_mem_nil,or_false,not_or] at hD
  have hra:=fun w' (hF : Fr [] w w')=>readAtC (j:=base + i) (hR.fr hF (by simp) (by simp)) pb po pl pc cs T (hF.blk hp (by simp)) hpl hpc hD.2.1 hD.2.2 (by omega) h0
  have hc:=hB.cells
  obtain ⟨q,hq⟩ : ∃ q,q = base + i:=⟨_,rfl⟩
  obtain ⟨l,hl⟩ : ∃ l,l = base + n:=⟨_,rfl⟩
  simp only [← hq] at hra hc ⊢
  rw [← hl] at hc
  have hqz : (q : Int) ≤ 1000000000:=by omega
  have hpz : (pl : Int) ≤ 1000000000:=by omega
  have hlz : (l : Int) ≤ 1000000000:=by omega
  have hql : (q : Int) < (l : Int):=by omega
  have hqp : ¬ (l : Int) - (q : Int) < (pl : Int):=by omega
  have H:=Lib.hid (And.intro hB (And.intro hq hl))
  clear hB hq hl hi hn
  go_enter Tryz.func360,Tryz.ntmps360
  go_wp2_with (first
    | go_at_call 436;refine (hra _ (by exact frP)).mono ?_;rintro e w1 ⟨rfl,hR1,hb1,hF1'⟩;clear hc;have hF1:=Fr.trans (w:=w) (S:=[pb]) (by exact frP) hF1' (fun k hk _=>hk);clear hF1';have hO1:=hF1.blk H.out.1 (by simp;exact Ne.symm hD.1);rw [← H.out.2.1,← H.out.2.2] at hO1;have oc1:=hO1.cells;have of1:=hO1.free;have H1:=Lib.hid (And.intro hR1 (And.intro hb1 (And.intro hF1 hO1)));clear hR1 hb1 hF1 hO1
    | (refine wre 1 [(0,.free),(1,.free),(2,.free),(3,.look),(4,.free),(5,.free),(6,.free),(7,.look),(8,.free)] ?_)
    | (refine wre 2 oOrS0 ?_)
    | (refine wre 3 oOrS2 ?_)
    | (refine wre 6 oOrS1 ?_)
    | (with_reducible refine wEI ?_;(first|(refine wEN ?_;skip)|(refine wEF rfl (fun K hK=>?_);go_simp)|(refine wEL rfl rfl (fun K hK=>?_);go_simp)|(refine wER rfl (fun K hK=>?_);go_simp)|(refine wEM rfl (fun K hK=>?_);go_simp;try refine ⟨_,_,⟨rfl,rfl⟩,?_⟩)|(refine wEG rfl (fun K hK=>?_);go_simp)|(refine wEA rfl (fun K hK=>?_);go_simp))))
  go_ret2
  obtain ⟨hR1,hb1,hF1,hO1⟩:=H1.out
  have hFS : Fr [s] w1 (w1.setCell ⟨s,2,none⟩ (.int .i64 ((q : Int) + pl))):=Fr.setCell (by simp) Fr.refl
  refine ⟨rfl,⟨Blk.conv hO1.set (by have:=H.out.2;simp;omega),j,hR1.fr hFS (by simp;exact Ne.symm hsr) (by simp;exact Ne.symm hss)⟩,hFS.blk hb1 (by simp;exact hD.1),(hF1.mono (by simp)).trans hFS (by simp)⟩
theorem secSrc {s r sb base n : Nat} {fs : List UInt8} (hsr : s ≠ r) (hss : s ≠ sb) (hfs : fs.length < 1000000000) (hn : base + n ≤ fs.length) : Src tSR ⟨s,0,none⟩ [s] [s,r,sb] ((fs.drop base).take n) (SecI s r sb base n fs) 360 where
  ahead _:=by kernel_rfl
  meth _:=by kernel_rfl
  enter _ _:=by kernel_rfl
  call w i pb po pl pc cs T' h hp hpl hpc hD hi h0:=by
    have hin : i + pl ≤ n:=by simp at hi;omega
    have e : (((fs.drop base).take n).drop i).take pl = (fs.drop (base + i)).take pl:=by
      rw [List.drop_take,List.drop_drop,List.take_take,Nat.min_eq_left (by omega)]
    rw [e]
    exact secRead hsr hss hfs hn h pb po pl pc cs T' hp hpl hpc hD hin h0
  fr w w' S' i h hF hn:=by
    obtain ⟨h1,j,h2⟩:=h
    exact ⟨hF.blk h1 (fun hm=>hn _ hm (by simp)),j,h2.fr hF (fun hm=>hn _ hm (by simp)) (fun hm=>hn _ hm (by simp))⟩
  lt w i h k hk:=by obtain ⟨h1,j,h2⟩:=h;have:=h1.lt;have:=h2.lt;simp at hk;rcases hk with rfl|rfl|rfl <;> omega
  sub k hk:=by simp at hk;simp [hk]
end Go.Proofs.Wx

namespace Go.Proofs.Wx
open Go Go.RowKit
@[go_sem] theorem ta_bytes_ors (a : Addr) (w : World) : (Instr.typeAssert (.iface 74 (.pointer (some a))) 138 tOR true).run Tryz.prog w = .ok (.tuple #[.pointer none,.bool false]) w:=by kernel_rfl
@[go_sem] theorem ta_bytes_readerAt (a : Addr) (w : World) : (Instr.typeAssert (.iface 74 (.pointer (some a))) 131 138 true).run Tryz.prog w = .ok (.tuple #[.iface 74 (.pointer (some a)),.bool true]) w:=by kernel_rfl
abbrev RDI (r : Nat) : Value:=.iface 74 (.pointer (some ⟨r,0,none⟩))
theorem newOrs {w : World} {r sb off i : Nat} {fs : List UInt8} (h : Rdr w r sb fs i) : Calls Tryz.prog 110 #[RDI r,.int .i64 off] w fun e w'=>∃ o,e = .returned (.tuple #[.iface tOR (.pointer (some ⟨o,0,none⟩)),.nilIface]) ∧ w.heap.size ≤ o ∧ OrsI o r sb off fs w' 0 ∧ Fr [] w w':=by
  go_enter Tryz.func110,Tryz.ntmps110
  go_wp2
  go_ret2
  exact ⟨w.heap.size,rfl,Nat.le_refl _,⟨⟨0,Blk.conv Blk.new rfl⟩,i,h.fr (S:=[]) (by exact frP) (by simp) (by simp)⟩,by exact frP⟩
theorem newSec {w : World} {r sb i : Nat} {fs : List UInt8} (h : Rdr w r sb fs i) : Calls Tryz.prog 113 #[RDI r,.int .i64 11,.int .i64 40] w fun e w'=>∃ s,e = .returned (.pointer (some ⟨s,0,none⟩)) ∧ w.heap.size ≤ s ∧ SecI s r sb 11 40 fs w' 0 ∧ Fr [] w w':=by
  go_enter Tryz.func113,Tryz.ntmps113
  go_wp2
  go_ret
  exact ⟨w.heap.size,rfl,Nat.le_refl _,⟨Blk.conv Blk.new rfl,i,h.fr (S:=[]) (by exact frP) (by simp) (by simp)⟩,by exact frP⟩
theorem toReaderAt (r : Nat) (w : World) : Calls Tryz.prog 71 #[RDI r] w fun e w'=>e = .returned (RDI r) ∧ w = w':=by
  go_enter Tryz.func71,Tryz.ntmps71
  go_wp2
  go_ret
  exact ⟨rfl,rfl⟩
end Go.Proofs.Wx

namespace Go.Proofs.Wx
open Go Go.RowKit
/-- A struct is stored into a part of a block. -/
theorem storeAtRow {o : Oper} {a : Act} {w : World} {K : Act → World → Prop} {Q : Exit → Act → World → Prop} (ty : TypeId) (x y : Operand) (ho : o.op = .store ty x y)
    (g off : Nat) (cells : List Value) (hx : a.eval x = .pointer (some ⟨g,off,none⟩)) (hy : a.eval y = .agg cells.toArray) (t : TypeId) (old : List Value) (hg : Blk w g old t (0,0))
    (hi : (Tryz.prog.info? ty).map (·.size) = some cells.length) (hold : off + cells.length ≤ old.length) (h1 : cells.all (·.oneCell') = true)
    (h : ∀ w',Blk w' g (old.take off ++ cells ++ old.drop (off + cells.length)) t (0,0) → Fr [g] w w' → K (a.put o.dst undef) w') : o.wp Tryz.prog a w K Q:=by
  have hst:=storeCells_fr (P:=Tryz.prog) g off t (0,0) cells 0 old.toArray w hg (by simpa using hold) (by simp) (fun v hv=>(List.all_eq_true.1 h1) v hv)
  simp only [Nat.add_zero] at hst
  have hr : (storeVar ty ⟨g,off,none⟩ (.agg cells.toArray)).run Tryz.prog w = .ok () (w.setRow g (old.take off ++ cells ++ old.drop (off + cells.length)).toArray):=by
    cases hq : Tryz.prog.info? ty with
    | none=>simp [hq] at hi
    | some i =>
      have hs : cells.length = i.size:=by simp [hq] at hi;omega
      simp [storeVar,sizeOf,typeInfo,hq,Value.cells,hs]
      simpa [hs] using hst
  unfold Oper.wp execOp
  simp only [ho,hx,hy,Instr.storeAt,Instr.sureAddr,Sem.run_bind,Sem.run_pure,Result.andThen_ok,hr]
  exact h _ (Blk.setRow hg) (Fr.setRow (.inl (by simp)) Fr.refl)
theorem hasIndex {w : World} {a b c d e : Nat} (he : 0 < e) : Calls Tryz.prog 72 #[hdrA a b c d e] w fun r w'=>r = .returned (.bool true) ∧ Fr [] w w':=by
  have hz : ¬ (e : Int) = 0:=by omega
  go_enter Tryz.func72,Tryz.ntmps72
  go_wp2
  go_ret
  exact ⟨by simp;omega,by exact frP⟩
abbrev tRD : TypeId:=144
/-- The cells of a reader behind the version. -/
abbrev rdTl (opts : List Value) : List Value:=.slice none 0 0 :: (opts ++ [.nilIface])
theorem readV2 {w : World} {r sb cr i x y z : Nat} {ver : Value} {tl : List Value} {fs rest : List UInt8} (h : Rdr w r sb fs i) (hC : Blk w cr (.int .u64 0 :: .int .u64 0 :: .int .u64 0 :: .int .u64 0 :: .int .u64 0 :: ver :: RDI r :: tl) tRD (0,0)) (hcr : cr ≠ r) (hcs : cr ≠ sb) (hfs : fs.length < 1000000000)
    (hx : fs.drop 11 = hdrB 0 0 x y z ++ rest) (h51 : 51 ≤ x) (hx9 : x < 1000000000) (hy0 : 0 < y) (hy9 : y < 1000000000) (hz9 : z < 1000000000) :
    Calls Tryz.prog 111 #[.pointer (some ⟨cr,0,none⟩)] w fun e w'=>e = .returned .nilIface ∧ Blk w' cr (.int .u64 0 :: .int .u64 0 :: .int .u64 x :: .int .u64 y :: .int .u64 z :: ver :: RDI r :: tl) tRD (0,0) ∧ (∃ j,Rdr w' r sb fs j) ∧ Fr [cr] w w':=by
  have hlt:=h.lt
  have hcl:=hC.lt
  have hlen : 11 + 40 ≤ fs.length:=by have:=congrArg List.length hx;simp [hdrB_length] at this;omega
  have hx' : ((fs.drop 11).take 40).drop 0 = hdrB 0 0 x y z ++ []:=by rw [hx,List.take_left' (hdrB_length _ _ _ _ _)];simp
  have hhr:=fun (w1 : World) (s : Nat) (hs : w.heap.size ≤ s) (hS : SecI s r sb 11 40 fs w1 0) hC1=>headerReadS (secSrc (s:=s) (r:=r) (sb:=sb) (base:=11) (n:=40) (by omega) (by omega) hfs hlen) hS hx' (by omega) (by omega) h51 hx9 hy0 hy9 hz9 (p:=cr) (Tq:=tRD) (tl:=ver :: RDI r :: tl) hC1 (by simp;exact ⟨by omega,hcr,hcs⟩)
  have hns:=newSec h
  have hcc:=hC.cells
  clear hx hx' hfs hlen
  go_enter Tryz.func111,Tryz.ntmps111
  go_wp2_with (first
    | go_at_call 113;refine hns.mono ?_;rintro e w1 ⟨s,rfl,hs1,hS1,hF1⟩
    | go_at_call 77;refine (hhr w1 s hs1 hS1 (hF1.blk hC (by simp))).mono ?_;rintro e w2 ⟨rfl,hS2,hC2,hF2⟩)
  go_ret
  exact ⟨rfl,hC2,hS2.2,Fr.trans (S:=[cr]) (S':=[cr,s]) (hF1.mono (by simp)) hF2 (by simp;omega)⟩
set_option maxRecDepth 1000000 in
set_option maxHeartbeats 12800000 in
theorem newReaderK {ea : Addr} {w : World} {r sb B b i x y z : Nat} {fs rest rest2 : List UInt8} (h : Rdr w r sb fs i) (hO : OptsAt w B b) (hx0 : fs = pragmaB ++ rest) (hx1 : fs.drop 11 = hdrB 0 0 x y z ++ rest2) (hG : Gl ea w) (hfs : fs.length < 1000000000) (h51 : 51 ≤ x) (hx9 : x < 1000000000) (hy0 : 0 < y) (hy9 : y < 1000000000) (hz9 : z < 1000000000) :
    Calls Tryz.prog 70 #[RDI r,.slice (some ⟨B,0,none⟩) 8 8] w fun e w'=>∃ cr tl,e = .returned (.tuple #[.pointer (some ⟨cr,0,none⟩),.nilIface]) ∧ w.heap.size ≤ cr ∧ Blk w' cr (.int .u64 0 :: .int .u64 0 :: .int .u64 x :: .int .u64 y :: .int .u64 z :: .int .u64 2 :: RDI r :: tl) tRD (0,0) ∧ (∃ j,Rdr w' r sb fs j) ∧ Fr [] w w':=by
  have hlt:=h.lt
  have hgs:=hG.size
  have hao:=fun (w1 : World) (hF : Fr [] w w1)=>applyOptions (hO.fr hF (by simp) (by simp))
  have hno:=fun (w1 : World) (hF : Fr [] w w1)=>newOrs (off:=0) (h.fr hF (by simp) (by simp))
  have hrv:=fun (w1 : World) (o : Nat) (ho : w.heap.size ≤ o) (hF : Fr [] w w1) (hI : OrsI o r sb 0 fs w1 0)=>readVersionS (orsSrc (base:=0) (o:=o) (r:=r) (sb:=sb) (by omega) (by omega) hfs) (orsBSrc (base:=0) (by omega) (by omega) hfs) (orsToByteReader _) hI (hO.fr hF (by simp) (by simp)) (by simpa using hx0) (hG.fr hF (by simp)) (by simp;omega)
  have hv2:=fun (w1 : World) (cr j : Nat) (tl : List Value) (ver : Value) (hc : w.heap.size ≤ cr) (hR : Rdr w1 r sb fs j) hC=>readV2 (cr:=cr) (ver:=ver) (tl:=tl) hR hC (by omega) (by omega) hfs hx1 h51 hx9 hy0 hy9 hz9
  clear hx0 hx1 hfs hx9 hy0 hy9 hz9 h51
  go_enter Tryz.func70,Tryz.ntmps70
  go_wp2_with (first
    | go_at_call 49;refine (hao _ (by exact frP)).mono ?_;rintro e w1 ⟨rfl,hF1⟩;have hZ1 : Blk w1 w.heap.size [.int .u64 0,.int .u64 0,.int .u64 0,.int .u64 0,.int .u64 0,.int .u64 0,RDI r,.slice none 0 0,.int .u64 0,.int .u64 0,.int .u64 0,.bool false,.int .u64 0,.bool false,.bool false,.bool false,.int .u64 0,.bool false,.bool false,.int .u64 0,.int .u64 0,.nilIface] tRD (0,0):=hF1.blk (Blk.newAt rfl) (by simp);have hF01 : Fr [] w w1:=Fr.trans (S:=[]) (by exact frP) hF1 (by simp);clear hF1
    | (with_reducible refine list_store 101 (fun K hK=>?_);  refine storeAtRow 101 _ _ rfl w.heap.size 8 optL rfl rfl tRD _ hZ1 (by kernel_rfl) (by simp) (by simp [Value.oneCell']) (fun w2 hZ2 hF2=>?_);have hZ2 : Blk w2 w.heap.size (.int .u64 0 :: .int .u64 0 :: .int .u64 0 :: .int .u64 0 :: .int .u64 0 :: .int .u64 0 :: RDI r :: rdTl optL) tRD (0,0):=hZ2.conv rfl;have hF02 : Fr [] w w2:=hF01.trans hF2 (by simp);clear hF01 hF2 hZ1)
    | go_at_call 110;refine (hno _ hF02).mono ?_;rintro e w3 ⟨o,rfl,ho,hI3,hF3⟩;have hol : w.heap.size < o:=Nat.lt_of_lt_of_le hZ2.lt ho;have ho' : w.heap.size ≤ o:=Nat.le_trans hF02.size ho;have hF03 : Fr [] w w3:=hF02.trans hF3 (by simp);have hZ3:=hF3.blk hZ2 (by simp);clear hF3 hZ2 hF02
    | go_at_call 69;refine (hrv _ o ho' hF03 hI3).mono ?_;rintro e w4 ⟨rfl,hI4,hF4⟩;have hZ4:=hF4.blk hZ3 (by simp;omega);have hF04 : Fr [] w w4:=hF03.trans hF4 (by simp;omega);obtain ⟨j4,hR4⟩:=hI4.2;have hc4:=hZ4.cells;have hf4:=hZ4.free;clear hF4 hF03 hZ3 hI4 hI3
    | go_at_call 111;have hZ5 : Blk (w4.setCell ⟨w.heap.size,5,none⟩ (.int .u64 2)) w.heap.size (.int .u64 0 :: .int .u64 0 :: .int .u64 0 :: .int .u64 0 :: .int .u64 0 :: .int .u64 2 :: RDI r :: rdTl optL) tRD (0,0):=(by exact blkP);have hF45 : Fr [w.heap.size] w4 (w4.setCell ⟨w.heap.size,5,none⟩ (.int .u64 2)):=(by exact frP);(with_reducible refine (hv2 _ w.heap.size j4 (rdTl optL) (.int .u64 2) (Nat.le_refl _) (hR4.fr hF45 (by simp;omega) (by simp;omega)) hZ5).mono ?_);rintro e w6 ⟨rfl,hZ6,hR6,hF6⟩)
  go_ret2
  exact ⟨w.heap.size,_,rfl,Nat.le_refl _,hZ6,hR6,(hF04.trans hF45 (by simp)).trans hF6 (by simp)⟩
end Go.Proofs.Wx
