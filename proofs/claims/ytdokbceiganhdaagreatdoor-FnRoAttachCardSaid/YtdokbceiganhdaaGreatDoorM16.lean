import Derived.Test.YtdokbceiganhdaaGreatDoorM1
import Derived.Sort.AssemblyPlain
import Derived.Sort.WalkC4
import Derived.Sort.WalkB3
import Derived.Sort.Walk7
import Derived.Sort.WalkA6
import Derived.Sort.Walk13
import Derived.Deep.LoopGhost
set_option maxRecDepth 100000
set_option maxHeartbeats 1000000
set_option linter.unusedVariables false
set_option linter.unusedSimpArgs false
set_option linter.deprecated false
set_option linter.all false
set_option linter.unusedSectionVars false
namespace Go.Proofs.Wx
open Go Go.RowKit Go.Sort
/-- What a sort turns: in which worlds the row holds d; which blocks it lies in. -/
structure St (α : Type) [Inhabited α] where
  S : Array α → World → Prop
  own : List Nat
  fr : ∀ {d w w' X},S d w → Fr X w w' → (∀ k ∈ X,k ∉ own) → S d w'
  lt : ∀ {d w},S d w → ∀ k ∈ own,k < w.heap.size
/-- w has come from w0; the row holds d. -/
def St.At {α : Type} [Inhabited α] (s : St α) (w0 : World) (d : Array α) (w : World) : Prop:=s.S d w ∧ Fr s.own w0 w
section
variable {α : Type} [Inhabited α] {s : St α} {w0 w w' : World} {d d' : Array α} {X : List Nat}
theorem St.At.start (h : s.S d w) : s.At w d w:=⟨h,Fr.refl⟩
theorem St.At.fr (h : s.At w0 d w) (hf : Fr X w w') (hX : ∀ k ∈ X,k ∉ s.own ∧ w0.heap.size ≤ k) : s.At w0 d w' :=
  ⟨s.fr h.1 hf fun k hk=>(hX k hk).1,h.2.trans hf fun k hk hl=>absurd hl (by have:=(hX k hk).2;omega)⟩
theorem St.At.same (h : s.At w0 d w) (hf : Fr [] w w') : s.At w0 d w':=h.fr hf (by simp)
theorem St.At.swap (h : s.At w0 d w) (hs : s.S d' w') (hf : Fr s.own w w') : s.At w0 d' w':=⟨hs,h.2.trans hf fun _ hk _=>hk⟩
theorem St.At.drew (h : s.At w0 d w) : s.At w0 d w.drew:=h.same (Fr.drew Fr.refl)
theorem St.At.drewN {n : Nat} (h : s.At w0 d w) : s.At w0 d (w.drewN n):=h.same (Fr.drewN Fr.refl)
theorem St.At.alloc {o : Obj} (h : s.At w0 d w) : s.At w0 d (w.alloc o):=h.same (Fr.alloc Fr.refl)
/-- A block that came behind w0 is none of the row's, if w0 holds the row. -/
theorem St.At.new {d0 : Array α} (h0 : s.S d0 w0) {k : Nat} (hk : w0.heap.size ≤ k) : k ∉ s.own:=fun hm=>by have:=s.lt h0 k hm;omega
theorem St.At.size (h : s.At w0 d w) : w0.heap.size ≤ w.heap.size:=h.2.size
end
@[go_sem] theorem ahead_recordSet_Less (a : Addr) (m c : Nat) (w : World) : (nilAhead 615 454 (.slice (some a) m c) "Less").run Tryz.prog w = .ok (some false) w := by kernel_rfl
@[go_sem] theorem meth_recordSet_Less (a : Addr) (m c : Nat) (w : World) : (method 615 454 (.slice (some a) m c) "Less").run Tryz.prog w = .ok (429, .slice (some a) m c) w := by kernel_rfl
@[go_sem] theorem ahead_recordSet_Swap (a : Addr) (m c : Nat) (w : World) : (nilAhead 615 454 (.slice (some a) m c) "Swap").run Tryz.prog w = .ok (some false) w := by kernel_rfl
@[go_sem] theorem meth_recordSet_Swap (a : Addr) (m c : Nat) (w : World) : (method 615 454 (.slice (some a) m c) "Swap").run Tryz.prog w = .ok (430, .slice (some a) m c) w := by kernel_rfl
@[go_sem] theorem ahead_recordSet_Len (a : Addr) (m c : Nat) (w : World) : (nilAhead 615 454 (.slice (some a) m c) "Len").run Tryz.prog w = .ok (some false) w := by kernel_rfl
@[go_sem] theorem meth_recordSet_Len (a : Addr) (m c : Nat) (w : World) : (method 615 454 (.slice (some a) m c) "Len").run Tryz.prog w = .ok (428, .slice (some a) m c) w := by kernel_rfl
/-- sort.Sort's data: a recordSet whose methods read and write the row. -/
structure IfS {α : Type} [Inhabited α] (ra : Addr) (rm rc : Nat) (s : St α) (lt : α → α → Bool) (n : Nat) : Prop where
  less : ∀ {d : Array α} {w : World} {i j : Nat},s.S d w → d.size = n → i < n → j < n → Calls Tryz.prog 429 #[.slice (some ra) rm rc,.int .i64 i,.int .i64 j] w fun e w'=>e = .returned (.bool (lt d[i]! d[j]!)) ∧ Fr [] w w'
  swap : ∀ {d : Array α} {w : World} {i j : Nat},s.S d w → d.size = n → i < n → j < n → Calls Tryz.prog 430 #[.slice (some ra) rm rc,.int .i64 i,.int .i64 j] w fun e w'=>e = .returned (.tuple #[]) ∧ s.S (swp d i j) w' ∧ Fr s.own w w'
  big : n < 4611686018427387904
section
variable {α : Type} [Inhabited α] {s : St α} {ra : Addr} {rm rc n : Nat} {lt : α → α → Bool}
theorem IfS.lessAt (D : IfS ra rm rc s lt n) (w0 : World) {d : Array α} (i j : Nat) {x y : Int} {v : Bool} (hn : d.size = n) (hi : i < n) (hj : j < n) (hv : lt d[i]! d[j]! = v) (hx : x = (i : Int)) (hy : y = (j : Int)) (w : World) (hA : s.At w0 d w) :
    Calls Tryz.prog 429 #[.slice (some ra) rm rc,.int .i64 x,.int .i64 y] w fun e w'=>e = .returned (.bool v) ∧ s.At w0 d w' ∧ Fr [] w w':=by
  subst hx hy hv
  exact (D.less hA.1 hn hi hj).mono fun e w' ⟨h1,h2⟩=>⟨h1,hA.same h2,h2⟩
theorem IfS.swapAt (D : IfS ra rm rc s lt n) (w0 : World) {d : Array α} (i j : Nat) {x y : Int} (hn : d.size = n) (hi : i < n) (hj : j < n) (hx : x = (i : Int)) (hy : y = (j : Int)) (w : World) (hA : s.At w0 d w) :
    Calls Tryz.prog 430 #[.slice (some ra) rm rc,.int .i64 x,.int .i64 y] w fun e w'=>e = .returned (.tuple #[]) ∧ s.At w0 (swp d i j) w' ∧ Fr s.own w w':=by
  subst hx hy
  exact (D.swap hA.1 hn hi hj).mono fun e w' ⟨h1,h2,h3⟩=>⟨h1,hA.swap h2 h3,h3⟩
end
/-- Closed by a tactic: the row holds d. -/
theorem atP {α : Type} [Inhabited α] {s : St α} {w0 w : World} {d : Array α} (h : s.At w0 d w:=by (repeat (first|(with_reducible assumption)|(with_reducible refine St.At.drew ?_)|(with_reducible refine St.At.drewN ?_)|(with_reducible refine St.At.alloc ?_)))) : s.At w0 d w:=h
end Go.Proofs.Wx

namespace Go.Proofs.Wx.U64
open Go Go.RowKit Go.Sort
abbrev oSortU640 : List (Nat × Cls):=[(0,.free),(1,.free),(2,.free),(3,.free),(4,.free),(5,.free),(6,.free),(7,.look),(8,.free),(9,.free),(10,.free),(11,.free),(12,.look),(13,.act),(14,.free)]
abbrev oSortU641 : List (Nat × Cls):=[(0,.free),(1,.free),(2,.free),(3,.free),(4,.free),(5,.free),(6,.free),(7,.free),(8,.free),(9,.look),(10,.free),(11,.free),(12,.free),(13,.look),(14,.free),(15,.act),(16,.free),(17,.act)]
/-- The row at block g: numbers, and what lies behind them. -/
def row (g : Nat) (rest : List Value) : St Int where
  S d w:=Blk w g (d.toList.map (Value.int .u64) ++ rest) 26 (0,0)
  own:=[g]
  fr:=fun h hf hX=>hf.blk h fun hm=>hX _ hm (by simp)
  lt:=fun h k hk=>by simp at hk;subst hk;exact h.lt
section
variable {g n : Nat} {rest : List Value} {d : Array Int} {w0 w : World} {x y : Int}
theorem row_at (h : (row g rest).At w0 d w) (hn : d.size = n) {i : Nat} (hi : i < n) : ∃ x,w.cell? ⟨g,i,none⟩ = some (.int .u64 x) ∧ Hid (x = d[i]!):=by
  have h1:=Blk.cells h.1 i
  refine ⟨d[i]!,?_,rfl⟩
  rw [h1,List.getElem?_append_left (by simp;omega)]
  have : i < d.size:=by omega
  simp [this]
theorem row_free (h : (row g rest).At w0 d w) (i : Nat) : w.frozen? ⟨g,i,none⟩ = false:=Blk.free h.1 i
theorem row_sw (h : (row g rest).At w0 d w) (hn : d.size = n) {i j : Nat} (hi : i < n) (hj : j < n) (hx : Hid (x = d[i]!)) (hy : Hid (y = d[j]!)) :
    (row g rest).At w0 (swp d i j) ((w.setCell ⟨g,i,none⟩ (.int .u64 y)).setCell ⟨g,j,none⟩ (.int .u64 x)):=by
  rw [hx.out,hy.out]
  refine h.swap ?_ (Fr.setCell (.inl (by simp [row])) (Fr.setCell (.inl (by simp [row])) Fr.refl))
  refine Blk.conv (Blk.set (Blk.set h.1)) ?_
  unfold swp
  rw [List.set_append_left _ _ (by simp;omega),List.set_append_left _ _ (by simp;omega)]
  congr 1
  simp [List.map_set]
theorem row_st (h : (row g rest).At w0 d w) (hn : d.size = n) {i j : Nat} (hj : j < n) (u : Value) : ∃ v,(w.setCell ⟨g,i,none⟩ u).cell? ⟨g,j,none⟩ = some v:=by
  obtain ⟨x,hx,_⟩:=row_at h hn hj
  exact cell?_setCell_some hx
theorem ltT {a b : Int} (hx : Hid (x = a)) (hy : Hid (y = b)) (h : x < y) : ltInt a b = true:=by rw [← hx.out,← hy.out];exact decide_eq_true h
theorem ltF {a b : Int} (hx : Hid (x = a)) (hy : Hid (y = b)) (h : ¬ x < y) : ltInt a b = false:=by rw [← hx.out,← hy.out];exact decide_eq_false h
theorem wrk {z : Int} (k : Nat) (hz : z = (k : Int)) (hk : k < 1000000) : IntKind.i64.wrap z = (k : Int):=by rw [IntWalk.i64_in _ (by omega)];exact hz
end
theorem lessU (x y : Int) (w : World) : Calls Tryz.prog 324 #[.int .u64 x,.int .u64 y] w fun e w'=>e = .returned (.bool (decide (x < y))) ∧ w' = w:=by
  have hN : ∀ z w,Calls Tryz.prog 335 #[.int .u64 z] w fun e w'=>e = .returned (.bool false) ∧ w' = w:=fun z w=>by
    go_enter Tryz.func335,Tryz.ntmps335
    go_wp2
    go_ret
    exact ⟨by simp,rfl⟩
  go_enter Tryz.func324,Tryz.ntmps324
  go_wp2_with (first|(go_at_call 335;refine (hN _ _).mono ?_;rintro e w' ⟨rfl,rfl⟩))
  go_ret
  exact ⟨rfl,rfl⟩
variable {g n c : Nat} {rest : List Value}
theorem insSort {a b : Nat} {w0 w : World} {d : Array Int} (hA : (row g rest).At w0 d w) (hn : d.size = n) (hab : a ≤ b) (hb : b ≤ n) (big : n < 1000000) :
    Calls Tryz.prog 318 #[.slice (some ⟨g,0,none⟩) n c,.int .i64 a,.int .i64 b] w fun e w'=>e = .returned (.tuple #[]) ∧ (row g rest).At w0 (Sort.insertionSort ltInt d a b) w':=by
  go_enter Tryz.func318,Tryz.ntmps318
  go_wp2
  go_loopw [6] (fun vi wr=>∃ (i : Nat) (dk : Array Int),vi = .int .i64 i ∧ a < i ∧ i ≤ b + 1 ∧ dk.size = n ∧ (row g rest).At w0 dk wr ∧ Hid (insOuter ltInt a b i dk = insOuter ltInt a b (a + 1) d)) (fun vi _=>b + 1 - (intOf vi).toNat)
  case atStart=>exact ⟨a + 1,d,by go_num,by omega,by omega,hn,hA,rfl⟩
  case round =>
    obtain ⟨i,dk,rfl,hai,hib,hsk,hA1,HO⟩:=hrel
    by_cases hlt : i < b
    · go_wp2
      go_loopw [7] (fun vj wr2=>∃ (j : Nat) (dj : Array Int),vj = .int .i64 j ∧ a ≤ j ∧ j ≤ i ∧ dj.size = n ∧ (row g rest).At w0 dj wr2 ∧ Hid (insInner ltInt a j dj = insInner ltInt a i dk)) (fun vj _=>(intOf vj).toNat)
      case atStart=>exact ⟨i,dk,rfl,by omega,Nat.le_refl _,hsk,hA1,rfl⟩
      case round =>
        clear hA1
        obtain ⟨j,dj,rfl,haj,hji,hsj,hA2,HI⟩:=hrel
        by_cases hja : a < j
        · obtain ⟨x,cx,hx⟩:=row_at hA2 hsj (i:=j) (by omega)
          obtain ⟨y,cy,hy⟩:=row_at hA2 hsj (i:=j - 1) (by omega)
          have fx:=row_free hA2
          have j1 : j < n:=by omega
          have j2 : j - 1 < n:=by omega
          have wj:=wrk (z:=(j : Int) - 1) (j - 1) (by omega) (by omega)
          have sw:=row_sw hA2 hsj (i:=j) (j:=j - 1) (by omega) (by omega) hx hy
          by_cases hlv : x < y
          · have hl:=Lib.hid (ltT hx hy hlv)
            go_wp2_with (first
              | go_at_call 324;with_reducible refine (lessU _ _ _).mono ?_;rintro e w9 ⟨rfl,rfl⟩
              | (refine wre 4 oSortU640 ?_)
              | (refine wre 6 oSortU641 ?_)
              | (with_reducible refine wEI ?_;(first|(refine wEN ?_;skip)|(refine wEF rfl (fun K hK=>?_);go_simp)|(refine wEL rfl rfl (fun K hK=>?_);go_simp)|(refine wER rfl (fun K hK=>?_);go_simp)|(refine wEM rfl (fun K hK=>?_);go_simp;try refine ⟨_,_,⟨rfl,rfl⟩,?_⟩)|(refine wEG rfl (fun K hK=>?_);go_simp)|(refine wEA rfl (fun K hK=>?_);go_simp))))
            go_roundw
            case rel=>exact ⟨j - 1,swp dj j (j - 1),rfl,by omega,by omega,by rw [size_swp];exact hsj,by exact atP,(show Hid _ from by rw [← HI.out,insInner_go ltInt a j dj hja hl.out];exact rfl)⟩
            case measure=>simp [intOf];omega
          · have hl:=Lib.hid (ltF hx hy hlv)
            clear sw
            go_wp2_with (first
              | go_at_call 324;with_reducible refine (lessU _ _ _).mono ?_;rintro e w9 ⟨rfl,rfl⟩
              | (refine wre 4 oSortU640 ?_)
              | (refine wre 6 oSortU641 ?_)
              | (with_reducible refine wEI ?_;(first|(refine wEN ?_;skip)|(refine wEF rfl (fun K hK=>?_);go_simp)|(refine wEL rfl rfl (fun K hK=>?_);go_simp)|(refine wER rfl (fun K hK=>?_);go_simp)|(refine wEM rfl (fun K hK=>?_);go_simp;try refine ⟨_,_,⟨rfl,rfl⟩,?_⟩)|(refine wEG rfl (fun K hK=>?_);go_simp)|(refine wEA rfl (fun K hK=>?_);go_simp))))
            go_roundw
            case rel=>exact ⟨i + 1,dj,by go_num,by omega,by omega,hsj,by exact atP,(show Hid _ from by rw [← HO.out,insOuter_go _ _ _ _ _ hlt,← HI.out,insInner_stop _ _ _ _ (Or.inr hl.out)];exact rfl)⟩
            case measure=>simp [intOf];omega
        · go_wp2_with (first
            | go_at_call 324;with_reducible refine (lessU _ _ _).mono ?_;rintro e w9 ⟨rfl,rfl⟩
            | (refine wre 4 oSortU640 ?_)
            | (refine wre 6 oSortU641 ?_)
            | (with_reducible refine wEI ?_;(first|(refine wEN ?_;skip)|(refine wEF rfl (fun K hK=>?_);go_simp)|(refine wEL rfl rfl (fun K hK=>?_);go_simp)|(refine wER rfl (fun K hK=>?_);go_simp)|(refine wEM rfl (fun K hK=>?_);go_simp;try refine ⟨_,_,⟨rfl,rfl⟩,?_⟩)|(refine wEG rfl (fun K hK=>?_);go_simp)|(refine wEA rfl (fun K hK=>?_);go_simp))))
          go_roundw
          case rel=>exact ⟨i + 1,dj,by go_num,by omega,by omega,hsj,by exact atP,(show Hid _ from by rw [← HO.out,insOuter_go _ _ _ _ _ hlt,← HI.out,insInner_stop _ _ _ _ (Or.inl (by omega))];exact rfl)⟩
          case measure=>simp [intOf];omega
    · go_wp2
      go_end0
      exact ⟨rfl,by unfold Sort.insertionSort;rw [← HO.out,insOuter_stop _ _ _ _ _ hlt];exact atP⟩
theorem rev_go {i j : Nat} {d : Array Int} (h : i < j) : reverseLoop i j d = reverseLoop (i + 1) (j - 1) (swp d i j):=by rw [reverseLoop,if_pos h]
theorem reverse {a b : Nat} {w0 w : World} {d : Array Int} (hA : (row g rest).At w0 d w) (hn : d.size = n) (hab : a ≤ b) (hb : b ≤ n) (big : n < 1000000) :
    Calls Tryz.prog 322 #[.slice (some ⟨g,0,none⟩) n c,.int .i64 a,.int .i64 b] w fun e w'=>e = .returned (.tuple #[]) ∧ (row g rest).At w0 (reverseRange d a b) w':=by
  go_enter Tryz.func322,Tryz.ntmps322
  go_wp2
  go_loopg [6,7] (b - a) (fun k s6 s7 wr=>∃ (i jn : Nat) (jz : Int) (dk : Array Int),s6 = .int .i64 i ∧ s7 = .int .i64 jz ∧ ((i : Int) < jz → jz = jn ∧ jn < n) ∧ (¬ (i : Int) < jz → ¬ i < jn) ∧ jn - i ≤ k ∧
    dk.size = n ∧ (row g rest).At w0 dk wr ∧ Hid (reverseLoop i jn dk = reverseLoop a (b - 1) d))
  case atStart=>exact ⟨a,b - 1,(b : Int) - 1,d,rfl,rfl,fun h=>⟨by omega,by omega⟩,fun h=>by omega,by omega,hn,hA,rfl⟩
  case round =>
    obtain ⟨i,jn,jz,dk,rfl,rfl,h1,h2,hk,hds,hA1,HE⟩:=hrel
    by_cases hlt : (i : Int) < jz
    · obtain ⟨rfl,hjn⟩:=h1 hlt
      have hij : i < jn:=by omega
      have hin : i < n:=by omega
      obtain ⟨x,cx,hx⟩:=row_at hA1 hds hin
      obtain ⟨y,cy,hy⟩:=row_at hA1 hds hjn
      have fx:=row_free hA1
      have sw:=row_sw hA1 hds hin hjn hx hy
      clear h1 h2
      go_wp2_with (first
        | go_at_call 324;with_reducible refine (lessU _ _ _).mono ?_;rintro e w9 ⟨rfl,rfl⟩
        | (refine wre 3 [(0,.free),(1,.free),(2,.free),(3,.free),(4,.free),(5,.free),(6,.free),(7,.look),(8,.free),(9,.free),(10,.free),(11,.look),(12,.free),(13,.act),(14,.free),(15,.act)] ?_)
        | (with_reducible refine wEI ?_;(first|(refine wEN ?_;skip)|(refine wEF rfl (fun K hK=>?_);go_simp)|(refine wEL rfl rfl (fun K hK=>?_);go_simp)|(refine wER rfl (fun K hK=>?_);go_simp)|(refine wEM rfl (fun K hK=>?_);go_simp;try refine ⟨_,_,⟨rfl,rfl⟩,?_⟩)|(refine wEG rfl (fun K hK=>?_);go_simp)|(refine wEA rfl (fun K hK=>?_);go_simp))))
      go_roundg (jn - 1 - (i + 1))
      case measure=>omega
      case rel=>exact ⟨i + 1,jn - 1,(jn : Int) - 1,swp dk i jn,by simp,rfl,fun h=>⟨by omega,by omega⟩,fun h=>by omega,Nat.le_refl _,by rw [size_swp];exact hds,by exact atP,(show Hid _ from by rw [← HE.out,rev_go hij];exact rfl)⟩
    · have hnot:=h2 hlt
      go_wp2
      go_end0
      refine ⟨rfl,?_⟩
      rw [reverseRange,← HE.out,reverseLoop,if_neg hnot]
      exact atP
end Go.Proofs.Wx.U64
