import Derived.Test.YtdokbceiganhdaaGreatDoorM16
set_option maxRecDepth 100000
set_option maxHeartbeats 1000000
set_option linter.unusedVariables false
set_option linter.unusedSimpArgs false
set_option linter.deprecated false
set_option linter.all false
set_option linter.unusedSectionVars false
namespace Go.Proofs.Wx.U32
open Go Go.RowKit Go.Sort
abbrev oSortU320 : List (Nat × Cls):=[(0,.free),(1,.free),(2,.free),(3,.free),(4,.free),(5,.free),(6,.free),(7,.look),(8,.free),(9,.free),(10,.free),(11,.free),(12,.look),(13,.act),(14,.free)]
abbrev oSortU321 : List (Nat × Cls):=[(0,.free),(1,.free),(2,.free),(3,.free),(4,.free),(5,.free),(6,.free),(7,.free),(8,.free),(9,.look),(10,.free),(11,.free),(12,.free),(13,.look),(14,.free),(15,.act),(16,.free),(17,.act)]
/-- The row at block g: numbers, and what lies behind them. -/
def row (g : Nat) (rest : List Value) : St Int where
  S d w:=Blk w g (d.toList.map (Value.int .u32) ++ rest) 211 (0,0)
  own:=[g]
  fr:=fun h hf hX=>hf.blk h fun hm=>hX _ hm (by simp)
  lt:=fun h k hk=>by simp at hk;subst hk;exact h.lt
section
variable {g n : Nat} {rest : List Value} {d : Array Int} {w0 w : World} {x y : Int}
theorem row_at (h : (row g rest).At w0 d w) (hn : d.size = n) {i : Nat} (hi : i < n) : ∃ x,w.cell? ⟨g,i,none⟩ = some (.int .u32 x) ∧ Hid (x = d[i]!):=by
  have h1:=Blk.cells h.1 i
  refine ⟨d[i]!,?_,rfl⟩
  rw [h1,List.getElem?_append_left (by simp;omega)]
  have : i < d.size:=by omega
  simp [this]
theorem row_free (h : (row g rest).At w0 d w) (i : Nat) : w.frozen? ⟨g,i,none⟩ = false:=Blk.free h.1 i
theorem row_sw (h : (row g rest).At w0 d w) (hn : d.size = n) {i j : Nat} (hi : i < n) (hj : j < n) (hx : Hid (x = d[i]!)) (hy : Hid (y = d[j]!)) :
    (row g rest).At w0 (swp d i j) ((w.setCell ⟨g,i,none⟩ (.int .u32 y)).setCell ⟨g,j,none⟩ (.int .u32 x)):=by
  rw [hx.out,hy.out]
  refine h.swap ?_ (Fr.setCell (.inl (by simp [row])) (Fr.setCell (.inl (by simp [row])) Fr.refl))
  refine Blk.conv (Blk.set (Blk.set h.1)) ?_
  unfold swp
  rw [List.set_append_left _ _ (by simp;omega),List.set_append_left _ _ (by simp;omega)]
  congr 1
  simp [List.map_set]
theorem row_st (h : (row g rest).At w0 d w) (hn : d.size = n) {i j : Nat} (hj : j < n) (u : Value) : ∃ v,(w.setCell ⟨g,i,none⟩ u).cell? ⟨g,j,none⟩ = some v:=by
  obtain ⟨x,hx,_⟩:=row_at h hn hj
  exact cell?_setCell_some hx
theorem ltT {a b : Int} (hx : Hid (x = a)) (hy : Hid (y = b)) (h : x < y) : ltInt a b = true:=by rw [← hx.out,← hy.out];exact decide_eq_true h
theorem ltF {a b : Int} (hx : Hid (x = a)) (hy : Hid (y = b)) (h : ¬ x < y) : ltInt a b = false:=by rw [← hx.out,← hy.out];exact decide_eq_false h
theorem wrk {z : Int} (k : Nat) (hz : z = (k : Int)) (hk : k < 1000000) : IntKind.i64.wrap z = (k : Int):=by rw [IntWalk.i64_in _ (by omega)];exact hz
end
theorem lessU (x y : Int) (w : World) : Calls Tryz.prog 342 #[.int .u32 x,.int .u32 y] w fun e w'=>e = .returned (.bool (decide (x < y))) ∧ w' = w:=by
  have hN : ∀ z w,Calls Tryz.prog 350 #[.int .u32 z] w fun e w'=>e = .returned (.bool false) ∧ w' = w:=fun z w=>by
    go_enter Tryz.func350,Tryz.ntmps350
    go_wp2
    go_ret
    exact ⟨by simp,rfl⟩
  go_enter Tryz.func342,Tryz.ntmps342
  go_wp2_with (first|(go_at_call 350;refine (hN _ _).mono ?_;rintro e w' ⟨rfl,rfl⟩))
  go_ret
  exact ⟨rfl,rfl⟩
variable {g n c : Nat} {rest : List Value}
theorem insSort {a b : Nat} {w0 w : World} {d : Array Int} (hA : (row g rest).At w0 d w) (hn : d.size = n) (hab : a ≤ b) (hb : b ≤ n) (big : n < 1000000) :
    Calls Tryz.prog 336 #[.slice (some ⟨g,0,none⟩) n c,.int .i64 a,.int .i64 b] w fun e w'=>e = .returned (.tuple #[]) ∧ (row g rest).At w0 (Sort.insertionSort ltInt d a b) w':=by
  go_enter Tryz.func336,Tryz.ntmps336
  go_wp2
  go_loopw [6] (fun vi wr=>∃ (i : Nat) (dk : Array Int),vi = .int .i64 i ∧ a < i ∧ i ≤ b + 1 ∧ dk.size = n ∧ (row g rest).At w0 dk wr ∧ Hid (insOuter ltInt a b i dk = insOuter ltInt a b (a + 1) d)) (fun vi _=>b + 1 - (intOf vi).toNat)
  case atStart=>exact ⟨a + 1,d,by go_num,by omega,by omega,hn,hA,rfl⟩
  case round =>
    obtain ⟨i,dk,rfl,hai,hib,hsk,hA1,HO⟩:=hrel
    by_cases hlt : i < b
    · go_wp2
      go_loopw [7] (fun vj wr2=>∃ (j : Nat) (dj : Array Int),vj = .int .i64 j ∧ a ≤ j ∧ j ≤ i ∧ dj.size = n ∧ (row g rest).At w0 dj wr2 ∧ Hid (insInner ltInt a j dj = insInner ltInt a i dk)) (fun vj _=>(intOf vj).toNat)
      case atStart=>exact ⟨i,dk,rfl,by omega,Nat.le_refl _,hsk,hA1,rfl⟩
      case round =>
        clear hA1
        obtain ⟨j,dj,rfl,haj,hji,hsj,hA2,HI⟩:=hrel
        by_cases hja : a < j
        · obtain ⟨x,cx,hx⟩:=row_at hA2 hsj (i:=j) (by omega)
          obtain ⟨y,cy,hy⟩:=row_at hA2 hsj (i:=j - 1) (by omega)
          have fx:=row_free hA2
          have j1 : j < n:=by omega
          have j2 : j - 1 < n:=by omega
          have wj:=wrk (z:=(j : Int) - 1) (j - 1) (by omega) (by omega)
          have sw:=row_sw hA2 hsj (i:=j) (j:=j - 1) (by omega) (by omega) hx hy
          by_cases hlv : x < y
          · have hl:=Lib.hid (ltT hx hy hlv)
            go_wp2_with (first
              | go_at_call 342;with_reducible refine (lessU _ _ _).mono ?_;rintro e w9 ⟨rfl,rfl⟩
              | (refine wre 4 oSortU320 ?_)
              | (refine wre 6 oSortU321 ?_)
              | (with_reducible refine wEI ?_;(first|(refine wEN ?_;skip)|(refine wEF rfl (fun K hK=>?_);go_simp)|(refine wEL rfl rfl (fun K hK=>?_);go_simp)|(refine wER rfl (fun K hK=>?_);go_simp)|(refine wEM rfl (fun K hK=>?_);go_simp;try refine ⟨_,_,⟨rfl,rfl⟩,?_⟩)|(refine wEG rfl (fun K hK=>?_);go_simp)|(refine wEA rfl (fun K hK=>?_);go_simp))))
            go_roundw
            case rel=>exact ⟨j - 1,swp dj j (j - 1),rfl,by omega,by omega,by rw [size_swp];exact hsj,by exact atP,(show Hid _ from by rw [← HI.out,insInner_go ltInt a j dj hja hl.out];exact rfl)⟩
            case measure=>simp [intOf];omega
          · have hl:=Lib.hid (ltF hx hy hlv)
            clear sw
            go_wp2_with (first
              | go_at_call 342;with_reducible refine (lessU _ _ _).mono ?_;rintro e w9 ⟨rfl,rfl⟩
              | (refine wre 4 oSortU320 ?_)
              | (refine wre 6 oSortU321 ?_)
              | (with_reducible refine wEI ?_;(first|(refine wEN ?_;skip)|(refine wEF rfl (fun K hK=>?_);go_simp)|(refine wEL rfl rfl (fun K hK=>?_);go_simp)|(refine wER rfl (fun K hK=>?_);go_simp)|(refine wEM rfl (fun K hK=>?_);go_simp;try refine ⟨_,_,⟨rfl,rfl⟩,?_⟩)|(refine wEG rfl (fun K hK=>?_);go_simp)|(refine wEA rfl (fun K hK=>?_);go_simp))))
            go_roundw
            case rel=>exact ⟨i + 1,dj,by go_num,by omega,by omega,hsj,by exact atP,(show Hid _ from by rw [← HO.out,insOuter_go _ _ _ _ _ hlt,← HI.out,insInner_stop _ _ _ _ (Or.inr hl.out)];exact rfl)⟩
            case measure=>simp [intOf];omega
        · go_wp2_with (first
            | go_at_call 342;with_reducible refine (lessU _ _ _).mono ?_;rintro e w9 ⟨rfl,rfl⟩
            | (refine wre 4 oSortU320 ?_)
            | (refine wre 6 oSortU321 ?_)
            | (with_reducible refine wEI ?_;(first|(refine wEN ?_;skip)|(refine wEF rfl (fun K hK=>?_);go_simp)|(refine wEL rfl rfl (fun K hK=>?_);go_simp)|(refine wER rfl (fun K hK=>?_);go_simp)|(refine wEM rfl (fun K hK=>?_);go_simp;try refine ⟨_,_,⟨rfl,rfl⟩,?_⟩)|(refine wEG rfl (fun K hK=>?_);go_simp)|(refine wEA rfl (fun K hK=>?_);go_simp))))
          go_roundw
          case rel=>exact ⟨i + 1,dj,by go_num,by omega,by omega,hsj,by exact atP,(show Hid _ from by rw [← HO.out,insOuter_go _ _ _ _ _ hlt,← HI.out,insInner_stop _ _ _ _ (Or.inl (by omega))];exact rfl)⟩
          case measure=>simp [intOf];omega
    · go_wp2
      go_end0
      exact ⟨rfl,by unfold Sort.insertionSort;rw [← HO.out,insOuter_stop _ _ _ _ _ hlt];exact atP⟩
theorem rev_go {i j : Nat} {d : Array Int} (h : i < j) : reverseLoop i j d = reverseLoop (i + 1) (j - 1) (swp d i j):=by rw [reverseLoop,if_pos h]
theorem reverse {a b : Nat} {w0 w : World} {d : Array Int} (hA : (row g rest).At w0 d w) (hn : d.size = n) (hab : a ≤ b) (hb : b ≤ n) (big : n < 1000000) :
    Calls Tryz.prog 340 #[.slice (some ⟨g,0,none⟩) n c,.int .i64 a,.int .i64 b] w fun e w'=>e = .returned (.tuple #[]) ∧ (row g rest).At w0 (reverseRange d a b) w':=by
  go_enter Tryz.func340,Tryz.ntmps340
  go_wp2
  go_loopg [6,7] (b - a) (fun k s6 s7 wr=>∃ (i jn : Nat) (jz : Int) (dk : Array Int),s6 = .int .i64 i ∧ s7 = .int .i64 jz ∧ ((i : Int) < jz → jz = jn ∧ jn < n) ∧ (¬ (i : Int) < jz → ¬ i < jn) ∧ jn - i ≤ k ∧
    dk.size = n ∧ (row g rest).At w0 dk wr ∧ Hid (reverseLoop i jn dk = reverseLoop a (b - 1) d))
  case atStart=>exact ⟨a,b - 1,(b : Int) - 1,d,rfl,rfl,fun h=>⟨by omega,by omega⟩,fun h=>by omega,by omega,hn,hA,rfl⟩
  case round =>
    obtain ⟨i,jn,jz,dk,rfl,rfl,h1,h2,hk,hds,hA1,HE⟩:=hrel
    by_cases hlt : (i : Int) < jz
    · obtain ⟨rfl,hjn⟩:=h1 hlt
      have hij : i < jn:=by omega
      have hin : i < n:=by omega
      obtain ⟨x,cx,hx⟩:=row_at hA1 hds hin
      obtain ⟨y,cy,hy⟩:=row_at hA1 hds hjn
      have fx:=row_free hA1
      have sw:=row_sw hA1 hds hin hjn hx hy
      clear h1 h2
      go_wp2_with (first
        | go_at_call 342;with_reducible refine (lessU _ _ _).mono ?_;rintro e w9 ⟨rfl,rfl⟩
        | (refine wre 3 [(0,.free),(1,.free),(2,.free),(3,.free),(4,.free),(5,.free),(6,.free),(7,.look),(8,.free),(9,.free),(10,.free),(11,.look),(12,.free),(13,.act),(14,.free),(15,.act)] ?_)
        | (with_reducible refine wEI ?_;(first|(refine wEN ?_;skip)|(refine wEF rfl (fun K hK=>?_);go_simp)|(refine wEL rfl rfl (fun K hK=>?_);go_simp)|(refine wER rfl (fun K hK=>?_);go_simp)|(refine wEM rfl (fun K hK=>?_);go_simp;try refine ⟨_,_,⟨rfl,rfl⟩,?_⟩)|(refine wEG rfl (fun K hK=>?_);go_simp)|(refine wEA rfl (fun K hK=>?_);go_simp))))
      go_roundg (jn - 1 - (i + 1))
      case measure=>omega
      case rel=>exact ⟨i + 1,jn - 1,(jn : Int) - 1,swp dk i jn,by simp,rfl,fun h=>⟨by omega,by omega⟩,fun h=>by omega,Nat.le_refl _,by rw [size_swp];exact hds,by exact atP,(show Hid _ from by rw [← HE.out,rev_go hij];exact rfl)⟩
    · have hnot:=h2 hlt
      go_wp2
      go_end0
      refine ⟨rfl,?_⟩
      rw [reverseRange,← HE.out,reverseLoop,if_neg hnot]
      exact atP
end Go.Proofs.Wx.U32
