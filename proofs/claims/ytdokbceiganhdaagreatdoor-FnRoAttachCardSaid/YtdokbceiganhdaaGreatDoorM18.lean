import Derived.Test.YtdokbceiganhdaaGreatDoorM17
set_option maxRecDepth 100000
set_option maxHeartbeats 1000000
set_option linter.unusedVariables false
set_option linter.unusedSimpArgs false
set_option linter.deprecated false
set_option linter.all false
set_option linter.unusedSectionVars false
namespace Go.Proofs.Wx.U64
open Go Go.RowKit Go.Sort
abbrev oSortU64c0 : List (Nat × Cls):=[(0,.free),(1,.free),(2,.free),(3,.free),(4,.free),(5,.free),(6,.free),(7,.look),(8,.free),(9,.free),(10,.free),(11,.look),(12,.free),(13,.act),(14,.free),(15,.act)]
abbrev oSortU64c1 : List (Nat × Cls):=[(0,.free),(1,.free),(2,.free),(3,.free),(4,.free),(5,.free),(6,.free),(7,.look),(8,.free),(9,.free),(10,.free),(11,.look),(12,.act),(13,.free),(14,.free)]
abbrev oSortU64c2 : List (Nat × Cls):=[(0,.free),(1,.free),(2,.free),(3,.free),(4,.free),(5,.free),(6,.free),(7,.look),(8,.free),(9,.free),(10,.free),(11,.look),(12,.act),(13,.free)]
variable {g n c : Nat} {rest : List Value}
set_option maxRecDepth 1000000 in
set_option maxHeartbeats 12800000 in
theorem partEq {a b pivot : Nat} {w0 w : World} {d : Array Int} (hA : (row g rest).At w0 d w) (hn : d.size = n) (hap : a ≤ pivot) (hpb : pivot < b) (hb : b ≤ n) (big : n < 400000) :
    Calls Tryz.prog 325 #[.slice (some ⟨g,0,none⟩) n c,.int .i64 a,.int .i64 b,.int .i64 pivot] w fun e w'=>e = .returned (.int .i64 (Sort.partitionEqual ltInt d a b pivot).1) ∧ (row g rest).At w0 (Sort.partitionEqual ltInt d a b pivot).2 w':=by
  have an : a < n:=by omega
  have pn : pivot < n:=by omega
  obtain ⟨xa,cxa,hxa⟩:=row_at hA hn an
  obtain ⟨xp,cxp,hxp⟩:=row_at hA hn pn
  have fx:=row_free hA
  have sw:=row_sw hA hn an pn hxa hxp
  obtain ⟨v',cw⟩:=row_st hA hn (i:=a) pn (.int .u64 xp)
  go_enter Tryz.func325,Tryz.ntmps325
  go_wp2_with (first
    | go_at_call 324;(with_reducible refine (lessU _ _ _).mono ?_);rintro e w9 ⟨rfl,rfl⟩
    | (refine wre 1 oSortU64c0 ?_)
    | (refine wre 3 oSortU64c1 ?_)
    | (refine wre 5 oSortU64c2 ?_)
    | (refine wre 8 oSortU64c0 ?_)
    | (with_reducible refine wEI ?_;(first|(refine wEN ?_;skip)|(refine wEF rfl (fun K hK=>?_);go_simp)|(refine wEL rfl rfl (fun K hK=>?_);go_simp)|(refine wER rfl (fun K hK=>?_);go_simp)|(refine wEM rfl (fun K hK=>?_);go_simp;try refine ⟨_,_,⟨rfl,rfl⟩,?_⟩)|(refine wEG rfl (fun K hK=>?_);go_simp)|(refine wEA rfl (fun K hK=>?_);go_simp))))
  go_loopw [9,10] (fun vi vj wr=>∃ (i j : Nat) (dk : Array Int),vi = .int .i64 i ∧ vj = .int .i64 j ∧ a < i ∧ i ≤ j + 1 ∧ j < b ∧ dk.size = n ∧ (row g rest).At w0 dk wr ∧
      Hid (Sort.partEqLoop ltInt a i j dk = Sort.partEqLoop ltInt a (a + 1) (b - 1) (Sort.swp d a pivot))) (fun vi vj _=>(intOf vj).toNat + 1 - (intOf vi).toNat)
  case atStart=>exact ⟨a + 1,b - 1,Sort.swp d a pivot,by go_num,by go_num,by omega,by omega,by omega,by rw [size_swp];exact hn,by exact atP,rfl⟩
  case round =>
    clear hA sw cxa cxp hxa hxp fx cw
    obtain ⟨i,j,dk,rfl,rfl,hai,hij,hjb,hs,hA1,AE⟩:=hrel
    go_wp2
    go_loopw [9] (fun vi w1=>∃ (i' : Nat),vi = .int .i64 i' ∧ i ≤ i' ∧ i' ≤ j + 1 ∧ (row g rest).At w0 dk w1 ∧ Hid (Sort.scanUp (fun x=>!ltInt dk[a]! x) dk j i' = Sort.scanUp (fun x=>!ltInt dk[a]! x) dk j i)) (fun vi _=>j + 1 - (intOf vi).toNat)
    case atStart=>exact ⟨i,rfl,Nat.le_refl _,hij,by exact atP,rfl⟩
    case round =>
      clear hA1
      obtain ⟨i',rfl,hii,hij',hA2,hsc⟩:=hrel
      by_cases hle : i' ≤ j
      · obtain ⟨xi,cxi,hxi⟩:=row_at hA2 hs (i:=i') (by omega)
        obtain ⟨xa,cxa,hxa⟩:=row_at hA2 hs (i:=a) (by omega)
        have in1 : i' < n:=by omega
        have an : a < n:=by omega
        by_cases hlv : xa < xi
        · have hl:=ltT hxa hxi hlv
          have hi2 : Hid (i' = Sort.scanUp (fun x=>!ltInt dk[a]! x) dk j i):=(scanUp_end (fun x=>!ltInt dk[a]! x) dk j i' (Or.inr (by simp [hl]))).symm.trans hsc.out
          clear hl
          go_wp2_with (first
            | go_at_call 324;(with_reducible refine (lessU _ _ _).mono ?_);rintro e w9 ⟨rfl,rfl⟩
            | (refine wre 1 oSortU64c0 ?_)
            | (refine wre 3 oSortU64c1 ?_)
            | (refine wre 5 oSortU64c2 ?_)
            | (refine wre 8 oSortU64c0 ?_)
            | (with_reducible refine wEI ?_;(first|(refine wEN ?_;skip)|(refine wEF rfl (fun K hK=>?_);go_simp)|(refine wEL rfl rfl (fun K hK=>?_);go_simp)|(refine wER rfl (fun K hK=>?_);go_simp)|(refine wEM rfl (fun K hK=>?_);go_simp;try refine ⟨_,_,⟨rfl,rfl⟩,?_⟩)|(refine wEG rfl (fun K hK=>?_);go_simp)|(refine wEA rfl (fun K hK=>?_);go_simp))))
          clear cxi cxa hxi hxa hlv
          (try clear dg)
          go_loopw [10] (fun vj w2=>∃ (j' : Nat),vj = .int .i64 j' ∧ j' ≤ j ∧ i' ≤ j' + 1 ∧ (row g rest).At w0 dk w2 ∧ Hid (Sort.scanDown (fun x=>ltInt dk[a]! x) dk i' j' = Sort.scanDown (fun x=>ltInt dk[a]! x) dk i' j)) (fun vj _=>(intOf vj).toNat)
          case atStart=>exact ⟨j,rfl,Nat.le_refl _,hij',by exact atP,rfl⟩
          case round =>
            (try clear hA2)
            obtain ⟨j',rfl,hjj,hij2,hA3,hsd⟩:=hrel
            by_cases hle2 : i' ≤ j'
            · obtain ⟨xi,cxi,hxi⟩:=row_at hA3 hs (i:=i') (by omega)
              obtain ⟨xj,cxj,hxj⟩:=row_at hA3 hs (i:=j') (by omega)
              obtain ⟨xa,cxa,hxa⟩:=row_at hA3 hs (i:=a) (by omega)
              have in1 : i' < n:=by omega
              have jn : j' < n:=by omega
              have an : a < n:=by omega
              have fx:=row_free hA3
              by_cases hlv2 : xa < xj
              · have hl:=ltT hxa hxj hlv2
                have hl':=Lib.hid hl
                clear hl
                go_wp2_with (first
                  | go_at_call 324;(with_reducible refine (lessU _ _ _).mono ?_);rintro e w9 ⟨rfl,rfl⟩
                  | (refine wre 1 oSortU64c0 ?_)
                  | (refine wre 3 oSortU64c1 ?_)
                  | (refine wre 5 oSortU64c2 ?_)
                  | (refine wre 8 oSortU64c0 ?_)
                  | (with_reducible refine wEI ?_;(first|(refine wEN ?_;skip)|(refine wEF rfl (fun K hK=>?_);go_simp)|(refine wEL rfl rfl (fun K hK=>?_);go_simp)|(refine wER rfl (fun K hK=>?_);go_simp)|(refine wEM rfl (fun K hK=>?_);go_simp;try refine ⟨_,_,⟨rfl,rfl⟩,?_⟩)|(refine wEG rfl (fun K hK=>?_);go_simp)|(refine wEA rfl (fun K hK=>?_);go_simp))))
                go_roundw
                case rel=>exact ⟨j' - 1,by go_num,by omega,by omega,by exact atP,(scanDown_go (fun x=>ltInt dk[a]! x) dk i' j' hle2 (by omega) (by simp [hl'.out])).symm.trans hsd.out⟩
                case measure=>simp [intOf];omega
              · have hl:=ltF hxa hxj hlv2
                have dg:=decide_eq_false hlv2
                have hj2 : Hid (j' = Sort.scanDown (fun x=>ltInt dk[a]! x) dk i' j):=(scanDown_end (fun x=>ltInt dk[a]! x) dk i' j' (Or.inr (by simp [hl]))).symm.trans hsd.out
                clear hl
                have hlt3:=scans_lt ltInt a i j dk (by omega) hi2.out hj2.out hle2
                have sw:=row_sw hA3 hs in1 jn hxi hxj
                obtain ⟨v',cw⟩:=row_st hA3 hs (i:=i') jn (.int .u64 xj)
                go_wp2_with (first
                  | go_at_call 324;(with_reducible refine (lessU _ _ _).mono ?_);rintro e w9 ⟨rfl,rfl⟩
                  | (refine wre 1 oSortU64c0 ?_)
                  | (refine wre 3 oSortU64c1 ?_)
                  | (refine wre 5 oSortU64c2 ?_)
                  | (refine wre 8 oSortU64c0 ?_)
                  | (with_reducible refine wEI ?_;(first|(refine wEN ?_;skip)|(refine wEF rfl (fun K hK=>?_);go_simp)|(refine wEL rfl rfl (fun K hK=>?_);go_simp)|(refine wER rfl (fun K hK=>?_);go_simp)|(refine wEM rfl (fun K hK=>?_);go_simp;try refine ⟨_,_,⟨rfl,rfl⟩,?_⟩)|(refine wEG rfl (fun K hK=>?_);go_simp)|(refine wEA rfl (fun K hK=>?_);go_simp))))
                go_roundw
                case rel=>exact ⟨i' + 1,j' - 1,Sort.swp dk i' j',by go_num,by go_num,by omega,by omega,by omega,by rw [size_swp];exact hs,by exact atP,(show Hid _ from by rw [← AE.out];exact (partEq_go ltInt a i j dk hi2.out hj2.out (by omega)).symm)⟩
                case measure=>simp [intOf];omega
            · have hj2 : Hid (j' = Sort.scanDown (fun x=>ltInt dk[a]! x) dk i' j):=(scanDown_end (fun x=>ltInt dk[a]! x) dk i' j' (Or.inl hle2)).symm.trans hsd.out
              go_wp2_with (first
                | go_at_call 324;(with_reducible refine (lessU _ _ _).mono ?_);rintro e w9 ⟨rfl,rfl⟩
                | (refine wre 1 oSortU64c0 ?_)
                | (refine wre 3 oSortU64c1 ?_)
                | (refine wre 5 oSortU64c2 ?_)
                | (refine wre 8 oSortU64c0 ?_)
                | (with_reducible refine wEI ?_;(first|(refine wEN ?_;skip)|(refine wEF rfl (fun K hK=>?_);go_simp)|(refine wEL rfl rfl (fun K hK=>?_);go_simp)|(refine wER rfl (fun K hK=>?_);go_simp)|(refine wEM rfl (fun K hK=>?_);go_simp;try refine ⟨_,_,⟨rfl,rfl⟩,?_⟩)|(refine wEG rfl (fun K hK=>?_);go_simp)|(refine wEA rfl (fun K hK=>?_);go_simp))))
              go_ret
              have e:=partEq_break ltInt a i j dk hi2.out hj2.out (by omega)
              refine ⟨?_,?_⟩
              · unfold Sort.partitionEqual;rw [← AE.out,e];rfl
              · unfold Sort.partitionEqual;rw [← AE.out,e];exact atP
        · have hl:=ltF hxa hxi hlv
          have dg:=decide_eq_false hlv
          have hl':=Lib.hid hl
          clear hl
          go_wp2_with (first
            | go_at_call 324;(with_reducible refine (lessU _ _ _).mono ?_);rintro e w9 ⟨rfl,rfl⟩
            | (refine wre 1 oSortU64c0 ?_)
            | (refine wre 3 oSortU64c1 ?_)
            | (refine wre 5 oSortU64c2 ?_)
            | (refine wre 8 oSortU64c0 ?_)
            | (with_reducible refine wEI ?_;(first|(refine wEN ?_;skip)|(refine wEF rfl (fun K hK=>?_);go_simp)|(refine wEL rfl rfl (fun K hK=>?_);go_simp)|(refine wER rfl (fun K hK=>?_);go_simp)|(refine wEM rfl (fun K hK=>?_);go_simp;try refine ⟨_,_,⟨rfl,rfl⟩,?_⟩)|(refine wEG rfl (fun K hK=>?_);go_simp)|(refine wEA rfl (fun K hK=>?_);go_simp))))
          go_roundw
          case rel=>exact ⟨i' + 1,by go_num,by omega,by omega,by exact atP,(scanUp_go (fun x=>!ltInt dk[a]! x) dk j i' hle (by simp [hl'.out])).symm.trans hsc.out⟩
          case measure=>simp [intOf];omega
      · have hi2 : Hid (i' = Sort.scanUp (fun x=>!ltInt dk[a]! x) dk j i):=(scanUp_end (fun x=>!ltInt dk[a]! x) dk j i' (Or.inl hle)).symm.trans hsc.out
        go_wp2_with (first
          | go_at_call 324;(with_reducible refine (lessU _ _ _).mono ?_);rintro e w9 ⟨rfl,rfl⟩
          | (refine wre 1 oSortU64c0 ?_)
          | (refine wre 3 oSortU64c1 ?_)
          | (refine wre 5 oSortU64c2 ?_)
          | (refine wre 8 oSortU64c0 ?_)
          | (with_reducible refine wEI ?_;(first|(refine wEN ?_;skip)|(refine wEF rfl (fun K hK=>?_);go_simp)|(refine wEL rfl rfl (fun K hK=>?_);go_simp)|(refine wER rfl (fun K hK=>?_);go_simp)|(refine wEM rfl (fun K hK=>?_);go_simp;try refine ⟨_,_,⟨rfl,rfl⟩,?_⟩)|(refine wEG rfl (fun K hK=>?_);go_simp)|(refine wEA rfl (fun K hK=>?_);go_simp))))
        go_loopw [10] (fun vj w2=>∃ (j' : Nat),vj = .int .i64 j' ∧ j' ≤ j ∧ i' ≤ j' + 1 ∧ (row g rest).At w0 dk w2 ∧ Hid (Sort.scanDown (fun x=>ltInt dk[a]! x) dk i' j' = Sort.scanDown (fun x=>ltInt dk[a]! x) dk i' j)) (fun vj _=>(intOf vj).toNat)
        case atStart=>exact ⟨j,rfl,Nat.le_refl _,hij',by exact atP,rfl⟩
        case round =>
          (try clear hA2)
          obtain ⟨j',rfl,hjj,hij2,hA3,hsd⟩:=hrel
          by_cases hle2 : i' ≤ j'
          · exfalso;omega
          · have hj2 : Hid (j' = Sort.scanDown (fun x=>ltInt dk[a]! x) dk i' j):=(scanDown_end (fun x=>ltInt dk[a]! x) dk i' j' (Or.inl hle2)).symm.trans hsd.out
            go_wp2_with (first
              | go_at_call 324;(with_reducible refine (lessU _ _ _).mono ?_);rintro e w9 ⟨rfl,rfl⟩
              | (refine wre 1 oSortU64c0 ?_)
              | (refine wre 3 oSortU64c1 ?_)
              | (refine wre 5 oSortU64c2 ?_)
              | (refine wre 8 oSortU64c0 ?_)
              | (with_reducible refine wEI ?_;(first|(refine wEN ?_;skip)|(refine wEF rfl (fun K hK=>?_);go_simp)|(refine wEL rfl rfl (fun K hK=>?_);go_simp)|(refine wER rfl (fun K hK=>?_);go_simp)|(refine wEM rfl (fun K hK=>?_);go_simp;try refine ⟨_,_,⟨rfl,rfl⟩,?_⟩)|(refine wEG rfl (fun K hK=>?_);go_simp)|(refine wEA rfl (fun K hK=>?_);go_simp))))
            go_ret
            have e:=partEq_break ltInt a i j dk hi2.out hj2.out (by omega)
            refine ⟨?_,?_⟩
            · unfold Sort.partitionEqual;rw [← AE.out,e];rfl
            · unfold Sort.partitionEqual;rw [← AE.out,e];exact atP
set_option maxRecDepth 1000000 in
set_option maxHeartbeats 12800000 in
theorem part {a b pivot : Nat} {w0 w : World} {d : Array Int} (hA : (row g rest).At w0 d w) (hn : d.size = n) (hap : a ≤ pivot) (hpb : pivot < b) (hb : b ≤ n) (big : n < 400000) :
    Calls Tryz.prog 326 #[.slice (some ⟨g,0,none⟩) n c,.int .i64 a,.int .i64 b,.int .i64 pivot] w fun e w'=>e = .returned (.tuple #[.int .i64 (Sort.partition ltInt d a b pivot).1,.bool (Sort.partition ltInt d a b pivot).2.1]) ∧ (row g rest).At w0 (Sort.partition ltInt d a b pivot).2.2 w':=by
  have an : a < n:=by omega
  have pn : pivot < n:=by omega
  obtain ⟨xa,cxa,hxa⟩:=row_at hA hn an
  obtain ⟨xp,cxp,hxp⟩:=row_at hA hn pn
  have fx:=row_free hA
  have hA1:=row_sw hA hn an pn hxa hxp
  obtain ⟨v',cw⟩:=row_st hA hn (i:=a) pn (.int .u64 xp)
  obtain ⟨i,hi⟩ : ∃ i : Nat,i = a + 1:=⟨_,rfl⟩
  obtain ⟨j,hj⟩ : ∃ j : Nat,j = b - 1:=⟨_,rfl⟩
  obtain ⟨dk,hdk⟩ : ∃ dk : Array Int,dk = Sort.swp d a pivot:=⟨_,rfl⟩
  have hs : dk.size = n:=by rw [hdk,size_swp];exact hn
  have hai : a < i:=by omega
  have hij : i ≤ j + 1:=by omega
  have hjb : j < b:=by omega
  rw [← hdk] at hA1
  have Hi : Hid (i = a + 1):=hi
  have Hj : Hid (j = b - 1):=hj
  have Hdk : Hid (dk = Sort.swp d a pivot):=hdk
  clear hi hj hdk
  go_enter Tryz.func326,Tryz.ntmps326
  go_wp2_with (first
    | go_at_call 324;(with_reducible refine (lessU _ _ _).mono ?_);rintro e w9 ⟨rfl,rfl⟩
    | (refine wre 1 oSortU64c0 ?_)
    | (refine wre 3 oSortU64c2 ?_)
    | (refine wre 5 oSortU64c1 ?_)
    | (refine wre 8 oSortU64c0 ?_)
    | (refine wre 10 oSortU64c0 ?_)
    | (refine wre 13 oSortU64c2 ?_)
    | (refine wre 15 oSortU64c1 ?_)
    | (refine wre 18 oSortU64c0 ?_)
    | (refine wre 21 oSortU64c0 ?_)
    | (with_reducible refine wEI ?_;(first|(refine wEN ?_;skip)|(refine wEF rfl (fun K hK=>?_);go_simp)|(refine wEL rfl rfl (fun K hK=>?_);go_simp)|(refine wER rfl (fun K hK=>?_);go_simp)|(refine wEM rfl (fun K hK=>?_);go_simp;try refine ⟨_,_,⟨rfl,rfl⟩,?_⟩)|(refine wEG rfl (fun K hK=>?_);go_simp)|(refine wEA rfl (fun K hK=>?_);go_simp))))
  rw [show ((a : Int) + 1) = (i : Int) by have:=Hi.out;omega,show ((b : Int) - 1) = (j : Int) by have:=Hj.out;omega]
  clear hA cxa cxp hxa hxp fx cw an
  go_loopw [10] (fun vi w1=>∃ (i' : Nat),vi = .int .i64 i' ∧ i ≤ i' ∧ i' ≤ j + 1 ∧ (row g rest).At w0 dk w1 ∧ Hid (Sort.scanUp (fun x=>ltInt x dk[a]!) dk j i' = Sort.scanUp (fun x=>ltInt x dk[a]!) dk j i)) (fun vi _=>j + 1 - (intOf vi).toNat)
  case atStart=>exact ⟨i,rfl,Nat.le_refl _,hij,by exact atP,rfl⟩
  case round =>
    clear hA1
    obtain ⟨i',rfl,hii,hij',hA2,hsc⟩:=hrel
    by_cases hle : i' ≤ j
    · obtain ⟨xi,cxi,hxi⟩:=row_at hA2 hs (i:=i') (by omega)
      obtain ⟨xa,cxa,hxa⟩:=row_at hA2 hs (i:=a) (by omega)
      have in1 : i' < n:=by omega
      have an : a < n:=by omega
      by_cases hlv : xi < xa
      · have hl:=ltT hxi hxa hlv
        have hl':=Lib.hid hl
        clear hl
        go_wp2_with (first
          | go_at_call 324;(with_reducible refine (lessU _ _ _).mono ?_);rintro e w9 ⟨rfl,rfl⟩
          | (refine wre 1 oSortU64c0 ?_)
          | (refine wre 3 oSortU64c2 ?_)
          | (refine wre 5 oSortU64c1 ?_)
          | (refine wre 8 oSortU64c0 ?_)
          | (refine wre 10 oSortU64c0 ?_)
          | (refine wre 13 oSortU64c2 ?_)
          | (refine wre 15 oSortU64c1 ?_)
          | (refine wre 18 oSortU64c0 ?_)
          | (refine wre 21 oSortU64c0 ?_)
          | (with_reducible refine wEI ?_;(first|(refine wEN ?_;skip)|(refine wEF rfl (fun K hK=>?_);go_simp)|(refine wEL rfl rfl (fun K hK=>?_);go_simp)|(refine wER rfl (fun K hK=>?_);go_simp)|(refine wEM rfl (fun K hK=>?_);go_simp;try refine ⟨_,_,⟨rfl,rfl⟩,?_⟩)|(refine wEG rfl (fun K hK=>?_);go_simp)|(refine wEA rfl (fun K hK=>?_);go_simp))))
        go_roundw
        case rel=>exact ⟨i' + 1,by go_num,by omega,by omega,by exact atP,(scanUp_go (fun x=>ltInt x dk[a]!) dk j i' hle (by simp [hl'.out])).symm.trans hsc.out⟩
        case measure=>simp [intOf];omega
      · have hl:=ltF hxi hxa hlv
        have dg:=decide_eq_false hlv
        have hi2 : Hid (i' = Sort.scanUp (fun x=>ltInt x dk[a]!) dk j i):=(scanUp_end (fun x=>ltInt x dk[a]!) dk j i' (Or.inr (by simp [hl]))).symm.trans hsc.out
        clear hl
        go_wp2_with (first
          | go_at_call 324;(with_reducible refine (lessU _ _ _).mono ?_);rintro e w9 ⟨rfl,rfl⟩
          | (refine wre 1 oSortU64c0 ?_)
          | (refine wre 3 oSortU64c2 ?_)
          | (refine wre 5 oSortU64c1 ?_)
          | (refine wre 8 oSortU64c0 ?_)
          | (refine wre 10 oSortU64c0 ?_)
          | (refine wre 13 oSortU64c2 ?_)
          | (refine wre 15 oSortU64c1 ?_)
          | (refine wre 18 oSortU64c0 ?_)
          | (refine wre 21 oSortU64c0 ?_)
          | (with_reducible refine wEI ?_;(first|(refine wEN ?_;skip)|(refine wEF rfl (fun K hK=>?_);go_simp)|(refine wEL rfl rfl (fun K hK=>?_);go_simp)|(refine wER rfl (fun K hK=>?_);go_simp)|(refine wEM rfl (fun K hK=>?_);go_simp;try refine ⟨_,_,⟨rfl,rfl⟩,?_⟩)|(refine wEG rfl (fun K hK=>?_);go_simp)|(refine wEA rfl (fun K hK=>?_);go_simp))))
        clear cxi cxa hxi hxa hlv
        (try clear dg)
        go_loopw [11] (fun vj w2=>∃ (j' : Nat),vj = .int .i64 j' ∧ j' ≤ j ∧ i' ≤ j' + 1 ∧ (row g rest).At w0 dk w2 ∧ Hid (Sort.scanDown (fun x=>!ltInt x dk[a]!) dk i' j' = Sort.scanDown (fun x=>!ltInt x dk[a]!) dk i' j)) (fun vj _=>(intOf vj).toNat)
        case atStart=>exact ⟨j,rfl,Nat.le_refl _,hij',by exact atP,rfl⟩
        case round =>
          (try clear hA2)
          obtain ⟨j',rfl,hjj,hij2,hA3,hsd⟩:=hrel
          by_cases hle2 : i' ≤ j'
          · obtain ⟨xi,cxi,hxi⟩:=row_at hA3 hs (i:=i') (by omega)
            obtain ⟨xj,cxj,hxj⟩:=row_at hA3 hs (i:=j') (by omega)
            obtain ⟨xa,cxa,hxa⟩:=row_at hA3 hs (i:=a) (by omega)
            have in1 : i' < n:=by omega
            have jn : j' < n:=by omega
            have an : a < n:=by omega
            have fx:=row_free hA3
            by_cases hlv2 : xj < xa
            · have hl:=ltT hxj hxa hlv2
              have hj2 : Hid (j' = Sort.scanDown (fun x=>!ltInt x dk[a]!) dk i' j):=(scanDown_end (fun x=>!ltInt x dk[a]!) dk i' j' (Or.inr (by simp [hl]))).symm.trans hsd.out
              clear hl
              have hlt3:=part_scans_lt ltInt a i j dk (by omega) hi2.out hj2.out hle2
              have sw:=row_sw hA3 hs in1 jn hxi hxj
              obtain ⟨v',cw⟩:=row_st hA3 hs (i:=i') jn (.int .u64 xj)
              go_wp2_with (first
                | go_at_call 324;(with_reducible refine (lessU _ _ _).mono ?_);rintro e w9 ⟨rfl,rfl⟩
                | (refine wre 1 oSortU64c0 ?_)
                | (refine wre 3 oSortU64c2 ?_)
                | (refine wre 5 oSortU64c1 ?_)
                | (refine wre 8 oSortU64c0 ?_)
                | (refine wre 10 oSortU64c0 ?_)
                | (refine wre 13 oSortU64c2 ?_)
                | (refine wre 15 oSortU64c1 ?_)
                | (refine wre 18 oSortU64c0 ?_)
                | (refine wre 21 oSortU64c0 ?_)
                | (with_reducible refine wEI ?_;(first|(refine wEN ?_;skip)|(refine wEF rfl (fun K hK=>?_);go_simp)|(refine wEL rfl rfl (fun K hK=>?_);go_simp)|(refine wER rfl (fun K hK=>?_);go_simp)|(refine wEM rfl (fun K hK=>?_);go_simp;try refine ⟨_,_,⟨rfl,rfl⟩,?_⟩)|(refine wEG rfl (fun K hK=>?_);go_simp)|(refine wEA rfl (fun K hK=>?_);go_simp))))
              (try rw [decide_eq_false (show ¬ j' < i' by omega)])
              obtain ⟨I0,hI0⟩ : ∃ I0 : Nat,I0 = i' + 1:=⟨_,rfl⟩
              obtain ⟨J0,hJ0⟩ : ∃ J0 : Nat,J0 = j' - 1:=⟨_,rfl⟩
              obtain ⟨D0,hD0⟩ : ∃ D0 : Array Int,D0 = Sort.swp dk i' j':=⟨_,rfl⟩
              have PF : Hid (Sort.partition ltInt d a b pivot = ((Sort.partLoop ltInt a I0 J0 D0).1,false,Sort.swp (Sort.partLoop ltInt a I0 J0 D0).2 (Sort.partLoop ltInt a I0 J0 D0).1 a)):=by
                rw [hI0,hJ0,hD0];exact part_first_go ltInt d a b pivot Hi.out Hj.out Hdk.out hi2.out hj2.out (by omega)
              go_loopw [10,11] (fun vi vj wr=>∃ (i j : Nat) (dk : Array Int),vi = .int .i64 i ∧ vj = .int .i64 j ∧ a < i ∧ i ≤ j + 1 ∧ j < b ∧ dk.size = n ∧ (row g rest).At w0 dk wr ∧
                  Hid (Sort.partLoop ltInt a i j dk = Sort.partLoop ltInt a I0 J0 D0)) (fun vi vj _=>(intOf vj).toNat + 1 - (intOf vi).toNat)
              case atStart=>exact ⟨i' + 1,j' - 1,Sort.swp dk i' j',by go_num,by go_num,by omega,by omega,by omega,by rw [size_swp];exact hs,by exact atP,(show Hid _ from by rw [hI0,hJ0,hD0];exact rfl)⟩
              case round =>
                clear hI0 hJ0 hD0 hj2 hi2 hlt3 Hi Hj Hdk hs hlv2 hA3 sw cw cxi cxj cxa hxi hxj hxa fx
                (try clear dg)
                obtain ⟨i,j,dk,rfl,rfl,hai,hij,hjb,hs,hA1,AE⟩:=hrel
                go_wp2
                go_loopw [10] (fun vi w1=>∃ (i' : Nat),vi = .int .i64 i' ∧ i ≤ i' ∧ i' ≤ j + 1 ∧ (row g rest).At w0 dk w1 ∧ Hid (Sort.scanUp (fun x=>ltInt x dk[a]!) dk j i' = Sort.scanUp (fun x=>ltInt x dk[a]!) dk j i)) (fun vi _=>j + 1 - (intOf vi).toNat)
                case atStart=>exact ⟨i,rfl,Nat.le_refl _,hij,by exact atP,rfl⟩
                case round =>
                  clear hA1
                  obtain ⟨i',rfl,hii,hij',hA2,hsc⟩:=hrel
                  by_cases hle : i' ≤ j
                  · obtain ⟨xi,cxi,hxi⟩:=row_at hA2 hs (i:=i') (by omega)
                    obtain ⟨xa,cxa,hxa⟩:=row_at hA2 hs (i:=a) (by omega)
                    have in1 : i' < n:=by omega
                    have an : a < n:=by omega
                    by_cases hlv : xi < xa
                    · have hl:=ltT hxi hxa hlv
                      have hl':=Lib.hid hl
                      clear hl
                      go_wp2_with (first
                        | go_at_call 324;(with_reducible refine (lessU _ _ _).mono ?_);rintro e w9 ⟨rfl,rfl⟩
                        | (refine wre 1 oSortU64c0 ?_)
                        | (refine wre 3 oSortU64c2 ?_)
                        | (refine wre 5 oSortU64c1 ?_)
                        | (refine wre 8 oSortU64c0 ?_)
                        | (refine wre 10 oSortU64c0 ?_)
                        | (refine wre 13 oSortU64c2 ?_)
                        | (refine wre 15 oSortU64c1 ?_)
                        | (refine wre 18 oSortU64c0 ?_)
                        | (refine wre 21 oSortU64c0 ?_)
                        | (with_reducible refine wEI ?_;(first|(refine wEN ?_;skip)|(refine wEF rfl (fun K hK=>?_);go_simp)|(refine wEL rfl rfl (fun K hK=>?_);go_simp)|(refine wER rfl (fun K hK=>?_);go_simp)|(refine wEM rfl (fun K hK=>?_);go_simp;try refine ⟨_,_,⟨rfl,rfl⟩,?_⟩)|(refine wEG rfl (fun K hK=>?_);go_simp)|(refine wEA rfl (fun K hK=>?_);go_simp))))
                      go_roundw
                      case rel=>exact ⟨i' + 1,by go_num,by omega,by omega,by exact atP,(scanUp_go (fun x=>ltInt x dk[a]!) dk j i' hle (by simp [hl'.out])).symm.trans hsc.out⟩
                      case measure=>simp [intOf];omega
                    · have hl:=ltF hxi hxa hlv
                      have dg:=decide_eq_false hlv
                      have hi2 : Hid (i' = Sort.scanUp (fun x=>ltInt x dk[a]!) dk j i):=(scanUp_end (fun x=>ltInt x dk[a]!) dk j i' (Or.inr (by simp [hl]))).symm.trans hsc.out
                      clear hl
                      go_wp2_with (first
                        | go_at_call 324;(with_reducible refine (lessU _ _ _).mono ?_);rintro e w9 ⟨rfl,rfl⟩
                        | (refine wre 1 oSortU64c0 ?_)
                        | (refine wre 3 oSortU64c2 ?_)
                        | (refine wre 5 oSortU64c1 ?_)
                        | (refine wre 8 oSortU64c0 ?_)
                        | (refine wre 10 oSortU64c0 ?_)
                        | (refine wre 13 oSortU64c2 ?_)
                        | (refine wre 15 oSortU64c1 ?_)
                        | (refine wre 18 oSortU64c0 ?_)
                        | (refine wre 21 oSortU64c0 ?_)
                        | (with_reducible refine wEI ?_;(first|(refine wEN ?_;skip)|(refine wEF rfl (fun K hK=>?_);go_simp)|(refine wEL rfl rfl (fun K hK=>?_);go_simp)|(refine wER rfl (fun K hK=>?_);go_simp)|(refine wEM rfl (fun K hK=>?_);go_simp;try refine ⟨_,_,⟨rfl,rfl⟩,?_⟩)|(refine wEG rfl (fun K hK=>?_);go_simp)|(refine wEA rfl (fun K hK=>?_);go_simp))))
                      clear cxi cxa hxi hxa hlv
                      (try clear dg)
                      go_loopw [11] (fun vj w2=>∃ (j' : Nat),vj = .int .i64 j' ∧ j' ≤ j ∧ i' ≤ j' + 1 ∧ (row g rest).At w0 dk w2 ∧ Hid (Sort.scanDown (fun x=>!ltInt x dk[a]!) dk i' j' = Sort.scanDown (fun x=>!ltInt x dk[a]!) dk i' j)) (fun vj _=>(intOf vj).toNat)
                      case atStart=>exact ⟨j,rfl,Nat.le_refl _,hij',by exact atP,rfl⟩
                      case round =>
                        (try clear hA2)
                        obtain ⟨j',rfl,hjj,hij2,hA3,hsd⟩:=hrel
                        by_cases hle2 : i' ≤ j'
                        · obtain ⟨xi,cxi,hxi⟩:=row_at hA3 hs (i:=i') (by omega)
                          obtain ⟨xj,cxj,hxj⟩:=row_at hA3 hs (i:=j') (by omega)
                          obtain ⟨xa,cxa,hxa⟩:=row_at hA3 hs (i:=a) (by omega)
                          have in1 : i' < n:=by omega
                          have jn : j' < n:=by omega
                          have an : a < n:=by omega
                          have fx:=row_free hA3
                          by_cases hlv2 : xj < xa
                          · have hl:=ltT hxj hxa hlv2
                            have hj2 : Hid (j' = Sort.scanDown (fun x=>!ltInt x dk[a]!) dk i' j):=(scanDown_end (fun x=>!ltInt x dk[a]!) dk i' j' (Or.inr (by simp [hl]))).symm.trans hsd.out
                            clear hl
                            have hlt3:=part_scans_lt ltInt a i j dk (by omega) hi2.out hj2.out hle2
                            have sw:=row_sw hA3 hs in1 jn hxi hxj
                            obtain ⟨v',cw⟩:=row_st hA3 hs (i:=i') jn (.int .u64 xj)
                            go_wp2_with (first
                              | go_at_call 324;(with_reducible refine (lessU _ _ _).mono ?_);rintro e w9 ⟨rfl,rfl⟩
                              | (refine wre 1 oSortU64c0 ?_)
                              | (refine wre 3 oSortU64c2 ?_)
                              | (refine wre 5 oSortU64c1 ?_)
                              | (refine wre 8 oSortU64c0 ?_)
                              | (refine wre 10 oSortU64c0 ?_)
                              | (refine wre 13 oSortU64c2 ?_)
                              | (refine wre 15 oSortU64c1 ?_)
                              | (refine wre 18 oSortU64c0 ?_)
                              | (refine wre 21 oSortU64c0 ?_)
                              | (with_reducible refine wEI ?_;(first|(refine wEN ?_;skip)|(refine wEF rfl (fun K hK=>?_);go_simp)|(refine wEL rfl rfl (fun K hK=>?_);go_simp)|(refine wER rfl (fun K hK=>?_);go_simp)|(refine wEM rfl (fun K hK=>?_);go_simp;try refine ⟨_,_,⟨rfl,rfl⟩,?_⟩)|(refine wEG rfl (fun K hK=>?_);go_simp)|(refine wEA rfl (fun K hK=>?_);go_simp))))
                            go_roundw
                            case rel=>exact ⟨i' + 1,j' - 1,Sort.swp dk i' j',by go_num,by go_num,by omega,by omega,by omega,by rw [size_swp];exact hs,by exact atP,(show Hid _ from by rw [← AE.out];exact (part_go ltInt a i j dk hi2.out hj2.out (by omega)).symm)⟩
                            case measure=>simp [intOf];omega
                          · have hl:=ltF hxj hxa hlv2
                            have dg:=decide_eq_false hlv2
                            have hl':=Lib.hid hl
                            clear hl
                            go_wp2_with (first
                              | go_at_call 324;(with_reducible refine (lessU _ _ _).mono ?_);rintro e w9 ⟨rfl,rfl⟩
                              | (refine wre 1 oSortU64c0 ?_)
                              | (refine wre 3 oSortU64c2 ?_)
                              | (refine wre 5 oSortU64c1 ?_)
                              | (refine wre 8 oSortU64c0 ?_)
                              | (refine wre 10 oSortU64c0 ?_)
                              | (refine wre 13 oSortU64c2 ?_)
                              | (refine wre 15 oSortU64c1 ?_)
                              | (refine wre 18 oSortU64c0 ?_)
                              | (refine wre 21 oSortU64c0 ?_)
                              | (with_reducible refine wEI ?_;(first|(refine wEN ?_;skip)|(refine wEF rfl (fun K hK=>?_);go_simp)|(refine wEL rfl rfl (fun K hK=>?_);go_simp)|(refine wER rfl (fun K hK=>?_);go_simp)|(refine wEM rfl (fun K hK=>?_);go_simp;try refine ⟨_,_,⟨rfl,rfl⟩,?_⟩)|(refine wEG rfl (fun K hK=>?_);go_simp)|(refine wEA rfl (fun K hK=>?_);go_simp))))
                            go_roundw
                            case rel=>exact ⟨j' - 1,by go_num,by omega,by omega,by exact atP,(scanDown_go (fun x=>!ltInt x dk[a]!) dk i' j' hle2 (by omega) (by simp [hl'.out])).symm.trans hsd.out⟩
                            case measure=>simp [intOf];omega
                        · have hj2 : Hid (j' = Sort.scanDown (fun x=>!ltInt x dk[a]!) dk i' j):=(scanDown_end (fun x=>!ltInt x dk[a]!) dk i' j' (Or.inl hle2)).symm.trans hsd.out
                          have e:=part_break ltInt a i j dk hi2.out hj2.out (by omega)
                          rw [AE.out] at e
                          have PE : Hid (Sort.partition ltInt d a b pivot = (j',false,Sort.swp dk j' a)):=by show _ = _;rw [PF.out,e]
                          clear e
                          obtain ⟨xj,cxj,hxj⟩:=row_at hA3 hs (i:=j') (by omega)
                          obtain ⟨xa,cxa,hxa⟩:=row_at hA3 hs (i:=a) (by omega)
                          have jn : j' < n:=by omega
                          have an : a < n:=by omega
                          have fx:=row_free hA3
                          have sw:=row_sw hA3 hs jn an hxj hxa
                          obtain ⟨v',cw⟩:=row_st hA3 hs (i:=j') an (.int .u64 xa)
                          go_wp2_with (first
                            | go_at_call 324;(with_reducible refine (lessU _ _ _).mono ?_);rintro e w9 ⟨rfl,rfl⟩
                            | (refine wre 1 oSortU64c0 ?_)
                            | (refine wre 3 oSortU64c2 ?_)
                            | (refine wre 5 oSortU64c1 ?_)
                            | (refine wre 8 oSortU64c0 ?_)
                            | (refine wre 10 oSortU64c0 ?_)
                            | (refine wre 13 oSortU64c2 ?_)
                            | (refine wre 15 oSortU64c1 ?_)
                            | (refine wre 18 oSortU64c0 ?_)
                            | (refine wre 21 oSortU64c0 ?_)
                            | (with_reducible refine wEI ?_;(first|(refine wEN ?_;skip)|(refine wEF rfl (fun K hK=>?_);go_simp)|(refine wEL rfl rfl (fun K hK=>?_);go_simp)|(refine wER rfl (fun K hK=>?_);go_simp)|(refine wEM rfl (fun K hK=>?_);go_simp;try refine ⟨_,_,⟨rfl,rfl⟩,?_⟩)|(refine wEG rfl (fun K hK=>?_);go_simp)|(refine wEA rfl (fun K hK=>?_);go_simp))))
                          go_ret2
                          refine ⟨?_,?_⟩
                          · rw [PE.out];rfl
                          · rw [PE.out];exact atP
                  · have hi2 : Hid (i' = Sort.scanUp (fun x=>ltInt x dk[a]!) dk j i):=(scanUp_end (fun x=>ltInt x dk[a]!) dk j i' (Or.inl hle)).symm.trans hsc.out
                    go_wp2_with (first
                      | go_at_call 324;(with_reducible refine (lessU _ _ _).mono ?_);rintro e w9 ⟨rfl,rfl⟩
                      | (refine wre 1 oSortU64c0 ?_)
                      | (refine wre 3 oSortU64c2 ?_)
                      | (refine wre 5 oSortU64c1 ?_)
                      | (refine wre 8 oSortU64c0 ?_)
                      | (refine wre 10 oSortU64c0 ?_)
                      | (refine wre 13 oSortU64c2 ?_)
                      | (refine wre 15 oSortU64c1 ?_)
                      | (refine wre 18 oSortU64c0 ?_)
                      | (refine wre 21 oSortU64c0 ?_)
                      | (with_reducible refine wEI ?_;(first|(refine wEN ?_;skip)|(refine wEF rfl (fun K hK=>?_);go_simp)|(refine wEL rfl rfl (fun K hK=>?_);go_simp)|(refine wER rfl (fun K hK=>?_);go_simp)|(refine wEM rfl (fun K hK=>?_);go_simp;try refine ⟨_,_,⟨rfl,rfl⟩,?_⟩)|(refine wEG rfl (fun K hK=>?_);go_simp)|(refine wEA rfl (fun K hK=>?_);go_simp))))
                    go_loopw [11] (fun vj w2=>∃ (j' : Nat),vj = .int .i64 j' ∧ j' ≤ j ∧ i' ≤ j' + 1 ∧ (row g rest).At w0 dk w2 ∧ Hid (Sort.scanDown (fun x=>!ltInt x dk[a]!) dk i' j' = Sort.scanDown (fun x=>!ltInt x dk[a]!) dk i' j)) (fun vj _=>(intOf vj).toNat)
                    case atStart=>exact ⟨j,rfl,Nat.le_refl _,hij',by exact atP,rfl⟩
                    case round =>
                      (try clear hA2)
                      obtain ⟨j',rfl,hjj,hij2,hA3,hsd⟩:=hrel
                      by_cases hle2 : i' ≤ j'
                      · exfalso;omega
                      · have hj2 : Hid (j' = Sort.scanDown (fun x=>!ltInt x dk[a]!) dk i' j):=(scanDown_end (fun x=>!ltInt x dk[a]!) dk i' j' (Or.inl hle2)).symm.trans hsd.out
                        have e:=part_break ltInt a i j dk hi2.out hj2.out (by omega)
                        rw [AE.out] at e
                        have PE : Hid (Sort.partition ltInt d a b pivot = (j',false,Sort.swp dk j' a)):=by show _ = _;rw [PF.out,e]
                        clear e
                        obtain ⟨xj,cxj,hxj⟩:=row_at hA3 hs (i:=j') (by omega)
                        obtain ⟨xa,cxa,hxa⟩:=row_at hA3 hs (i:=a) (by omega)
                        have jn : j' < n:=by omega
                        have an : a < n:=by omega
                        have fx:=row_free hA3
                        have sw:=row_sw hA3 hs jn an hxj hxa
                        obtain ⟨v',cw⟩:=row_st hA3 hs (i:=j') an (.int .u64 xa)
                        go_wp2_with (first
                          | go_at_call 324;(with_reducible refine (lessU _ _ _).mono ?_);rintro e w9 ⟨rfl,rfl⟩
                          | (refine wre 1 oSortU64c0 ?_)
                          | (refine wre 3 oSortU64c2 ?_)
                          | (refine wre 5 oSortU64c1 ?_)
                          | (refine wre 8 oSortU64c0 ?_)
                          | (refine wre 10 oSortU64c0 ?_)
                          | (refine wre 13 oSortU64c2 ?_)
                          | (refine wre 15 oSortU64c1 ?_)
                          | (refine wre 18 oSortU64c0 ?_)
                          | (refine wre 21 oSortU64c0 ?_)
                          | (with_reducible refine wEI ?_;(first|(refine wEN ?_;skip)|(refine wEF rfl (fun K hK=>?_);go_simp)|(refine wEL rfl rfl (fun K hK=>?_);go_simp)|(refine wER rfl (fun K hK=>?_);go_simp)|(refine wEM rfl (fun K hK=>?_);go_simp;try refine ⟨_,_,⟨rfl,rfl⟩,?_⟩)|(refine wEG rfl (fun K hK=>?_);go_simp)|(refine wEA rfl (fun K hK=>?_);go_simp))))
                        go_ret2
                        refine ⟨?_,?_⟩
                        · rw [PE.out];rfl
                        · rw [PE.out];exact atP
            · have hl:=ltF hxj hxa hlv2
              have dg:=decide_eq_false hlv2
              have hl':=Lib.hid hl
              clear hl
              go_wp2_with (first
                | go_at_call 324;(with_reducible refine (lessU _ _ _).mono ?_);rintro e w9 ⟨rfl,rfl⟩
                | (refine wre 1 oSortU64c0 ?_)
                | (refine wre 3 oSortU64c2 ?_)
                | (refine wre 5 oSortU64c1 ?_)
                | (refine wre 8 oSortU64c0 ?_)
                | (refine wre 10 oSortU64c0 ?_)
                | (refine wre 13 oSortU64c2 ?_)
                | (refine wre 15 oSortU64c1 ?_)
                | (refine wre 18 oSortU64c0 ?_)
                | (refine wre 21 oSortU64c0 ?_)
                | (with_reducible refine wEI ?_;(first|(refine wEN ?_;skip)|(refine wEF rfl (fun K hK=>?_);go_simp)|(refine wEL rfl rfl (fun K hK=>?_);go_simp)|(refine wER rfl (fun K hK=>?_);go_simp)|(refine wEM rfl (fun K hK=>?_);go_simp;try refine ⟨_,_,⟨rfl,rfl⟩,?_⟩)|(refine wEG rfl (fun K hK=>?_);go_simp)|(refine wEA rfl (fun K hK=>?_);go_simp))))
              go_roundw
              case rel=>exact ⟨j' - 1,by go_num,by omega,by omega,by exact atP,(scanDown_go (fun x=>!ltInt x dk[a]!) dk i' j' hle2 (by omega) (by simp [hl'.out])).symm.trans hsd.out⟩
              case measure=>simp [intOf];omega
          · have hj2 : Hid (j' = Sort.scanDown (fun x=>!ltInt x dk[a]!) dk i' j):=(scanDown_end (fun x=>!ltInt x dk[a]!) dk i' j' (Or.inl hle2)).symm.trans hsd.out
            have e:=part_first_break ltInt d a b pivot Hi.out Hj.out Hdk.out hi2.out hj2.out (by omega)
            have PE : Hid (Sort.partition ltInt d a b pivot = (j',true,Sort.swp dk j' a)):=e
            clear e
            obtain ⟨xj,cxj,hxj⟩:=row_at hA3 hs (i:=j') (by omega)
            obtain ⟨xa,cxa,hxa⟩:=row_at hA3 hs (i:=a) (by omega)
            have jn : j' < n:=by omega
            have an : a < n:=by omega
            have fx:=row_free hA3
            have sw:=row_sw hA3 hs jn an hxj hxa
            obtain ⟨v',cw⟩:=row_st hA3 hs (i:=j') an (.int .u64 xa)
            go_wp2_with (first
              | go_at_call 324;(with_reducible refine (lessU _ _ _).mono ?_);rintro e w9 ⟨rfl,rfl⟩
              | (refine wre 1 oSortU64c0 ?_)
              | (refine wre 3 oSortU64c2 ?_)
              | (refine wre 5 oSortU64c1 ?_)
              | (refine wre 8 oSortU64c0 ?_)
              | (refine wre 10 oSortU64c0 ?_)
              | (refine wre 13 oSortU64c2 ?_)
              | (refine wre 15 oSortU64c1 ?_)
              | (refine wre 18 oSortU64c0 ?_)
              | (refine wre 21 oSortU64c0 ?_)
              | (with_reducible refine wEI ?_;(first|(refine wEN ?_;skip)|(refine wEF rfl (fun K hK=>?_);go_simp)|(refine wEL rfl rfl (fun K hK=>?_);go_simp)|(refine wER rfl (fun K hK=>?_);go_simp)|(refine wEM rfl (fun K hK=>?_);go_simp;try refine ⟨_,_,⟨rfl,rfl⟩,?_⟩)|(refine wEG rfl (fun K hK=>?_);go_simp)|(refine wEA rfl (fun K hK=>?_);go_simp))))
            go_ret2
            refine ⟨?_,?_⟩
            · rw [PE.out];rfl
            · rw [PE.out];exact atP
    · have hi2 : Hid (i' = Sort.scanUp (fun x=>ltInt x dk[a]!) dk j i):=(scanUp_end (fun x=>ltInt x dk[a]!) dk j i' (Or.inl hle)).symm.trans hsc.out
      go_wp2_with (first
        | go_at_call 324;(with_reducible refine (lessU _ _ _).mono ?_);rintro e w9 ⟨rfl,rfl⟩
        | (refine wre 1 oSortU64c0 ?_)
        | (refine wre 3 oSortU64c2 ?_)
        | (refine wre 5 oSortU64c1 ?_)
        | (refine wre 8 oSortU64c0 ?_)
        | (refine wre 10 oSortU64c0 ?_)
        | (refine wre 13 oSortU64c2 ?_)
        | (refine wre 15 oSortU64c1 ?_)
        | (refine wre 18 oSortU64c0 ?_)
        | (refine wre 21 oSortU64c0 ?_)
        | (with_reducible refine wEI ?_;(first|(refine wEN ?_;skip)|(refine wEF rfl (fun K hK=>?_);go_simp)|(refine wEL rfl rfl (fun K hK=>?_);go_simp)|(refine wER rfl (fun K hK=>?_);go_simp)|(refine wEM rfl (fun K hK=>?_);go_simp;try refine ⟨_,_,⟨rfl,rfl⟩,?_⟩)|(refine wEG rfl (fun K hK=>?_);go_simp)|(refine wEA rfl (fun K hK=>?_);go_simp))))
      go_loopw [11] (fun vj w2=>∃ (j' : Nat),vj = .int .i64 j' ∧ j' ≤ j ∧ i' ≤ j' + 1 ∧ (row g rest).At w0 dk w2 ∧ Hid (Sort.scanDown (fun x=>!ltInt x dk[a]!) dk i' j' = Sort.scanDown (fun x=>!ltInt x dk[a]!) dk i' j)) (fun vj _=>(intOf vj).toNat)
      case atStart=>exact ⟨j,rfl,Nat.le_refl _,hij',by exact atP,rfl⟩
      case round =>
        (try clear hA2)
        obtain ⟨j',rfl,hjj,hij2,hA3,hsd⟩:=hrel
        by_cases hle2 : i' ≤ j'
        · exfalso;omega
        · have hj2 : Hid (j' = Sort.scanDown (fun x=>!ltInt x dk[a]!) dk i' j):=(scanDown_end (fun x=>!ltInt x dk[a]!) dk i' j' (Or.inl hle2)).symm.trans hsd.out
          have e:=part_first_break ltInt d a b pivot Hi.out Hj.out Hdk.out hi2.out hj2.out (by omega)
          have PE : Hid (Sort.partition ltInt d a b pivot = (j',true,Sort.swp dk j' a)):=e
          clear e
          obtain ⟨xj,cxj,hxj⟩:=row_at hA3 hs (i:=j') (by omega)
          obtain ⟨xa,cxa,hxa⟩:=row_at hA3 hs (i:=a) (by omega)
          have jn : j' < n:=by omega
          have an : a < n:=by omega
          have fx:=row_free hA3
          have sw:=row_sw hA3 hs jn an hxj hxa
          obtain ⟨v',cw⟩:=row_st hA3 hs (i:=j') an (.int .u64 xa)
          go_wp2_with (first
            | go_at_call 324;(with_reducible refine (lessU _ _ _).mono ?_);rintro e w9 ⟨rfl,rfl⟩
            | (refine wre 1 oSortU64c0 ?_)
            | (refine wre 3 oSortU64c2 ?_)
            | (refine wre 5 oSortU64c1 ?_)
            | (refine wre 8 oSortU64c0 ?_)
            | (refine wre 10 oSortU64c0 ?_)
            | (refine wre 13 oSortU64c2 ?_)
            | (refine wre 15 oSortU64c1 ?_)
            | (refine wre 18 oSortU64c0 ?_)
            | (refine wre 21 oSortU64c0 ?_)
            | (with_reducible refine wEI ?_;(first|(refine wEN ?_;skip)|(refine wEF rfl (fun K hK=>?_);go_simp)|(refine wEL rfl rfl (fun K hK=>?_);go_simp)|(refine wER rfl (fun K hK=>?_);go_simp)|(refine wEM rfl (fun K hK=>?_);go_simp;try refine ⟨_,_,⟨rfl,rfl⟩,?_⟩)|(refine wEG rfl (fun K hK=>?_);go_simp)|(refine wEA rfl (fun K hK=>?_);go_simp))))
          go_ret2
          refine ⟨?_,?_⟩
          · rw [PE.out];rfl
          · rw [PE.out];exact atP
end Go.Proofs.Wx.U64
