import Derived.Test.YtdokbceiganhdaaGreatDoorM25
set_option maxRecDepth 100000
set_option maxHeartbeats 1000000
set_option linter.unusedVariables false
set_option linter.unusedSimpArgs false
set_option linter.deprecated false
set_option linter.all false
set_option linter.unusedSectionVars false
namespace Go.Proofs.Wx.U32
open Go Go.RowKit Go.Sort
abbrev oSortU32b0 : List (Nat × Cls):=[(0,.free),(1,.free),(2,.free),(3,.free),(4,.free),(5,.free),(6,.free),(7,.free),(8,.free),(9,.free),(10,.look),(11,.free),(12,.free),(13,.free),(14,.free),(15,.free),(16,.free),(17,.look),(18,.act),(19,.free)]
abbrev oSortU32b1 : List (Nat × Cls):=[(0,.free),(1,.free),(2,.free),(3,.free),(4,.free),(5,.look),(6,.free),(7,.free),(8,.free),(9,.free),(10,.free),(11,.look),(12,.act),(13,.free)]
abbrev oSortU32b2 : List (Nat × Cls):=[(0,.free),(1,.free),(2,.free),(3,.free),(4,.free),(5,.free),(6,.free),(7,.free),(8,.free),(9,.free),(10,.free),(11,.free),(12,.free),(13,.look),(14,.free),(15,.free),(16,.free),(17,.free),(18,.free),(19,.look),(20,.free),(21,.act),(22,.free),(23,.act)]
variable {g n c : Nat} {rest : List Value}
set_option maxRecDepth 1000000 in
set_option maxHeartbeats 12800000 in
theorem siftDown {lo hi first : Nat} {w0 w : World} {d : Array Int} (hA : (row g rest).At w0 d w) (hn : d.size = n) (hlo : lo ≤ hi) (hb : first + hi ≤ n) (big : n < 400000) :
    Calls Tryz.prog 347 #[.slice (some ⟨g,0,none⟩) n c,.int .i64 lo,.int .i64 hi,.int .i64 first] w fun e w'=>e = .returned (.tuple #[]) ∧ (row g rest).At w0 (Sort.siftDown ltInt hi first lo d) w':=by
  go_enter Tryz.func347,Tryz.ntmps347
  go_wp2
  go_loopg [8] (hi - lo) (fun kx s8 wr=>∃ (root : Nat) (dk : Array Int),s8 = .int .i64 root ∧ root ≤ hi ∧ hi - root ≤ kx ∧ dk.size = n ∧ (row g rest).At w0 dk wr ∧ Hid (Sort.siftDown ltInt hi first root dk = Sort.siftDown ltInt hi first lo d))
  case atStart=>exact ⟨lo,d,rfl,hlo,Nat.le_refl _,hn,hA,rfl⟩
  case round =>
    clear hA
    obtain ⟨root,dk,rfl,hr,hkx,hds,hA1,HE⟩:=hrel
    by_cases h0 : hi ≤ 2 * root + 1
    · have h0z : (hi : Int) ≤ 2 * (root : Int) + 1:=by omega
      go_wp2
      go_end0
      refine ⟨rfl,?_⟩
      rw [← HE.out,sd_end ltInt dk h0]
      exact atP
    · have h0z : ¬ ((hi : Int) ≤ 2 * (root : Int) + 1):=by omega
      obtain ⟨r,hr'⟩ : ∃ r,r = first + root:=⟨_,rfl⟩
      obtain ⟨c1,hc1⟩ : ∃ c1,c1 = first + (2 * root + 1):=⟨_,rfl⟩
      have rn : r < n:=by omega
      have w4 : IntKind.i64.wrap (2 * (root : Int) + 1 + 1) = 2 * (root : Int) + 1 + 1:=IntWalk.i64_in _ (by omega)
      have n1 : c1 < n:=by omega
      have wR:=wrk (z:=(first : Int) + (root : Int)) r (by omega) (by omega)
      have w1:=wrk (z:=(first : Int) + (2 * (root : Int) + 1)) c1 (by omega) (by omega)
      have R : Hid (first + root = r):=hr'.symm
      have C1 : Hid (first + (2 * root + 1) = c1):=hc1.symm
      obtain ⟨x,cx,hx⟩:=row_at hA1 hds rn
      obtain ⟨y,cy,hy⟩:=row_at hA1 hds n1
      have fx:=row_free hA1
      by_cases h1 : 2 * root + 2 < hi
      · have h1z : 2 * (root : Int) + 1 + 1 < (hi : Int):=by omega
        obtain ⟨c2,hc2⟩ : ∃ c2,c2 = first + (2 * root + 2):=⟨_,rfl⟩
        have n2 : c2 < n:=by omega
        have w2:=wrk (z:=(c1 : Int) + 1) c2 (by omega) (by omega)
        have w3:=wrk (z:=(first : Int) + (2 * (root : Int) + 1 + 1)) c2 (by omega) (by omega)
        have C2 : Hid (first + (2 * root + 2) = c2):=hc2.symm
        obtain ⟨z,cz,hz⟩:=row_at hA1 hds n2
        clear hr' hc1 hc2
        by_cases hyz : y < z
        · have hL : Hid _:=ltT hy hz hyz
          have sw:=row_sw hA1 hds rn n2 hx hz
          obtain ⟨v',cw⟩:=row_st hA1 hds (i:=r) n2 (.int .u32 z)
          by_cases hxz : x < z
          · have hG : Hid _:=ltT hx hz hxz
            go_wp2_with (first
              | go_at_call 342;with_reducible refine (lessU _ _ _).mono ?_;rintro e w9 ⟨rfl,rfl⟩
              | (refine wre 3 oSortU32b0 ?_)
              | (refine wre 5 oSortU32b1 ?_)
              | (refine wre 6 oSortU32b2 ?_)
              | (with_reducible refine wEI ?_;(first|(refine wEN ?_;skip)|(refine wEF rfl (fun K hK=>?_);go_simp)|(refine wEL rfl rfl (fun K hK=>?_);go_simp)|(refine wER rfl (fun K hK=>?_);go_simp)|(refine wEM rfl (fun K hK=>?_);go_simp;try refine ⟨_,_,⟨rfl,rfl⟩,?_⟩)|(refine wEG rfl (fun K hK=>?_);go_simp)|(refine wEA rfl (fun K hK=>?_);go_simp))))
            go_roundg (hi - (2 * root + 2))
            case measure=>omega
            case rel=>exact ⟨2 * root + 2,swp dk r c2,by go_num,by omega,Nat.le_refl _,by rw [size_swp];exact hds,by exact atP,(show Hid _ from by rw [← HE.out,sd_right_go ltInt dk h1 (by rw [C1.out,C2.out];exact hL.out) (by rw [R.out,C2.out];exact hG.out),R.out,C2.out];exact rfl)⟩
          · have hG : Hid _:=ltF hx hz hxz
            have dG:=decide_eq_false hxz
            clear sw cw
            go_wp2_with (first
              | go_at_call 342;with_reducible refine (lessU _ _ _).mono ?_;rintro e w9 ⟨rfl,rfl⟩
              | (refine wre 3 oSortU32b0 ?_)
              | (refine wre 5 oSortU32b1 ?_)
              | (refine wre 6 oSortU32b2 ?_)
              | (with_reducible refine wEI ?_;(first|(refine wEN ?_;skip)|(refine wEF rfl (fun K hK=>?_);go_simp)|(refine wEL rfl rfl (fun K hK=>?_);go_simp)|(refine wER rfl (fun K hK=>?_);go_simp)|(refine wEM rfl (fun K hK=>?_);go_simp;try refine ⟨_,_,⟨rfl,rfl⟩,?_⟩)|(refine wEG rfl (fun K hK=>?_);go_simp)|(refine wEA rfl (fun K hK=>?_);go_simp))))
            (try simp only [Exit.inBlock,Exit.then]);refine bodyPost_ret (results_none rfl _ _ _) rfl ?_
            refine ⟨rfl,?_⟩
            rw [← HE.out,sd_right_stop ltInt dk h1 (by rw [C1.out,C2.out];exact hL.out) (by rw [R.out,C2.out];exact hG.out)]
            exact atP
        · have hL : Hid _:=ltF hy hz hyz
          have sw:=row_sw hA1 hds rn n1 hx hy
          obtain ⟨v',cw⟩:=row_st hA1 hds (i:=r) n1 (.int .u32 y)
          by_cases hxy : x < y
          · have hG : Hid _:=ltT hx hy hxy
            go_wp2_with (first
              | go_at_call 342;with_reducible refine (lessU _ _ _).mono ?_;rintro e w9 ⟨rfl,rfl⟩
              | (refine wre 3 oSortU32b0 ?_)
              | (refine wre 5 oSortU32b1 ?_)
              | (refine wre 6 oSortU32b2 ?_)
              | (with_reducible refine wEI ?_;(first|(refine wEN ?_;skip)|(refine wEF rfl (fun K hK=>?_);go_simp)|(refine wEL rfl rfl (fun K hK=>?_);go_simp)|(refine wER rfl (fun K hK=>?_);go_simp)|(refine wEM rfl (fun K hK=>?_);go_simp;try refine ⟨_,_,⟨rfl,rfl⟩,?_⟩)|(refine wEG rfl (fun K hK=>?_);go_simp)|(refine wEA rfl (fun K hK=>?_);go_simp))))
            go_roundg (hi - (2 * root + 1))
            case measure=>omega
            case rel=>exact ⟨2 * root + 1,swp dk r c1,by go_num,by omega,Nat.le_refl _,by rw [size_swp];exact hds,by exact atP,(show Hid _ from by rw [← HE.out,sd_left_go ltInt dk (by omega) (fun _=>by rw [C1.out,C2.out];exact hL.out) (by rw [R.out,C1.out];exact hG.out),R.out,C1.out];exact rfl)⟩
          · have hG : Hid _:=ltF hx hy hxy
            have dG:=decide_eq_false hxy
            clear sw cw
            go_wp2_with (first
              | go_at_call 342;with_reducible refine (lessU _ _ _).mono ?_;rintro e w9 ⟨rfl,rfl⟩
              | (refine wre 3 oSortU32b0 ?_)
              | (refine wre 5 oSortU32b1 ?_)
              | (refine wre 6 oSortU32b2 ?_)
              | (with_reducible refine wEI ?_;(first|(refine wEN ?_;skip)|(refine wEF rfl (fun K hK=>?_);go_simp)|(refine wEL rfl rfl (fun K hK=>?_);go_simp)|(refine wER rfl (fun K hK=>?_);go_simp)|(refine wEM rfl (fun K hK=>?_);go_simp;try refine ⟨_,_,⟨rfl,rfl⟩,?_⟩)|(refine wEG rfl (fun K hK=>?_);go_simp)|(refine wEA rfl (fun K hK=>?_);go_simp))))
            (try simp only [Exit.inBlock,Exit.then]);refine bodyPost_ret (results_none rfl _ _ _) rfl ?_
            refine ⟨rfl,?_⟩
            rw [← HE.out,sd_left_stop ltInt dk (by omega) (fun _=>by rw [C1.out,C2.out];exact hL.out) (by rw [R.out,C1.out];exact hG.out)]
            exact atP
      · have h1z : ¬ (2 * (root : Int) + 1 + 1 < (hi : Int)):=by omega
        have sw:=row_sw hA1 hds rn n1 hx hy
        obtain ⟨v',cw⟩:=row_st hA1 hds (i:=r) n1 (.int .u32 y)
        clear hr' hc1
        by_cases hxy : x < y
        · have hG : Hid _:=ltT hx hy hxy
          go_wp2_with (first
            | go_at_call 342;with_reducible refine (lessU _ _ _).mono ?_;rintro e w9 ⟨rfl,rfl⟩
            | (refine wre 3 oSortU32b0 ?_)
            | (refine wre 5 oSortU32b1 ?_)
            | (refine wre 6 oSortU32b2 ?_)
            | (with_reducible refine wEI ?_;(first|(refine wEN ?_;skip)|(refine wEF rfl (fun K hK=>?_);go_simp)|(refine wEL rfl rfl (fun K hK=>?_);go_simp)|(refine wER rfl (fun K hK=>?_);go_simp)|(refine wEM rfl (fun K hK=>?_);go_simp;try refine ⟨_,_,⟨rfl,rfl⟩,?_⟩)|(refine wEG rfl (fun K hK=>?_);go_simp)|(refine wEA rfl (fun K hK=>?_);go_simp))))
          go_roundg (hi - (2 * root + 1))
          case measure=>omega
          case rel=>exact ⟨2 * root + 1,swp dk r c1,by go_num,by omega,Nat.le_refl _,by rw [size_swp];exact hds,by exact atP,(show Hid _ from by rw [← HE.out,sd_left_go ltInt dk (by omega) (fun h=>absurd h h1) (by rw [R.out,C1.out];exact hG.out),R.out,C1.out];exact rfl)⟩
        · have hG : Hid _:=ltF hx hy hxy
          have dG:=decide_eq_false hxy
          clear sw cw
          go_wp2_with (first
            | go_at_call 342;with_reducible refine (lessU _ _ _).mono ?_;rintro e w9 ⟨rfl,rfl⟩
            | (refine wre 3 oSortU32b0 ?_)
            | (refine wre 5 oSortU32b1 ?_)
            | (refine wre 6 oSortU32b2 ?_)
            | (with_reducible refine wEI ?_;(first|(refine wEN ?_;skip)|(refine wEF rfl (fun K hK=>?_);go_simp)|(refine wEL rfl rfl (fun K hK=>?_);go_simp)|(refine wER rfl (fun K hK=>?_);go_simp)|(refine wEM rfl (fun K hK=>?_);go_simp;try refine ⟨_,_,⟨rfl,rfl⟩,?_⟩)|(refine wEG rfl (fun K hK=>?_);go_simp)|(refine wEA rfl (fun K hK=>?_);go_simp))))
          (try simp only [Exit.inBlock,Exit.then]);refine bodyPost_ret (results_none rfl _ _ _) rfl ?_
          refine ⟨rfl,?_⟩
          rw [← HE.out,sd_left_stop ltInt dk (by omega) (fun h=>absurd h h1) (by rw [R.out,C1.out];exact hG.out)]
          exact atP
set_option maxRecDepth 1000000 in
set_option maxHeartbeats 12800000 in
theorem heapSort {a b : Nat} {w0 w : World} {d : Array Int} (hA : (row g rest).At w0 d w) (hn : d.size = n) (hab : a ≤ b) (hb : b ≤ n) (big : n < 400000) :
    Calls Tryz.prog 337 #[.slice (some ⟨g,0,none⟩) n c,.int .i64 a,.int .i64 b] w fun e w'=>e = .returned (.tuple #[]) ∧ (row g rest).At w0 (Sort.heapSort ltInt d a b) w':=by
  have ecast : ((b - a : Nat) : Int) = (b : Int) - (a : Int):=by omega
  go_enter Tryz.func337,Tryz.ntmps337
  go_wp2
  go_loopg [9] ((b - a - 1) / 2 + 1) (fun kx s9 wr=>s9 = .int .i64 ((kx : Int) - 1) ∧ kx ≤ (b - a - 1) / 2 + 1 ∧ ∃ (dk : Array Int),dk.size = n ∧ (row g rest).At w0 dk wr ∧
    Hid (heapBuild ltInt (b - a) a kx dk = heapBuild ltInt (b - a) a ((b - a - 1) / 2 + 1) d))
  case atStart=>exact ⟨by rw [half_start hab],Nat.le_refl _,d,hn,hA,rfl⟩
  case round =>
    clear hA
    obtain ⟨rfl,hkk,dk,hds,hA1,HE⟩:=hrel
    cases gk with
    | zero =>
      have hB : Hid (dk = heapBuild ltInt (b - a) a ((b - a - 1) / 2 + 1) d):=HE.out
      clear HE hkk
      go_wp2
      go_loopg [10] (b - a) (fun kx s10 wr2=>s10 = .int .i64 ((kx : Int) - 1) ∧ kx ≤ b - a ∧ ∃ (dj : Array Int),dj.size = n ∧ (row g rest).At w0 dj wr2 ∧ Hid (heapPop ltInt a kx dj = heapPop ltInt a (b - a) dk))
      case atStart=>exact ⟨by rw [ecast],Nat.le_refl _,dk,hds,by exact atP,rfl⟩
      case round =>
        clear hA1
        obtain ⟨rfl,hkk,dj,hdj,hA2,HE2⟩:=hrel
        cases gk with
        | zero =>
          go_wp2
          go_end0
          have e : dj = Sort.heapSort ltInt d a b:=by rw [Sort.heapSort,← hB.out,← HE2.out];rfl
          rw [← e]
          exact ⟨rfl,by exact atP⟩
        | succ kx =>
          obtain ⟨m,hm'⟩ : ∃ m,m = a + kx:=⟨_,rfl⟩
          have an : a < n:=by omega
          have mn : m < n:=by omega
          have wM:=wrk (z:=(a : Int) + (kx : Int)) m (by omega) (by omega)
          obtain ⟨x,cx,hx⟩:=row_at hA2 hdj an
          obtain ⟨y,cy,hy⟩:=row_at hA2 hdj mn
          have fx:=row_free hA2
          have sw:=row_sw hA2 hdj an mn hx hy
          obtain ⟨v',cw⟩:=row_st hA2 hdj (i:=a) mn (.int .u32 y)
          have hd2 : (swp dj a m).size = n:=by rw [size_swp];exact hdj
          have hcall : ∀ W : World,(row g rest).At w0 (swp dj a m) W → Calls Tryz.prog 347 #[.slice (some ⟨g,0,none⟩) n c,.int .i64 0,.int .i64 kx,.int .i64 a] W fun e w'=>e = .returned (.tuple #[]) ∧ (row g rest).At w0 (Sort.siftDown ltInt kx a 0 (swp dj a m)) w':=fun W hA=>siftDown (lo:=0) (hi:=kx) (first:=a) hA hd2 (Nat.zero_le _) (by omega) big
          have M : Hid (a + kx = m):=hm'.symm
          clear hm'
          go_wp2_with (first
            | go_at_call 347;with_reducible refine (hcall _ (by exact atP)).mono ?_;rintro e w1 ⟨rfl,hA3⟩
            | (refine wre 10 [(0,.free),(1,.free),(2,.free),(3,.free),(4,.free),(5,.free),(6,.free),(7,.free),(8,.free),(9,.free),(10,.free),(11,.look),(12,.free),(13,.free),(14,.free),(15,.look),(16,.free),(17,.act),(18,.free),(19,.act)] ?_)
            | (with_reducible refine wEI ?_;(first|(refine wEN ?_;skip)|(refine wEF rfl (fun K hK=>?_);go_simp)|(refine wEL rfl rfl (fun K hK=>?_);go_simp)|(refine wER rfl (fun K hK=>?_);go_simp)|(refine wEM rfl (fun K hK=>?_);go_simp;try refine ⟨_,_,⟨rfl,rfl⟩,?_⟩)|(refine wEG rfl (fun K hK=>?_);go_simp)|(refine wEA rfl (fun K hK=>?_);go_simp))))
          go_roundg kx
          case measure=>omega
          case rel =>
            have hss : (Sort.siftDown ltInt kx a 0 (swp dj a m)).size = (swp dj a m).size:=size_siftDown ltInt _ _ _ _ _ (Nat.le_refl _)
            exact ⟨by simp,by omega,Sort.siftDown ltInt kx a 0 (swp dj a m),by rw [hss,hd2],by exact atP,(show Hid _ from by rw [← HE2.out,← M.out];exact rfl)⟩
    | succ kx =>
      have hcall:=siftDown (c:=c) (lo:=kx) (hi:=b - a) (first:=a) hA1 hds (by omega) (by omega) big
      rw [ecast] at hcall
      go_wp2_with (first|(go_at_call 347;refine hcall.mono ?_;rintro e w1 ⟨rfl,hA3⟩))
      go_roundg kx
      case measure=>omega
      case rel =>
        have hss : (Sort.siftDown ltInt (b - a) a kx dk).size = dk.size:=size_siftDown ltInt _ _ _ _ _ (Nat.le_refl _)
        exact ⟨by simp,by omega,Sort.siftDown ltInt (b - a) a kx dk,by rw [hss,hds],by exact atP,HE⟩
end Go.Proofs.Wx.U32
