import Derived.Test.YtdokbceiganhdaaGreatDoorM25
import Derived.Sort.LotD4
set_option maxRecDepth 100000
set_option maxHeartbeats 1000000
set_option linter.unusedVariables false
set_option linter.unusedSimpArgs false
set_option linter.deprecated false
set_option linter.all false
set_option linter.unusedSectionVars false
namespace Go.Proofs.Wx.U32
open Go Go.RowKit Go.Sort
abbrev oSortU32d0 : List (Nat × Cls):=[(0,.free),(1,.free),(2,.free),(3,.free),(4,.free),(5,.free),(6,.free),(7,.look),(8,.free),(9,.free),(10,.free),(11,.free),(12,.look),(13,.act),(14,.free),(15,.free)]
abbrev oSortU32d1 : List (Nat × Cls):=[(0,.free),(1,.free),(2,.free),(3,.free),(4,.free),(5,.free),(6,.free),(7,.free),(8,.free),(9,.look),(10,.free),(11,.free),(12,.free),(13,.look),(14,.free),(15,.act),(16,.free),(17,.act)]
abbrev oSortU32d2 : List (Nat × Cls):=[(0,.free),(1,.free),(2,.free),(3,.look),(4,.free),(5,.free),(6,.free),(7,.free),(8,.look),(9,.act),(10,.free)]
variable {g n c : Nat} {rest : List Value}
set_option maxRecDepth 1000000 in
set_option maxHeartbeats 12800000 in
theorem partIns {a b : Nat} {w0 w : World} {d : Array Int} (hA : (row g rest).At w0 d w) (hn : d.size = n) (hab : a < b) (hb : b ≤ n) (big : n < 400000) :
    Calls Tryz.prog 341 #[.slice (some ⟨g,0,none⟩) n c,.int .i64 a,.int .i64 b] w fun e w'=>e = .returned (.bool (Sort.partialInsertionSort ltInt d a b).2) ∧ (row g rest).At w0 (Sort.partialInsertionSort ltInt d a b).1 w':=by
  go_enter Tryz.func341,Tryz.ntmps341
  go_wp2
  go_loopg [7,8] 5 (fun g1 vi vs wr=>∃ (i q : Nat) (dk : Array Int),vi = .int .i64 i ∧ vs = .int .i64 q ∧ q ≤ 5 ∧ 5 - q ≤ g1 ∧ a < i ∧ i ≤ b ∧ dk.size = n ∧ (row g rest).At w0 dk wr ∧ Hid (partialIns ltInt a b (5 - q) i dk = partialIns ltInt a b 5 (a + 1) d))
  case atStart=>exact ⟨a + 1,0,d,by go_num,rfl,by omega,by omega,by omega,by omega,hn,hA,rfl⟩
  case round =>
    clear hA
    obtain ⟨i,q,dk,rfl,rfl,hs5,hg1,hai,hib,hsk,hA1,HO⟩:=hrel
    by_cases hs : q < 5
    · have hsz5 : (q : Int) < 5:=by omega
      go_wp2
      go_loopg [7] (b - i) (fun g2 vi wr2=>∃ (kx : Nat),vi = .int .i64 kx ∧ i ≤ kx ∧ kx ≤ b ∧ b - kx ≤ g2 ∧ (row g rest).At w0 dk wr2 ∧ Hid (scanSorted ltInt dk b kx = scanSorted ltInt dk b i))
      case atStart=>exact ⟨i,rfl,Nat.le_refl _,hib,Nat.le_refl _,by exact atP,rfl⟩
      case round =>
        clear hA1
        obtain ⟨kx,rfl,hik,hkb,hg2,hA2,HSc⟩:=hrel
        by_cases hkb' : kx < b
        · have hkz : (kx : Int) < (b : Int):=by omega
          obtain ⟨x,cx,hx⟩:=row_at hA2 hsk (i:=kx) (by omega)
          obtain ⟨y,cy,hy⟩:=row_at hA2 hsk (i:=kx - 1) (by omega)
          have fx:=row_free hA2
          have j1 : kx < n:=by omega
          have j2 : kx - 1 < n:=by omega
          have wj:=wrk (z:=(kx : Int) - 1) (kx - 1) (by omega) (by omega)
          have sw:=row_sw hA2 hsk (i:=kx) (j:=kx - 1) (by omega) (by omega) hx hy
          obtain ⟨v',cw⟩:=row_st hA2 hsk (i:=kx) j2 (.int .u32 y)
          by_cases hlv : x < y
          · have hl:=ltT hx hy hlv
            have HK : Hid (scanSorted ltInt dk b i = kx):=by show _ = _;rw [← HSc.out,scanSorted_stop ltInt dk b kx (Or.inr hl)]
            have hkne : ((kx : Int) == (b : Int)) = false:=beq_eq_false_iff_ne.2 (by omega)
            clear hl
            by_cases h50 : b - a < 50
            · have h50z : (b : Int) - (a : Int) < 50:=by omega
              clear sw cw
              go_wp2_with (first
                | go_at_call 342;(with_reducible refine (lessU _ _ _).mono ?_);rintro e w9 ⟨rfl,rfl⟩
                | (refine wre 5 oSortU32d0 ?_)
                | (refine wre 11 oSortU32d1 ?_)
                | (refine wre 16 oSortU32d2 ?_)
                | (refine wre 17 oSortU32d1 ?_)
                | (refine wre 22 oSortU32d2 ?_)
                | (refine wre 23 oSortU32d1 ?_)
                | (with_reducible refine wEI ?_;(first|(refine wEN ?_;skip)|(refine wEF rfl (fun K hK=>?_);go_simp)|(refine wEL rfl rfl (fun K hK=>?_);go_simp)|(refine wER rfl (fun K hK=>?_);go_simp)|(refine wEM rfl (fun K hK=>?_);go_simp;try refine ⟨_,_,⟨rfl,rfl⟩,?_⟩)|(refine wEG rfl (fun K hK=>?_);go_simp)|(refine wEA rfl (fun K hK=>?_);go_simp))))
              have hv : Sort.partialInsertionSort ltInt d a b = (dk,false):=by
                unfold Sort.partialInsertionSort
                rw [← HO.out,pi_short ltInt a b q i dk hs (by rw [HK.out];omega) h50]
              rw [hv]
              go_ret
              exact ⟨rfl,by exact atP⟩
            · have h50z : ¬ ((b : Int) - (a : Int) < 50):=by omega
              have hX1 : (swp dk kx (kx - 1)).size = n:=by rw [size_swp];exact hsk
              by_cases hka : kx - a ≥ 2
              · have hkaz : (2 : Int) ≤ (kx : Int) - (a : Int):=by omega
                go_wp2_with (first
                  | go_at_call 342;(with_reducible refine (lessU _ _ _).mono ?_);rintro e w9 ⟨rfl,rfl⟩
                  | (refine wre 5 oSortU32d0 ?_)
                  | (refine wre 11 oSortU32d1 ?_)
                  | (refine wre 16 oSortU32d2 ?_)
                  | (refine wre 17 oSortU32d1 ?_)
                  | (refine wre 22 oSortU32d2 ?_)
                  | (refine wre 23 oSortU32d1 ?_)
                  | (with_reducible refine wEI ?_;(first|(refine wEN ?_;skip)|(refine wEF rfl (fun K hK=>?_);go_simp)|(refine wEL rfl rfl (fun K hK=>?_);go_simp)|(refine wER rfl (fun K hK=>?_);go_simp)|(refine wEM rfl (fun K hK=>?_);go_simp;try refine ⟨_,_,⟨rfl,rfl⟩,?_⟩)|(refine wEG rfl (fun K hK=>?_);go_simp)|(refine wEA rfl (fun K hK=>?_);go_simp))))
                go_loopg [9] (kx - 1) (fun g3 vj wr3=>∃ (j : Nat) (dj : Array Int),vj = .int .i64 j ∧ j ≤ kx - 1 ∧ j ≤ g3 ∧ dj.size = n ∧ (row g rest).At w0 dj wr3 ∧ Hid (shiftDown ltInt j dj = shiftDown ltInt (kx - 1) (swp dk kx (kx - 1))))
                case atStart=>exact ⟨kx - 1,(swp dk kx (kx - 1)),by first|rfl|(congr 1;omega),Nat.le_refl _,Nat.le_refl _,hX1,by exact atP,rfl⟩
                case round =>
                  clear hA2 sw cw cx cy hx hy fx hlv wj
                  obtain ⟨j,dj,rfl,hjk,hg3,hsj,hA3,HDn⟩:=hrel
                  by_cases hj1 : 1 ≤ j
                  · have hj1z : (1 : Int) ≤ (j : Int):=by omega
                    obtain ⟨x,cx,hx⟩:=row_at hA3 hsj (i:=j) (by omega)
                    obtain ⟨y,cy,hy⟩:=row_at hA3 hsj (i:=j - 1) (by omega)
                    have fx:=row_free hA3
                    have j1 : j < n:=by omega
                    have j2 : j - 1 < n:=by omega
                    have wj:=wrk (z:=(j : Int) - 1) (j - 1) (by omega) (by omega)
                    have sw:=row_sw hA3 hsj (i:=j) (j:=j - 1) (by omega) (by omega) hx hy
                    obtain ⟨v',cw⟩:=row_st hA3 hsj (i:=j) j2 (.int .u32 y)
                    by_cases hlv2 : x < y
                    · have hl2:=Lib.hid (ltT hx hy hlv2)
                      go_wp2_with (first
                        | go_at_call 342;(with_reducible refine (lessU _ _ _).mono ?_);rintro e w9 ⟨rfl,rfl⟩
                        | (refine wre 5 oSortU32d0 ?_)
                        | (refine wre 11 oSortU32d1 ?_)
                        | (refine wre 16 oSortU32d2 ?_)
                        | (refine wre 17 oSortU32d1 ?_)
                        | (refine wre 22 oSortU32d2 ?_)
                        | (refine wre 23 oSortU32d1 ?_)
                        | (with_reducible refine wEI ?_;(first|(refine wEN ?_;skip)|(refine wEF rfl (fun K hK=>?_);go_simp)|(refine wEL rfl rfl (fun K hK=>?_);go_simp)|(refine wER rfl (fun K hK=>?_);go_simp)|(refine wEM rfl (fun K hK=>?_);go_simp;try refine ⟨_,_,⟨rfl,rfl⟩,?_⟩)|(refine wEG rfl (fun K hK=>?_);go_simp)|(refine wEA rfl (fun K hK=>?_);go_simp))))
                      go_roundg (j - 1)
                      case measure=>omega
                      case rel=>exact ⟨j - 1,swp dj j (j - 1),by first|rfl|(congr 1;omega),by omega,Nat.le_refl _,by rw [size_swp];exact hsj,by exact atP,(show Hid _ from by rw [← HDn.out,shiftDown_go ltInt j dj hj1 hl2.out];exact rfl)⟩
                    · have hl2:=ltF hx hy hlv2
                      have dg:=decide_eq_false hlv2
                      have HD : Hid (fixDown ltInt a kx (swp dk kx (kx - 1)) = dj):=by show _ = _;unfold fixDown;rw [if_pos hka,← HDn.out,shiftDown_stop ltInt j dj (Or.inr hl2)]
                      clear hl2 sw cw
                      by_cases hbk : b - kx ≥ 2
                      · have hbkz : (2 : Int) ≤ (b : Int) - (kx : Int):=by omega
                        go_wp2_with (first
                          | go_at_call 342;(with_reducible refine (lessU _ _ _).mono ?_);rintro e w9 ⟨rfl,rfl⟩
                          | (refine wre 5 oSortU32d0 ?_)
                          | (refine wre 11 oSortU32d1 ?_)
                          | (refine wre 16 oSortU32d2 ?_)
                          | (refine wre 17 oSortU32d1 ?_)
                          | (refine wre 22 oSortU32d2 ?_)
                          | (refine wre 23 oSortU32d1 ?_)
                          | (with_reducible refine wEI ?_;(first|(refine wEN ?_;skip)|(refine wEF rfl (fun K hK=>?_);go_simp)|(refine wEL rfl rfl (fun K hK=>?_);go_simp)|(refine wER rfl (fun K hK=>?_);go_simp)|(refine wEM rfl (fun K hK=>?_);go_simp;try refine ⟨_,_,⟨rfl,rfl⟩,?_⟩)|(refine wEG rfl (fun K hK=>?_);go_simp)|(refine wEA rfl (fun K hK=>?_);go_simp))))
                        go_loopg [10] (b - (kx + 1)) (fun g4 vj wr4=>∃ (ju : Nat) (du : Array Int),vj = .int .i64 ju ∧ kx + 1 ≤ ju ∧ ju ≤ b ∧ b - ju ≤ g4 ∧ du.size = n ∧ (row g rest).At w0 du wr4 ∧ Hid (shiftUp ltInt b ju du = shiftUp ltInt b (kx + 1) dj))
                        case atStart=>exact ⟨kx + 1,dj,by go_num,Nat.le_refl _,by omega,Nat.le_refl _,hsj,by exact atP,rfl⟩
                        case round =>
                          clear hA3 cx cy hx hy fx hlv2 dg wj
                          obtain ⟨ju,du,rfl,hkj,hjb,hg4,hsu,hA4,HU⟩:=hrel
                          by_cases hjb' : ju < b
                          · have hjz : (ju : Int) < (b : Int):=by omega
                            obtain ⟨x,cx,hx⟩:=row_at hA4 hsu (i:=ju) (by omega)
                            obtain ⟨y,cy,hy⟩:=row_at hA4 hsu (i:=ju - 1) (by omega)
                            have fx:=row_free hA4
                            have j1 : ju < n:=by omega
                            have j2 : ju - 1 < n:=by omega
                            have wj:=wrk (z:=(ju : Int) - 1) (ju - 1) (by omega) (by omega)
                            have sw:=row_sw hA4 hsu (i:=ju) (j:=ju - 1) (by omega) (by omega) hx hy
                            obtain ⟨v',cw⟩:=row_st hA4 hsu (i:=ju) j2 (.int .u32 y)
                            by_cases hlv3 : x < y
                            · have hl3:=Lib.hid (ltT hx hy hlv3)
                              go_wp2_with (first
                                | go_at_call 342;(with_reducible refine (lessU _ _ _).mono ?_);rintro e w9 ⟨rfl,rfl⟩
                                | (refine wre 5 oSortU32d0 ?_)
                                | (refine wre 11 oSortU32d1 ?_)
                                | (refine wre 16 oSortU32d2 ?_)
                                | (refine wre 17 oSortU32d1 ?_)
                                | (refine wre 22 oSortU32d2 ?_)
                                | (refine wre 23 oSortU32d1 ?_)
                                | (with_reducible refine wEI ?_;(first|(refine wEN ?_;skip)|(refine wEF rfl (fun K hK=>?_);go_simp)|(refine wEL rfl rfl (fun K hK=>?_);go_simp)|(refine wER rfl (fun K hK=>?_);go_simp)|(refine wEM rfl (fun K hK=>?_);go_simp;try refine ⟨_,_,⟨rfl,rfl⟩,?_⟩)|(refine wEG rfl (fun K hK=>?_);go_simp)|(refine wEA rfl (fun K hK=>?_);go_simp))))
                              go_roundg (b - (ju + 1))
                              case measure=>omega
                              case rel=>exact ⟨ju + 1,swp du ju (ju - 1),by go_num,by omega,by omega,Nat.le_refl _,by rw [size_swp];exact hsu,by exact atP,(show Hid _ from by rw [← HU.out,shiftUp_go ltInt b ju du hjb' hl3.out];exact rfl)⟩
                            · have hl3:=Lib.hid (ltF hx hy hlv3)
                              have dg:=decide_eq_false hlv3
                              clear sw cw
                              go_wp2_with (first
                                | go_at_call 342;(with_reducible refine (lessU _ _ _).mono ?_);rintro e w9 ⟨rfl,rfl⟩
                                | (refine wre 5 oSortU32d0 ?_)
                                | (refine wre 11 oSortU32d1 ?_)
                                | (refine wre 16 oSortU32d2 ?_)
                                | (refine wre 17 oSortU32d1 ?_)
                                | (refine wre 22 oSortU32d2 ?_)
                                | (refine wre 23 oSortU32d1 ?_)
                                | (with_reducible refine wEI ?_;(first|(refine wEN ?_;skip)|(refine wEF rfl (fun K hK=>?_);go_simp)|(refine wEL rfl rfl (fun K hK=>?_);go_simp)|(refine wER rfl (fun K hK=>?_);go_simp)|(refine wEM rfl (fun K hK=>?_);go_simp;try refine ⟨_,_,⟨rfl,rfl⟩,?_⟩)|(refine wEG rfl (fun K hK=>?_);go_simp)|(refine wEA rfl (fun K hK=>?_);go_simp))))
                              go_roundg (5 - (q + 1))
                              case measure=>omega
                              case rel=>exact ⟨kx,q + 1,du,rfl,by go_num,by omega,Nat.le_refl _,by omega,by omega,hsu,by exact atP,(show Hid _ from by rw [← HO.out,pi_go ltInt a b q i kx dk hs HK.out (by omega) h50,HD.out,show fixUp ltInt b kx dj = du from by unfold fixUp;rw [if_pos hbk,← HU.out,shiftUp_stop ltInt b ju du (Or.inr hl3.out)]];exact rfl)⟩
                          · have hjz : ¬ (ju : Int) < (b : Int):=by omega
                            go_wp2
                            go_roundg (5 - (q + 1))
                            case measure=>omega
                            case rel=>exact ⟨kx,q + 1,du,rfl,by go_num,by omega,Nat.le_refl _,by omega,by omega,hsu,by exact atP,(show Hid _ from by rw [← HO.out,pi_go ltInt a b q i kx dk hs HK.out (by omega) h50,HD.out,show fixUp ltInt b kx dj = du from by unfold fixUp;rw [if_pos hbk,← HU.out,shiftUp_stop ltInt b ju du (Or.inl hjb')]];exact rfl)⟩
                      · have hbkz : ¬ (2 : Int) ≤ (b : Int) - (kx : Int):=by omega
                        go_wp2_with (first
                          | go_at_call 342;(with_reducible refine (lessU _ _ _).mono ?_);rintro e w9 ⟨rfl,rfl⟩
                          | (refine wre 5 oSortU32d0 ?_)
                          | (refine wre 11 oSortU32d1 ?_)
                          | (refine wre 16 oSortU32d2 ?_)
                          | (refine wre 17 oSortU32d1 ?_)
                          | (refine wre 22 oSortU32d2 ?_)
                          | (refine wre 23 oSortU32d1 ?_)
                          | (with_reducible refine wEI ?_;(first|(refine wEN ?_;skip)|(refine wEF rfl (fun K hK=>?_);go_simp)|(refine wEL rfl rfl (fun K hK=>?_);go_simp)|(refine wER rfl (fun K hK=>?_);go_simp)|(refine wEM rfl (fun K hK=>?_);go_simp;try refine ⟨_,_,⟨rfl,rfl⟩,?_⟩)|(refine wEG rfl (fun K hK=>?_);go_simp)|(refine wEA rfl (fun K hK=>?_);go_simp))))
                        go_roundg (5 - (q + 1))
                        case measure=>omega
                        case rel=>exact ⟨kx,q + 1,dj,rfl,by go_num,by omega,Nat.le_refl _,by omega,by omega,hsj,by exact atP,(show Hid _ from by rw [← HO.out,pi_go ltInt a b q i kx dk hs HK.out (by omega) h50,HD.out,show fixUp ltInt b kx dj = dj from by unfold fixUp;rw [if_neg hbk]];exact rfl)⟩
                  · have hj1z : ¬ (1 : Int) ≤ (j : Int):=by omega
                    have HD : Hid (fixDown ltInt a kx (swp dk kx (kx - 1)) = dj):=by show _ = _;unfold fixDown;rw [if_pos hka,← HDn.out,shiftDown_stop ltInt j dj (Or.inl (by omega))]
                    by_cases hbk : b - kx ≥ 2
                    · have hbkz : (2 : Int) ≤ (b : Int) - (kx : Int):=by omega
                      go_wp2_with (first
                        | go_at_call 342;(with_reducible refine (lessU _ _ _).mono ?_);rintro e w9 ⟨rfl,rfl⟩
                        | (refine wre 5 oSortU32d0 ?_)
                        | (refine wre 11 oSortU32d1 ?_)
                        | (refine wre 16 oSortU32d2 ?_)
                        | (refine wre 17 oSortU32d1 ?_)
                        | (refine wre 22 oSortU32d2 ?_)
                        | (refine wre 23 oSortU32d1 ?_)
                        | (with_reducible refine wEI ?_;(first|(refine wEN ?_;skip)|(refine wEF rfl (fun K hK=>?_);go_simp)|(refine wEL rfl rfl (fun K hK=>?_);go_simp)|(refine wER rfl (fun K hK=>?_);go_simp)|(refine wEM rfl (fun K hK=>?_);go_simp;try refine ⟨_,_,⟨rfl,rfl⟩,?_⟩)|(refine wEG rfl (fun K hK=>?_);go_simp)|(refine wEA rfl (fun K hK=>?_);go_simp))))
                      go_loopg [10] (b - (kx + 1)) (fun g4 vj wr4=>∃ (ju : Nat) (du : Array Int),vj = .int .i64 ju ∧ kx + 1 ≤ ju ∧ ju ≤ b ∧ b - ju ≤ g4 ∧ du.size = n ∧ (row g rest).At w0 du wr4 ∧ Hid (shiftUp ltInt b ju du = shiftUp ltInt b (kx + 1) dj))
                      case atStart=>exact ⟨kx + 1,dj,by go_num,Nat.le_refl _,by omega,Nat.le_refl _,hsj,by exact atP,rfl⟩
                      case round =>
                        clear hA3
                        obtain ⟨ju,du,rfl,hkj,hjb,hg4,hsu,hA4,HU⟩:=hrel
                        by_cases hjb' : ju < b
                        · have hjz : (ju : Int) < (b : Int):=by omega
                          obtain ⟨x,cx,hx⟩:=row_at hA4 hsu (i:=ju) (by omega)
                          obtain ⟨y,cy,hy⟩:=row_at hA4 hsu (i:=ju - 1) (by omega)
                          have fx:=row_free hA4
                          have j1 : ju < n:=by omega
                          have j2 : ju - 1 < n:=by omega
                          have wj:=wrk (z:=(ju : Int) - 1) (ju - 1) (by omega) (by omega)
                          have sw:=row_sw hA4 hsu (i:=ju) (j:=ju - 1) (by omega) (by omega) hx hy
                          obtain ⟨v',cw⟩:=row_st hA4 hsu (i:=ju) j2 (.int .u32 y)
                          by_cases hlv3 : x < y
                          · have hl3:=Lib.hid (ltT hx hy hlv3)
                            go_wp2_with (first
                              | go_at_call 342;(with_reducible refine (lessU _ _ _).mono ?_);rintro e w9 ⟨rfl,rfl⟩
                              | (refine wre 5 oSortU32d0 ?_)
                              | (refine wre 11 oSortU32d1 ?_)
                              | (refine wre 16 oSortU32d2 ?_)
                              | (refine wre 17 oSortU32d1 ?_)
                              | (refine wre 22 oSortU32d2 ?_)
                              | (refine wre 23 oSortU32d1 ?_)
                              | (with_reducible refine wEI ?_;(first|(refine wEN ?_;skip)|(refine wEF rfl (fun K hK=>?_);go_simp)|(refine wEL rfl rfl (fun K hK=>?_);go_simp)|(refine wER rfl (fun K hK=>?_);go_simp)|(refine wEM rfl (fun K hK=>?_);go_simp;try refine ⟨_,_,⟨rfl,rfl⟩,?_⟩)|(refine wEG rfl (fun K hK=>?_);go_simp)|(refine wEA rfl (fun K hK=>?_);go_simp))))
                            go_roundg (b - (ju + 1))
                            case measure=>omega
                            case rel=>exact ⟨ju + 1,swp du ju (ju - 1),by go_num,by omega,by omega,Nat.le_refl _,by rw [size_swp];exact hsu,by exact atP,(show Hid _ from by rw [← HU.out,shiftUp_go ltInt b ju du hjb' hl3.out];exact rfl)⟩
                          · have hl3:=Lib.hid (ltF hx hy hlv3)
                            have dg:=decide_eq_false hlv3
                            clear sw cw
                            go_wp2_with (first
                              | go_at_call 342;(with_reducible refine (lessU _ _ _).mono ?_);rintro e w9 ⟨rfl,rfl⟩
                              | (refine wre 5 oSortU32d0 ?_)
                              | (refine wre 11 oSortU32d1 ?_)
                              | (refine wre 16 oSortU32d2 ?_)
                              | (refine wre 17 oSortU32d1 ?_)
                              | (refine wre 22 oSortU32d2 ?_)
                              | (refine wre 23 oSortU32d1 ?_)
                              | (with_reducible refine wEI ?_;(first|(refine wEN ?_;skip)|(refine wEF rfl (fun K hK=>?_);go_simp)|(refine wEL rfl rfl (fun K hK=>?_);go_simp)|(refine wER rfl (fun K hK=>?_);go_simp)|(refine wEM rfl (fun K hK=>?_);go_simp;try refine ⟨_,_,⟨rfl,rfl⟩,?_⟩)|(refine wEG rfl (fun K hK=>?_);go_simp)|(refine wEA rfl (fun K hK=>?_);go_simp))))
                            go_roundg (5 - (q + 1))
                            case measure=>omega
                            case rel=>exact ⟨kx,q + 1,du,rfl,by go_num,by omega,Nat.le_refl _,by omega,by omega,hsu,by exact atP,(show Hid _ from by rw [← HO.out,pi_go ltInt a b q i kx dk hs HK.out (by omega) h50,HD.out,show fixUp ltInt b kx dj = du from by unfold fixUp;rw [if_pos hbk,← HU.out,shiftUp_stop ltInt b ju du (Or.inr hl3.out)]];exact rfl)⟩
                        · have hjz : ¬ (ju : Int) < (b : Int):=by omega
                          go_wp2
                          go_roundg (5 - (q + 1))
                          case measure=>omega
                          case rel=>exact ⟨kx,q + 1,du,rfl,by go_num,by omega,Nat.le_refl _,by omega,by omega,hsu,by exact atP,(show Hid _ from by rw [← HO.out,pi_go ltInt a b q i kx dk hs HK.out (by omega) h50,HD.out,show fixUp ltInt b kx dj = du from by unfold fixUp;rw [if_pos hbk,← HU.out,shiftUp_stop ltInt b ju du (Or.inl hjb')]];exact rfl)⟩
                    · have hbkz : ¬ (2 : Int) ≤ (b : Int) - (kx : Int):=by omega
                      go_wp2_with (first
                        | go_at_call 342;(with_reducible refine (lessU _ _ _).mono ?_);rintro e w9 ⟨rfl,rfl⟩
                        | (refine wre 5 oSortU32d0 ?_)
                        | (refine wre 11 oSortU32d1 ?_)
                        | (refine wre 16 oSortU32d2 ?_)
                        | (refine wre 17 oSortU32d1 ?_)
                        | (refine wre 22 oSortU32d2 ?_)
                        | (refine wre 23 oSortU32d1 ?_)
                        | (with_reducible refine wEI ?_;(first|(refine wEN ?_;skip)|(refine wEF rfl (fun K hK=>?_);go_simp)|(refine wEL rfl rfl (fun K hK=>?_);go_simp)|(refine wER rfl (fun K hK=>?_);go_simp)|(refine wEM rfl (fun K hK=>?_);go_simp;try refine ⟨_,_,⟨rfl,rfl⟩,?_⟩)|(refine wEG rfl (fun K hK=>?_);go_simp)|(refine wEA rfl (fun K hK=>?_);go_simp))))
                      go_roundg (5 - (q + 1))
                      case measure=>omega
                      case rel=>exact ⟨kx,q + 1,dj,rfl,by go_num,by omega,Nat.le_refl _,by omega,by omega,hsj,by exact atP,(show Hid _ from by rw [← HO.out,pi_go ltInt a b q i kx dk hs HK.out (by omega) h50,HD.out,show fixUp ltInt b kx dj = dj from by unfold fixUp;rw [if_neg hbk]];exact rfl)⟩
              · have hkaz : ¬ (2 : Int) ≤ (kx : Int) - (a : Int):=by omega
                have HD : Hid (fixDown ltInt a kx (swp dk kx (kx - 1)) = (swp dk kx (kx - 1))):=by show _ = _;unfold fixDown;rw [if_neg hka]
                by_cases hbk : b - kx ≥ 2
                · have hbkz : (2 : Int) ≤ (b : Int) - (kx : Int):=by omega
                  go_wp2_with (first
                    | go_at_call 342;(with_reducible refine (lessU _ _ _).mono ?_);rintro e w9 ⟨rfl,rfl⟩
                    | (refine wre 5 oSortU32d0 ?_)
                    | (refine wre 11 oSortU32d1 ?_)
                    | (refine wre 16 oSortU32d2 ?_)
                    | (refine wre 17 oSortU32d1 ?_)
                    | (refine wre 22 oSortU32d2 ?_)
                    | (refine wre 23 oSortU32d1 ?_)
                    | (with_reducible refine wEI ?_;(first|(refine wEN ?_;skip)|(refine wEF rfl (fun K hK=>?_);go_simp)|(refine wEL rfl rfl (fun K hK=>?_);go_simp)|(refine wER rfl (fun K hK=>?_);go_simp)|(refine wEM rfl (fun K hK=>?_);go_simp;try refine ⟨_,_,⟨rfl,rfl⟩,?_⟩)|(refine wEG rfl (fun K hK=>?_);go_simp)|(refine wEA rfl (fun K hK=>?_);go_simp))))
                  go_loopg [10] (b - (kx + 1)) (fun g4 vj wr4=>∃ (ju : Nat) (du : Array Int),vj = .int .i64 ju ∧ kx + 1 ≤ ju ∧ ju ≤ b ∧ b - ju ≤ g4 ∧ du.size = n ∧ (row g rest).At w0 du wr4 ∧ Hid (shiftUp ltInt b ju du = shiftUp ltInt b (kx + 1) (swp dk kx (kx - 1))))
                  case atStart=>exact ⟨kx + 1,(swp dk kx (kx - 1)),by go_num,Nat.le_refl _,by omega,Nat.le_refl _,hX1,by exact atP,rfl⟩
                  case round =>
                    clear hA2 sw cw cx cy hx hy fx hlv wj
                    obtain ⟨ju,du,rfl,hkj,hjb,hg4,hsu,hA4,HU⟩:=hrel
                    by_cases hjb' : ju < b
                    · have hjz : (ju : Int) < (b : Int):=by omega
                      obtain ⟨x,cx,hx⟩:=row_at hA4 hsu (i:=ju) (by omega)
                      obtain ⟨y,cy,hy⟩:=row_at hA4 hsu (i:=ju - 1) (by omega)
                      have fx:=row_free hA4
                      have j1 : ju < n:=by omega
                      have j2 : ju - 1 < n:=by omega
                      have wj:=wrk (z:=(ju : Int) - 1) (ju - 1) (by omega) (by omega)
                      have sw:=row_sw hA4 hsu (i:=ju) (j:=ju - 1) (by omega) (by omega) hx hy
                      obtain ⟨v',cw⟩:=row_st hA4 hsu (i:=ju) j2 (.int .u32 y)
                      by_cases hlv3 : x < y
                      · have hl3:=Lib.hid (ltT hx hy hlv3)
                        go_wp2_with (first
                          | go_at_call 342;(with_reducible refine (lessU _ _ _).mono ?_);rintro e w9 ⟨rfl,rfl⟩
                          | (refine wre 5 oSortU32d0 ?_)
                          | (refine wre 11 oSortU32d1 ?_)
                          | (refine wre 16 oSortU32d2 ?_)
                          | (refine wre 17 oSortU32d1 ?_)
                          | (refine wre 22 oSortU32d2 ?_)
                          | (refine wre 23 oSortU32d1 ?_)
                          | (with_reducible refine wEI ?_;(first|(refine wEN ?_;skip)|(refine wEF rfl (fun K hK=>?_);go_simp)|(refine wEL rfl rfl (fun K hK=>?_);go_simp)|(refine wER rfl (fun K hK=>?_);go_simp)|(refine wEM rfl (fun K hK=>?_);go_simp;try refine ⟨_,_,⟨rfl,rfl⟩,?_⟩)|(refine wEG rfl (fun K hK=>?_);go_simp)|(refine wEA rfl (fun K hK=>?_);go_simp))))
                        go_roundg (b - (ju + 1))
                        case measure=>omega
                        case rel=>exact ⟨ju + 1,swp du ju (ju - 1),by go_num,by omega,by omega,Nat.le_refl _,by rw [size_swp];exact hsu,by exact atP,(show Hid _ from by rw [← HU.out,shiftUp_go ltInt b ju du hjb' hl3.out];exact rfl)⟩
                      · have hl3:=Lib.hid (ltF hx hy hlv3)
                        have dg:=decide_eq_false hlv3
                        clear sw cw
                        go_wp2_with (first
                          | go_at_call 342;(with_reducible refine (lessU _ _ _).mono ?_);rintro e w9 ⟨rfl,rfl⟩
                          | (refine wre 5 oSortU32d0 ?_)
                          | (refine wre 11 oSortU32d1 ?_)
                          | (refine wre 16 oSortU32d2 ?_)
                          | (refine wre 17 oSortU32d1 ?_)
                          | (refine wre 22 oSortU32d2 ?_)
                          | (refine wre 23 oSortU32d1 ?_)
                          | (with_reducible refine wEI ?_;(first|(refine wEN ?_;skip)|(refine wEF rfl (fun K hK=>?_);go_simp)|(refine wEL rfl rfl (fun K hK=>?_);go_simp)|(refine wER rfl (fun K hK=>?_);go_simp)|(refine wEM rfl (fun K hK=>?_);go_simp;try refine ⟨_,_,⟨rfl,rfl⟩,?_⟩)|(refine wEG rfl (fun K hK=>?_);go_simp)|(refine wEA rfl (fun K hK=>?_);go_simp))))
                        go_roundg (5 - (q + 1))
                        case measure=>omega
                        case rel=>exact ⟨kx,q + 1,du,rfl,by go_num,by omega,Nat.le_refl _,by omega,by omega,hsu,by exact atP,(show Hid _ from by rw [← HO.out,pi_go ltInt a b q i kx dk hs HK.out (by omega) h50,HD.out,show fixUp ltInt b kx (swp dk kx (kx - 1)) = du from by unfold fixUp;rw [if_pos hbk,← HU.out,shiftUp_stop ltInt b ju du (Or.inr hl3.out)]];exact rfl)⟩
                    · have hjz : ¬ (ju : Int) < (b : Int):=by omega
                      go_wp2
                      go_roundg (5 - (q + 1))
                      case measure=>omega
                      case rel=>exact ⟨kx,q + 1,du,rfl,by go_num,by omega,Nat.le_refl _,by omega,by omega,hsu,by exact atP,(show Hid _ from by rw [← HO.out,pi_go ltInt a b q i kx dk hs HK.out (by omega) h50,HD.out,show fixUp ltInt b kx (swp dk kx (kx - 1)) = du from by unfold fixUp;rw [if_pos hbk,← HU.out,shiftUp_stop ltInt b ju du (Or.inl hjb')]];exact rfl)⟩
                · exfalso;omega
          · have hl:=Lib.hid (ltF hx hy hlv)
            have dg:=decide_eq_false hlv
            clear sw cw
            go_wp2_with (first
              | go_at_call 342;(with_reducible refine (lessU _ _ _).mono ?_);rintro e w9 ⟨rfl,rfl⟩
              | (refine wre 5 oSortU32d0 ?_)
              | (refine wre 11 oSortU32d1 ?_)
              | (refine wre 16 oSortU32d2 ?_)
              | (refine wre 17 oSortU32d1 ?_)
              | (refine wre 22 oSortU32d2 ?_)
              | (refine wre 23 oSortU32d1 ?_)
              | (with_reducible refine wEI ?_;(first|(refine wEN ?_;skip)|(refine wEF rfl (fun K hK=>?_);go_simp)|(refine wEL rfl rfl (fun K hK=>?_);go_simp)|(refine wER rfl (fun K hK=>?_);go_simp)|(refine wEM rfl (fun K hK=>?_);go_simp;try refine ⟨_,_,⟨rfl,rfl⟩,?_⟩)|(refine wEG rfl (fun K hK=>?_);go_simp)|(refine wEA rfl (fun K hK=>?_);go_simp))))
            go_roundg (b - (kx + 1))
            case measure=>omega
            case rel=>exact ⟨kx + 1,by go_num,by omega,by omega,Nat.le_refl _,by exact atP,(show Hid _ from by rw [← HSc.out,scanSorted_go ltInt dk b kx hkb' hl.out];exact rfl)⟩
        · obtain rfl : kx = b:=by omega
          have hkz : ¬ (kx : Int) < (kx : Int):=by omega
          go_wp2_with (first
            | go_at_call 342;(with_reducible refine (lessU _ _ _).mono ?_);rintro e w9 ⟨rfl,rfl⟩
            | (refine wre 5 oSortU32d0 ?_)
            | (refine wre 11 oSortU32d1 ?_)
            | (refine wre 16 oSortU32d2 ?_)
            | (refine wre 17 oSortU32d1 ?_)
            | (refine wre 22 oSortU32d2 ?_)
            | (refine wre 23 oSortU32d1 ?_)
            | (with_reducible refine wEI ?_;(first|(refine wEN ?_;skip)|(refine wEF rfl (fun K hK=>?_);go_simp)|(refine wEL rfl rfl (fun K hK=>?_);go_simp)|(refine wER rfl (fun K hK=>?_);go_simp)|(refine wEM rfl (fun K hK=>?_);go_simp;try refine ⟨_,_,⟨rfl,rfl⟩,?_⟩)|(refine wEG rfl (fun K hK=>?_);go_simp)|(refine wEA rfl (fun K hK=>?_);go_simp))))
          have hv : Sort.partialInsertionSort ltInt d a kx = (dk,true):=by
            unfold Sort.partialInsertionSort
            rw [← HO.out,pi_true ltInt a kx q i dk hs (by rw [← HSc.out,scanSorted_stop ltInt dk kx kx (Or.inl (by omega))])]
          rw [hv]
          go_ret
          exact ⟨rfl,by exact atP⟩
    · obtain rfl : q = 5:=by omega
      go_wp2
      have hv : Sort.partialInsertionSort ltInt d a b = (dk,false):=by
        unfold Sort.partialInsertionSort
        rw [← HO.out,pi_end]
      rw [hv]
      go_ret
      exact ⟨rfl,by exact atP⟩
end Go.Proofs.Wx.U32
