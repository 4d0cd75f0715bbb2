import Derived.Test.YtdokbceiganhdaaGreatDoorM21
import Derived.Sort.LotD4
set_option maxRecDepth 100000
set_option maxHeartbeats 1000000
set_option linter.unusedVariables false
set_option linter.unusedSimpArgs false
set_option linter.deprecated false
set_option linter.all false
set_option linter.unusedSectionVars false
namespace Go.Proofs.Wx
open Go Go.RowKit Go.Sort
variable {α : Type} [Inhabited α] {s : St α} {ra : Addr} {rm rc n : Nat} {lt : α → α → Bool}
set_option maxRecDepth 1000000 in
set_option maxHeartbeats 12800000 in
theorem partInsI {a b : Nat} {w0 w : World} {d : Array α} (D : IfS ra rm rc s lt n) (hA : s.At w0 d w) (hn : d.size = n) (hab : a < b) (hb : b ≤ n) :
    Calls Tryz.prog 315 #[.iface 454 (.slice (some ra) rm rc),.int .i64 a,.int .i64 b] w fun e w'=>e = .returned (.bool (Sort.partialInsertionSort lt d a b).2) ∧ s.At w0 (Sort.partialInsertionSort lt d a b).1 w':=by
  have big:=D.big
  go_enter Tryz.func315,Tryz.ntmps315
  go_wp2
  go_loopg [7,8] 5 (fun g1 vi vs wr=>∃ (i q : Nat) (dk : Array α),vi = .int .i64 i ∧ vs = .int .i64 q ∧ q ≤ 5 ∧ 5 - q ≤ g1 ∧ a < i ∧ i ≤ b ∧ dk.size = n ∧ s.At w0 dk wr ∧ Hid (partialIns lt a b (5 - q) i dk = partialIns lt a b 5 (a + 1) d))
  case atStart=>exact ⟨a + 1,0,d,by go_num,rfl,by omega,by omega,by omega,by omega,hn,hA,rfl⟩
  case round =>
    clear hA
    obtain ⟨i,q,dk,rfl,rfl,hs5,hg1,hai,hib,hsk,hA1,HO⟩:=hrel
    by_cases hs : q < 5
    · have hsz5 : (q : Int) < 5:=by omega
      go_wp2
      go_loopg [7] (b - i) (fun g2 vi wr2=>∃ (kx : Nat),vi = .int .i64 kx ∧ i ≤ kx ∧ kx ≤ b ∧ b - kx ≤ g2 ∧ s.At w0 dk wr2 ∧ Hid (scanSorted lt dk b kx = scanSorted lt dk b i))
      case atStart=>exact ⟨i,rfl,Nat.le_refl _,hib,Nat.le_refl _,by exact atP,rfl⟩
      case round =>
        clear hA1
        obtain ⟨kx,rfl,hik,hkb,hg2,hA2,HSc⟩:=hrel
        by_cases hkb' : kx < b
        · have hkz : (kx : Int) < (b : Int):=by omega
          cases hlv : lt dk[kx]! dk[kx - 1]! with
          | false =>
            have hl:=D.lessAt w0 kx (kx - 1) (x:=kx) (y:=(kx : Int) - 1) hsk (by omega) (by omega) hlv rfl (by omega)
            go_wp2_with (first|(go_at_call 429;(with_reducible refine (hl _ (by exact atP)).mono ?_);rintro e w9 ⟨rfl,hA9,hF9⟩))
            go_roundg (b - (kx + 1))
            case measure=>omega
            case rel=>exact ⟨kx + 1,by go_num,by omega,by omega,Nat.le_refl _,by exact atP,(show Hid _ from by rw [← HSc.out,scanSorted_go lt dk b kx hkb' hlv];exact rfl)⟩
          | true =>
            have hl:=D.lessAt w0 kx (kx - 1) (x:=kx) (y:=(kx : Int) - 1) hsk (by omega) (by omega) hlv rfl (by omega)
            have HK : Hid (scanSorted lt dk b i = kx):=by show _ = _;rw [← HSc.out,scanSorted_stop lt dk b kx (Or.inr hlv)]
            have hkne : ((kx : Int) == (b : Int)) = false:=beq_eq_false_iff_ne.2 (by omega)
            by_cases h50 : b - a < 50
            · have h50z : (b : Int) - (a : Int) < 50:=by omega
              go_wp2_with (first|(go_at_call 429;(with_reducible refine (hl _ (by exact atP)).mono ?_);rintro e w9 ⟨rfl,hA9,hF9⟩))
              have hv : Sort.partialInsertionSort lt d a b = (dk,false):=by
                unfold Sort.partialInsertionSort
                rw [← HO.out,pi_short lt a b q i dk hs (by rw [HK.out];omega) h50]
              rw [hv]
              go_ret
              exact ⟨rfl,by exact atP⟩
            · have h50z : ¬ ((b : Int) - (a : Int) < 50):=by omega
              have hs1:=D.swapAt w0 kx (kx - 1) (x:=kx) (y:=(kx : Int) - 1) hsk (by omega) (by omega) rfl (by omega)
              have hX1 : (swp dk kx (kx - 1)).size = n:=by rw [size_swp];exact hsk
              by_cases hka : kx - a ≥ 2
              · have hkaz : (2 : Int) ≤ (kx : Int) - (a : Int):=by omega
                go_wp2_with (first|(go_at_call 429;(with_reducible refine (hl _ (by exact atP)).mono ?_);rintro e w9 ⟨rfl,hA9,hF9⟩)|(go_at_call 430;(with_reducible refine (hs1 _ (by exact atP)).mono ?_);rintro e w9 ⟨rfl,hA9,hF9⟩))
                go_loopg [9] (kx - 1) (fun g3 vj wr3=>∃ (j : Nat) (dj : Array α),vj = .int .i64 j ∧ j ≤ kx - 1 ∧ j ≤ g3 ∧ dj.size = n ∧ s.At w0 dj wr3 ∧ Hid (shiftDown lt j dj = shiftDown lt (kx - 1) (swp dk kx (kx - 1))))
                case atStart=>exact ⟨kx - 1,(swp dk kx (kx - 1)),by congr 1;omega,Nat.le_refl _,Nat.le_refl _,hX1,by exact atP,rfl⟩
                case round =>
                  clear hA9 hA2
                  obtain ⟨j,dj,rfl,hjk,hg3,hsj,hA3,HDn⟩:=hrel
                  by_cases hj1 : 1 ≤ j
                  · have hj1z : (1 : Int) ≤ (j : Int):=by omega
                    cases hlv2 : lt dj[j]! dj[j - 1]! with
                    | true =>
                      have hl2:=D.lessAt w0 j (j - 1) (x:=j) (y:=(j : Int) - 1) hsj (by omega) (by omega) hlv2 rfl (by omega)
                      have hs2:=D.swapAt w0 j (j - 1) (x:=j) (y:=(j : Int) - 1) hsj (by omega) (by omega) rfl (by omega)
                      go_wp2_with (first|(go_at_call 429;(with_reducible refine (hl2 _ (by exact atP)).mono ?_);rintro e w9 ⟨rfl,hA9,hF9⟩)|(go_at_call 430;(with_reducible refine (hs2 _ (by exact atP)).mono ?_);rintro e w9 ⟨rfl,hA9,hF9⟩))
                      go_roundg (j - 1)
                      case measure=>omega
                      case rel=>exact ⟨j - 1,swp dj j (j - 1),by congr 1;omega,by omega,Nat.le_refl _,by rw [size_swp];exact hsj,by exact atP,(show Hid _ from by rw [← HDn.out,shiftDown_go lt j dj hj1 hlv2];exact rfl)⟩
                    | false =>
                      have hl2:=D.lessAt w0 j (j - 1) (x:=j) (y:=(j : Int) - 1) hsj (by omega) (by omega) hlv2 rfl (by omega)
                      have HD : Hid (fixDown lt a kx (swp dk kx (kx - 1)) = dj):=by show _ = _;unfold fixDown;rw [if_pos hka,← HDn.out,shiftDown_stop lt j dj (Or.inr hlv2)]
                      by_cases hbk : b - kx ≥ 2
                      · have hbkz : (2 : Int) ≤ (b : Int) - (kx : Int):=by omega
                        go_wp2_with (first|(go_at_call 429;(with_reducible refine (hl2 _ (by exact atP)).mono ?_);rintro e w9 ⟨rfl,hA9,hF9⟩))
                        go_loopg [10] (b - (kx + 1)) (fun g4 vj wr4=>∃ (ju : Nat) (du : Array α),vj = .int .i64 ju ∧ kx + 1 ≤ ju ∧ ju ≤ b ∧ b - ju ≤ g4 ∧ du.size = n ∧ s.At w0 du wr4 ∧ Hid (shiftUp lt b ju du = shiftUp lt b (kx + 1) dj))
                        case atStart=>exact ⟨kx + 1,dj,by go_num,Nat.le_refl _,by omega,Nat.le_refl _,hsj,by exact atP,rfl⟩
                        case round =>
                          (try clear hA3);(try clear hA9);(try clear hA2);(try clear hA1)
                          obtain ⟨ju,du,rfl,hkj,hjb,hg4,hsu,hA4,HU⟩:=hrel
                          by_cases hjb' : ju < b
                          · have hjz : (ju : Int) < (b : Int):=by omega
                            cases hlv3 : lt du[ju]! du[ju - 1]! with
                            | true =>
                              have hl3:=D.lessAt w0 ju (ju - 1) (x:=ju) (y:=(ju : Int) - 1) hsu (by omega) (by omega) hlv3 rfl (by omega)
                              have hs3:=D.swapAt w0 ju (ju - 1) (x:=ju) (y:=(ju : Int) - 1) hsu (by omega) (by omega) rfl (by omega)
                              go_wp2_with (first|(go_at_call 429;(with_reducible refine (hl3 _ (by exact atP)).mono ?_);rintro e w9 ⟨rfl,hA9,hF9⟩)|(go_at_call 430;(with_reducible refine (hs3 _ (by exact atP)).mono ?_);rintro e w9 ⟨rfl,hA9,hF9⟩))
                              go_roundg (b - (ju + 1))
                              case measure=>omega
                              case rel=>exact ⟨ju + 1,swp du ju (ju - 1),by go_num,by omega,by omega,Nat.le_refl _,by rw [size_swp];exact hsu,by exact atP,(show Hid _ from by rw [← HU.out,shiftUp_go lt b ju du hjb' hlv3];exact rfl)⟩
                            | false =>
                              have hl3:=D.lessAt w0 ju (ju - 1) (x:=ju) (y:=(ju : Int) - 1) hsu (by omega) (by omega) hlv3 rfl (by omega)
                              go_wp2_with (first|(go_at_call 429;(with_reducible refine (hl3 _ (by exact atP)).mono ?_);rintro e w9 ⟨rfl,hA9,hF9⟩))
                              go_roundg (5 - (q + 1))
                              case measure=>omega
                              case rel=>exact ⟨kx,q + 1,du,rfl,by go_num,by omega,Nat.le_refl _,by omega,by omega,hsu,by exact atP,(show Hid _ from by rw [← HO.out,pi_go lt a b q i kx dk hs HK.out (by omega) h50,HD.out,show fixUp lt b kx dj = du from by unfold fixUp;rw [if_pos hbk,← HU.out,shiftUp_stop lt b ju du (Or.inr hlv3)]];exact rfl)⟩
                          · have hjz : ¬ (ju : Int) < (b : Int):=by omega
                            go_wp2
                            go_roundg (5 - (q + 1))
                            case measure=>omega
                            case rel=>exact ⟨kx,q + 1,du,rfl,by go_num,by omega,Nat.le_refl _,by omega,by omega,hsu,by exact atP,(show Hid _ from by rw [← HO.out,pi_go lt a b q i kx dk hs HK.out (by omega) h50,HD.out,show fixUp lt b kx dj = du from by unfold fixUp;rw [if_pos hbk,← HU.out,shiftUp_stop lt b ju du (Or.inl hjb')]];exact rfl)⟩
                      · have hbkz : ¬ (2 : Int) ≤ (b : Int) - (kx : Int):=by omega
                        go_wp2_with (first|(go_at_call 429;(with_reducible refine (hl2 _ (by exact atP)).mono ?_);rintro e w9 ⟨rfl,hA9,hF9⟩))
                        go_roundg (5 - (q + 1))
                        case measure=>omega
                        case rel=>exact ⟨kx,q + 1,dj,rfl,by go_num,by omega,Nat.le_refl _,by omega,by omega,hsj,by exact atP,(show Hid _ from by rw [← HO.out,pi_go lt a b q i kx dk hs HK.out (by omega) h50,HD.out,show fixUp lt b kx dj = dj from by unfold fixUp;rw [if_neg hbk]];exact rfl)⟩
                  · have hj1z : ¬ (1 : Int) ≤ (j : Int):=by omega
                    have HD : Hid (fixDown lt a kx (swp dk kx (kx - 1)) = dj):=by show _ = _;unfold fixDown;rw [if_pos hka,← HDn.out,shiftDown_stop lt j dj (Or.inl (by omega))]
                    by_cases hbk : b - kx ≥ 2
                    · have hbkz : (2 : Int) ≤ (b : Int) - (kx : Int):=by omega
                      go_wp2
                      go_loopg [10] (b - (kx + 1)) (fun g4 vj wr4=>∃ (ju : Nat) (du : Array α),vj = .int .i64 ju ∧ kx + 1 ≤ ju ∧ ju ≤ b ∧ b - ju ≤ g4 ∧ du.size = n ∧ s.At w0 du wr4 ∧ Hid (shiftUp lt b ju du = shiftUp lt b (kx + 1) dj))
                      case atStart=>exact ⟨kx + 1,dj,by go_num,Nat.le_refl _,by omega,Nat.le_refl _,hsj,by exact atP,rfl⟩
                      case round =>
                        (try clear hA3);(try clear hA9);(try clear hA2);(try clear hA1)
                        obtain ⟨ju,du,rfl,hkj,hjb,hg4,hsu,hA4,HU⟩:=hrel
                        by_cases hjb' : ju < b
                        · have hjz : (ju : Int) < (b : Int):=by omega
                          cases hlv3 : lt du[ju]! du[ju - 1]! with
                          | true =>
                            have hl3:=D.lessAt w0 ju (ju - 1) (x:=ju) (y:=(ju : Int) - 1) hsu (by omega) (by omega) hlv3 rfl (by omega)
                            have hs3:=D.swapAt w0 ju (ju - 1) (x:=ju) (y:=(ju : Int) - 1) hsu (by omega) (by omega) rfl (by omega)
                            go_wp2_with (first|(go_at_call 429;(with_reducible refine (hl3 _ (by exact atP)).mono ?_);rintro e w9 ⟨rfl,hA9,hF9⟩)|(go_at_call 430;(with_reducible refine (hs3 _ (by exact atP)).mono ?_);rintro e w9 ⟨rfl,hA9,hF9⟩))
                            go_roundg (b - (ju + 1))
                            case measure=>omega
                            case rel=>exact ⟨ju + 1,swp du ju (ju - 1),by go_num,by omega,by omega,Nat.le_refl _,by rw [size_swp];exact hsu,by exact atP,(show Hid _ from by rw [← HU.out,shiftUp_go lt b ju du hjb' hlv3];exact rfl)⟩
                          | false =>
                            have hl3:=D.lessAt w0 ju (ju - 1) (x:=ju) (y:=(ju : Int) - 1) hsu (by omega) (by omega) hlv3 rfl (by omega)
                            go_wp2_with (first|(go_at_call 429;(with_reducible refine (hl3 _ (by exact atP)).mono ?_);rintro e w9 ⟨rfl,hA9,hF9⟩))
                            go_roundg (5 - (q + 1))
                            case measure=>omega
                            case rel=>exact ⟨kx,q + 1,du,rfl,by go_num,by omega,Nat.le_refl _,by omega,by omega,hsu,by exact atP,(show Hid _ from by rw [← HO.out,pi_go lt a b q i kx dk hs HK.out (by omega) h50,HD.out,show fixUp lt b kx dj = du from by unfold fixUp;rw [if_pos hbk,← HU.out,shiftUp_stop lt b ju du (Or.inr hlv3)]];exact rfl)⟩
                        · have hjz : ¬ (ju : Int) < (b : Int):=by omega
                          go_wp2
                          go_roundg (5 - (q + 1))
                          case measure=>omega
                          case rel=>exact ⟨kx,q + 1,du,rfl,by go_num,by omega,Nat.le_refl _,by omega,by omega,hsu,by exact atP,(show Hid _ from by rw [← HO.out,pi_go lt a b q i kx dk hs HK.out (by omega) h50,HD.out,show fixUp lt b kx dj = du from by unfold fixUp;rw [if_pos hbk,← HU.out,shiftUp_stop lt b ju du (Or.inl hjb')]];exact rfl)⟩
                    · have hbkz : ¬ (2 : Int) ≤ (b : Int) - (kx : Int):=by omega
                      go_wp2
                      go_roundg (5 - (q + 1))
                      case measure=>omega
                      case rel=>exact ⟨kx,q + 1,dj,rfl,by go_num,by omega,Nat.le_refl _,by omega,by omega,hsj,by exact atP,(show Hid _ from by rw [← HO.out,pi_go lt a b q i kx dk hs HK.out (by omega) h50,HD.out,show fixUp lt b kx dj = dj from by unfold fixUp;rw [if_neg hbk]];exact rfl)⟩
              · have hkaz : ¬ (2 : Int) ≤ (kx : Int) - (a : Int):=by omega
                have HD : Hid (fixDown lt a kx (swp dk kx (kx - 1)) = (swp dk kx (kx - 1))):=by show _ = _;unfold fixDown;rw [if_neg hka]
                by_cases hbk : b - kx ≥ 2
                · have hbkz : (2 : Int) ≤ (b : Int) - (kx : Int):=by omega
                  go_wp2_with (first|(go_at_call 429;(with_reducible refine (hl _ (by exact atP)).mono ?_);rintro e w9 ⟨rfl,hA9,hF9⟩)|(go_at_call 430;(with_reducible refine (hs1 _ (by exact atP)).mono ?_);rintro e w9 ⟨rfl,hA9,hF9⟩))
                  go_loopg [10] (b - (kx + 1)) (fun g4 vj wr4=>∃ (ju : Nat) (du : Array α),vj = .int .i64 ju ∧ kx + 1 ≤ ju ∧ ju ≤ b ∧ b - ju ≤ g4 ∧ du.size = n ∧ s.At w0 du wr4 ∧ Hid (shiftUp lt b ju du = shiftUp lt b (kx + 1) (swp dk kx (kx - 1))))
                  case atStart=>exact ⟨kx + 1,(swp dk kx (kx - 1)),by go_num,Nat.le_refl _,by omega,Nat.le_refl _,hX1,by exact atP,rfl⟩
                  case round =>
                    (try clear hA3);(try clear hA9);(try clear hA2);(try clear hA1)
                    obtain ⟨ju,du,rfl,hkj,hjb,hg4,hsu,hA4,HU⟩:=hrel
                    by_cases hjb' : ju < b
                    · have hjz : (ju : Int) < (b : Int):=by omega
                      cases hlv3 : lt du[ju]! du[ju - 1]! with
                      | true =>
                        have hl3:=D.lessAt w0 ju (ju - 1) (x:=ju) (y:=(ju : Int) - 1) hsu (by omega) (by omega) hlv3 rfl (by omega)
                        have hs3:=D.swapAt w0 ju (ju - 1) (x:=ju) (y:=(ju : Int) - 1) hsu (by omega) (by omega) rfl (by omega)
                        go_wp2_with (first|(go_at_call 429;(with_reducible refine (hl3 _ (by exact atP)).mono ?_);rintro e w9 ⟨rfl,hA9,hF9⟩)|(go_at_call 430;(with_reducible refine (hs3 _ (by exact atP)).mono ?_);rintro e w9 ⟨rfl,hA9,hF9⟩))
                        go_roundg (b - (ju + 1))
                        case measure=>omega
                        case rel=>exact ⟨ju + 1,swp du ju (ju - 1),by go_num,by omega,by omega,Nat.le_refl _,by rw [size_swp];exact hsu,by exact atP,(show Hid _ from by rw [← HU.out,shiftUp_go lt b ju du hjb' hlv3];exact rfl)⟩
                      | false =>
                        have hl3:=D.lessAt w0 ju (ju - 1) (x:=ju) (y:=(ju : Int) - 1) hsu (by omega) (by omega) hlv3 rfl (by omega)
                        go_wp2_with (first|(go_at_call 429;(with_reducible refine (hl3 _ (by exact atP)).mono ?_);rintro e w9 ⟨rfl,hA9,hF9⟩))
                        go_roundg (5 - (q + 1))
                        case measure=>omega
                        case rel=>exact ⟨kx,q + 1,du,rfl,by go_num,by omega,Nat.le_refl _,by omega,by omega,hsu,by exact atP,(show Hid _ from by rw [← HO.out,pi_go lt a b q i kx dk hs HK.out (by omega) h50,HD.out,show fixUp lt b kx (swp dk kx (kx - 1)) = du from by unfold fixUp;rw [if_pos hbk,← HU.out,shiftUp_stop lt b ju du (Or.inr hlv3)]];exact rfl)⟩
                    · have hjz : ¬ (ju : Int) < (b : Int):=by omega
                      go_wp2
                      go_roundg (5 - (q + 1))
                      case measure=>omega
                      case rel=>exact ⟨kx,q + 1,du,rfl,by go_num,by omega,Nat.le_refl _,by omega,by omega,hsu,by exact atP,(show Hid _ from by rw [← HO.out,pi_go lt a b q i kx dk hs HK.out (by omega) h50,HD.out,show fixUp lt b kx (swp dk kx (kx - 1)) = du from by unfold fixUp;rw [if_pos hbk,← HU.out,shiftUp_stop lt b ju du (Or.inl hjb')]];exact rfl)⟩
                · exfalso;omega
        · obtain rfl : kx = b:=by omega
          have hkz : ¬ (kx : Int) < (kx : Int):=by omega
          go_wp2
          have hv : Sort.partialInsertionSort lt d a kx = (dk,true):=by
            unfold Sort.partialInsertionSort
            rw [← HO.out,pi_true lt a kx q i dk hs (by rw [← HSc.out,scanSorted_stop lt dk kx kx (Or.inl (by omega))])]
          rw [hv]
          go_ret
          exact ⟨rfl,by exact atP⟩
    · obtain rfl : q = 5:=by omega
      go_wp2
      have hv : Sort.partialInsertionSort lt d a b = (dk,false):=by
        unfold Sort.partialInsertionSort
        rw [← HO.out,pi_end]
      rw [hv]
      go_ret
      exact ⟨rfl,by exact atP⟩
/-- The counter of swaps. -/
def Cnt (s : St α) (w0 w : World) (cb c : Nat) : Prop:=Blk w cb [.int .i64 c] 3 (0,0) ∧ cb ∉ s.own ∧ w0.heap.size ≤ cb
theorem Cnt.fr {w0 w w' : World} {cb c : Nat} {X : List Nat} (h : Cnt s w0 w cb c) (hf : Fr X w w') (hX : cb ∉ X) : Cnt s w0 w' cb c:=⟨hf.blk h.1 hX,h.2⟩
theorem order2_lt2 (lt : α → α → Bool) (d : Array α) {a b m : Nat} (q : Nat) (ha : a < m) (hb : b < m) : (order2 lt d a b q).1 < m ∧ (order2 lt d a b q).2.1 < m:=by
  unfold order2;split <;> exact ⟨by assumption,by assumption⟩
theorem order2_sw (lt : α → α → Bool) (d : Array α) (a b q : Nat) : (order2 lt d a b q).2.2 ≤ q + 1:=by
  unfold order2;split <;> simp
theorem order2I {a b cb c : Nat} {w0 w : World} {d : Array α} (D : IfS ra rm rc s lt n) (hA : s.At w0 d w) (hn : d.size = n) (ha : a < n) (hb : b < n) (hC : Cnt s w0 w cb c) (hc : c < 4611686018427387904) :
    Calls Tryz.prog 345 #[.iface 454 (.slice (some ra) rm rc),.int .i64 a,.int .i64 b,.pointer (some ⟨cb,0,none⟩)] w fun e w'=>e = .returned (.tuple #[.int .i64 (order2 lt d a b c).1,.int .i64 (order2 lt d a b c).2.1]) ∧ s.At w0 d w' ∧ Cnt s w0 w' cb (order2 lt d a b c).2.2:=by
  have big:=D.big
  obtain ⟨hC1,hC2,hC3⟩:=hC
  cases hlv : lt d[b]! d[a]! with
  | true =>
    have e2 : order2 lt d a b c = (b,a,c + 1):=by simp [order2,hlv]
    rw [e2]
    have hl:=D.lessAt w0 b a (x:=b) (y:=a) hn (by omega) (by omega) hlv rfl rfl
    go_enter Tryz.func345,Tryz.ntmps345
    go_wp2_with (first|(go_at_call 429;(with_reducible refine (hl _ (by exact atP)).mono ?_);rintro e w9 ⟨rfl,hA9,hF9⟩;have hC9:=hF9.blk hC1 (by simp);have cc9:=hC9.cells;have cf9:=hC9.free))
    go_ret2
    refine ⟨rfl,hA9.fr (X:=[cb]) (by exact frP) (by simp;exact ⟨hC2,hC3⟩),?_,hC2,hC3⟩
    exact blkP
  | false =>
    have e2 : order2 lt d a b c = (a,b,c):=by simp [order2,hlv]
    rw [e2]
    have hl:=D.lessAt w0 b a (x:=b) (y:=a) hn (by omega) (by omega) hlv rfl rfl
    go_enter Tryz.func345,Tryz.ntmps345
    go_wp2_with (first|(go_at_call 429;(with_reducible refine (hl _ (by exact atP)).mono ?_);rintro e w9 ⟨rfl,hA9,hF9⟩;have hC9:=hF9.blk hC1 (by simp)))
    go_ret2
    refine ⟨rfl,by exact atP,?_,hC2,hC3⟩
    exact blkP
theorem medianI {a b m cb c : Nat} {w0 w : World} {d : Array α} (D : IfS ra rm rc s lt n) (hA : s.At w0 d w) (hn : d.size = n) (ha : a < n) (hb : b < n) (hm : m < n) (hC : Cnt s w0 w cb c) (hc : c < 1000) :
    Calls Tryz.prog 331 #[.iface 454 (.slice (some ra) rm rc),.int .i64 a,.int .i64 b,.int .i64 m,.pointer (some ⟨cb,0,none⟩)] w fun e w'=>e = .returned (.int .i64 (median lt d a b m c).1) ∧ s.At w0 d w' ∧ Cnt s w0 w' cb (median lt d a b m c).2:=by
  have l1:=order2_lt2 lt d c ha hb
  have s1:=order2_sw lt d a b c
  have l2:=order2_lt2 lt d (order2 lt d a b c).2.2 l1.2 hm
  have s2:=order2_sw lt d (order2 lt d a b c).2.1 m (order2 lt d a b c).2.2
  have h1:=order2I D hA hn ha hb hC (by omega)
  have h2:=fun (w' : World) (hA : s.At w0 d w') (hC : Cnt s w0 w' cb _)=>order2I (w:=w') D hA hn l1.2 hm hC (c:=(order2 lt d a b c).2.2) (by omega)
  have h3:=fun (w' : World) (hA : s.At w0 d w') (hC : Cnt s w0 w' cb _)=>order2I (w:=w') D hA hn l1.1 l2.1 hC (c:=(order2 lt d (order2 lt d a b c).2.1 m (order2 lt d a b c).2.2).2.2) (by omega)
  clear l1 s1 l2 s2
  show Calls _ _ _ _ fun e w'=>e = .returned (.int .i64 ((order2 lt d (order2 lt d a b c).1 (order2 lt d (order2 lt d a b c).2.1 m (order2 lt d a b c).2.2).1 (order2 lt d (order2 lt d a b c).2.1 m (order2 lt d a b c).2.2).2.2).2.1 : Nat)) ∧ s.At w0 d w' ∧ Cnt s w0 w' cb (order2 lt d (order2 lt d a b c).1 (order2 lt d (order2 lt d a b c).2.1 m (order2 lt d a b c).2.2).1 (order2 lt d (order2 lt d a b c).2.1 m (order2 lt d a b c).2.2).2.2).2.2
  generalize order2 lt d a b c = r1 at *
  obtain ⟨r1a,r1b,r1s⟩:=r1
  simp only at *
  generalize order2 lt d r1b m r1s = r2 at *
  obtain ⟨r2a,r2b,r2s⟩:=r2
  simp only at *
  generalize order2 lt d r1a r2a r2s = r3 at *
  obtain ⟨r3a,r3b,r3s⟩:=r3
  simp only at *
  clear hA hC
  go_enter Tryz.func331,Tryz.ntmps331
  go_wp2_with (first
    | (go_at_call 345;with_reducible refine h1.mono ?_;rintro e w1 ⟨rfl,hA1,hC1⟩)
    | (go_at_call 345;with_reducible refine (h2 _ hA1 hC1).mono ?_;rintro e w2 ⟨rfl,hA2,hC2⟩)
    | (go_at_call 345;with_reducible refine (h3 _ hA2 hC2).mono ?_;rintro e w3 ⟨rfl,hA3,hC3⟩))
  go_ret
  exact ⟨rfl,hA3,hC3⟩
end Go.Proofs.Wx
