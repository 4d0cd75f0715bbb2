import Derived.Test.YtdokbceiganhdaaGreatDoorM16
set_option maxRecDepth 100000
set_option maxHeartbeats 1000000
set_option linter.unusedVariables false
set_option linter.unusedSimpArgs false
set_option linter.deprecated false
set_option linter.all false
set_option linter.unusedSectionVars false
namespace Go.Proofs.Wx
open Go Go.RowKit Go.Sort
variable {α : Type} [Inhabited α] {s : St α} {ra : Addr} {rm rc n : Nat} {lt : α → α → Bool}
theorem insSortI {a b : Nat} {w0 w : World} {d : Array α} (D : IfS ra rm rc s lt n) (hA : s.At w0 d w) (hn : d.size = n) (hab : a ≤ b) (hb : b ≤ n) :
    Calls Tryz.prog 310 #[.iface 454 (.slice (some ra) rm rc),.int .i64 a,.int .i64 b] w fun e w'=>e = .returned (.tuple #[]) ∧ s.At w0 (Sort.insertionSort lt d a b) w':=by
  have big:=D.big
  go_enter Tryz.func310,Tryz.ntmps310
  go_wp2
  go_loopw [6] (fun vi wr=>∃ (i : Nat) (dk : Array α),vi = .int .i64 i ∧ a < i ∧ i ≤ b + 1 ∧ dk.size = n ∧ s.At w0 dk wr ∧ Hid (insOuter lt a b i dk = insOuter lt a b (a + 1) d)) (fun vi _=>b + 1 - (intOf vi).toNat)
  case atStart=>exact ⟨a + 1,d,by go_num,by omega,by omega,hn,hA,rfl⟩
  case round =>
    obtain ⟨i,dk,rfl,hai,hib,hsk,hA1,HO⟩:=hrel
    by_cases hlt : i < b
    · go_wp2
      go_loopw [7] (fun vj wr2=>∃ (j : Nat) (dj : Array α),vj = .int .i64 j ∧ a ≤ j ∧ j ≤ i ∧ dj.size = n ∧ s.At w0 dj wr2 ∧ Hid (insInner lt a j dj = insInner lt a i dk)) (fun vj _=>(intOf vj).toNat)
      case atStart=>exact ⟨i,dk,rfl,by omega,Nat.le_refl _,hsk,hA1,rfl⟩
      case round =>
        clear hA1
        obtain ⟨j,dj,rfl,haj,hji,hsj,hA2,HI⟩:=hrel
        by_cases hja : a < j
        · cases hlv : lt dj[j]! dj[j - 1]! with
          | true =>
            have hl:=D.lessAt w0 j (j - 1) (x:=j) (y:=(j : Int) - 1) hsj (by omega) (by omega) hlv rfl (by omega)
            have hs:=D.swapAt w0 j (j - 1) (x:=j) (y:=(j : Int) - 1) hsj (by omega) (by omega) rfl (by omega)
            go_wp2_with (first|(go_at_call 429;(with_reducible refine (hl _ (by exact atP)).mono ?_);rintro e w9 ⟨rfl,hA9,hF9⟩)|(go_at_call 430;(with_reducible refine (hs _ (by exact atP)).mono ?_);rintro e w9 ⟨rfl,hA9,hF9⟩))
            go_roundw
            case rel=>exact ⟨j - 1,swp dj j (j - 1),by congr 1;omega,by omega,by omega,by rw [size_swp];exact hsj,by exact atP,(show Hid _ from by rw [← HI.out,insInner_go lt a j dj hja hlv];exact rfl)⟩
            case measure=>simp [intOf];omega
          | false =>
            have hl:=D.lessAt w0 j (j - 1) (x:=j) (y:=(j : Int) - 1) hsj (by omega) (by omega) hlv rfl (by omega)
            go_wp2_with (first|(go_at_call 429;(with_reducible refine (hl _ (by exact atP)).mono ?_);rintro e w9 ⟨rfl,hA9,hF9⟩))
            go_roundw
            case rel=>exact ⟨i + 1,dj,by go_num,by omega,by omega,hsj,by exact atP,(show Hid _ from by rw [← HO.out,insOuter_go _ _ _ _ _ hlt,← HI.out,insInner_stop _ _ _ _ (Or.inr hlv)];exact rfl)⟩
            case measure=>simp [intOf];omega
        · go_wp2
          go_roundw
          case rel=>exact ⟨i + 1,dj,by go_num,by omega,by omega,hsj,by exact atP,(show Hid _ from by rw [← HO.out,insOuter_go _ _ _ _ _ hlt,← HI.out,insInner_stop _ _ _ _ (Or.inl (by omega))];exact rfl)⟩
          case measure=>simp [intOf];omega
    · go_wp2
      go_end0
      exact ⟨rfl,by unfold Sort.insertionSort;rw [← HO.out,insOuter_stop _ _ _ _ _ hlt];exact atP⟩
theorem rev_go {i j : Nat} {d : Array α} (h : i < j) : reverseLoop i j d = reverseLoop (i + 1) (j - 1) (swp d i j):=by rw [reverseLoop,if_pos h]
theorem reverseI {a b : Nat} {w0 w : World} {d : Array α} (D : IfS ra rm rc s lt n) (hA : s.At w0 d w) (hn : d.size = n) (hab : a ≤ b) (hb : b ≤ n) :
    Calls Tryz.prog 314 #[.iface 454 (.slice (some ra) rm rc),.int .i64 a,.int .i64 b] w fun e w'=>e = .returned (.tuple #[]) ∧ s.At w0 (reverseRange d a b) w':=by
  have big:=D.big
  go_enter Tryz.func314,Tryz.ntmps314
  go_wp2
  go_loopg [6,7] (b - a) (fun k s6 s7 wr=>∃ (i jn : Nat) (jz : Int) (dk : Array α),s6 = .int .i64 i ∧ s7 = .int .i64 jz ∧ ((i : Int) < jz → jz = jn ∧ jn < n) ∧ (¬ (i : Int) < jz → ¬ i < jn) ∧ jn - i ≤ k ∧
    dk.size = n ∧ s.At w0 dk wr ∧ Hid (reverseLoop i jn dk = reverseLoop a (b - 1) d))
  case atStart=>exact ⟨a,b - 1,(b : Int) - 1,d,rfl,rfl,fun h=>⟨by omega,by omega⟩,fun h=>by omega,by omega,hn,hA,rfl⟩
  case round =>
    obtain ⟨i,jn,jz,dk,rfl,rfl,h1,h2,hk,hds,hA1,HE⟩:=hrel
    by_cases hlt : (i : Int) < jz
    · obtain ⟨rfl,hjn⟩:=h1 hlt
      have hij : i < jn:=by omega
      have hs:=D.swapAt w0 i jn (x:=i) (y:=jn) hds (by omega) (by omega) rfl rfl
      clear h1 h2
      go_wp2_with (first|(go_at_call 430;(with_reducible refine (hs _ (by exact atP)).mono ?_);rintro e w9 ⟨rfl,hA9,hF9⟩))
      go_roundg (jn - 1 - (i + 1))
      case measure=>omega
      case rel=>exact ⟨i + 1,jn - 1,(jn : Int) - 1,swp dk i jn,by simp,rfl,fun h=>⟨by omega,by omega⟩,fun h=>by omega,Nat.le_refl _,by rw [size_swp];exact hds,by exact atP,(show Hid _ from by rw [← HE.out,rev_go hij];exact rfl)⟩
    · have hnot:=h2 hlt
      go_wp2
      go_end0
      refine ⟨rfl,?_⟩
      rw [reverseRange,← HE.out,reverseLoop,if_neg hnot]
      exact atP
set_option maxRecDepth 1000000 in
set_option maxHeartbeats 12800000 in
theorem siftDownI {lo hi first : Nat} {w0 w : World} {d : Array α} (D : IfS ra rm rc s lt n) (hA : s.At w0 d w) (hn : d.size = n) (hlo : lo ≤ hi) (hb : first + hi ≤ n) :
    Calls Tryz.prog 329 #[.iface 454 (.slice (some ra) rm rc),.int .i64 lo,.int .i64 hi,.int .i64 first] w fun e w'=>e = .returned (.tuple #[]) ∧ s.At w0 (siftDown lt hi first lo d) w':=by
  have big:=D.big
  go_enter Tryz.func329,Tryz.ntmps329
  go_wp2
  go_loopg [8] (hi - lo) (fun kx s8 wr=>∃ (root : Nat) (dk : Array α),s8 = .int .i64 root ∧ root ≤ hi ∧ hi - root ≤ kx ∧ dk.size = n ∧ s.At w0 dk wr ∧ Hid (siftDown lt hi first root dk = siftDown lt hi first lo d))
  case atStart=>exact ⟨lo,d,rfl,hlo,Nat.le_refl _,hn,hA,rfl⟩
  case round =>
    clear hA
    obtain ⟨root,dk,rfl,hr,hkx,hds,hA1,HE⟩:=hrel
    by_cases h0 : hi ≤ 2 * root + 1
    · have h0z : (hi : Int) ≤ 2 * (root : Int) + 1:=by omega
      go_wp2
      go_end0
      refine ⟨rfl,?_⟩
      rw [← HE.out,sd_end lt dk h0]
      exact atP
    · have h0z : ¬ ((hi : Int) ≤ 2 * (root : Int) + 1):=by omega
      by_cases h1 : 2 * root + 2 < hi
      · have h1z : 2 * (root : Int) + 1 + 1 < (hi : Int):=by omega
        cases hL : lt dk[first + (2 * root + 1)]! dk[first + (2 * root + 2)]! with
        | true =>
          have hl1:=D.lessAt w0 (first + (2 * root + 1)) (first + (2 * root + 2)) (x:=(first : Int) + (2 * (root : Int) + 1)) (y:=(first : Int) + (2 * (root : Int) + 1) + 1) hds (by omega) (by omega) hL (by omega) (by omega)
          have hs:=D.swapAt w0 (first + root) (first + (2 * root + 2)) (x:=(first : Int) + (root : Int)) (y:=(first : Int) + (2 * (root : Int) + 1 + 1)) hds (by omega) (by omega) (by omega) (by omega)
          cases hG : lt dk[first + root]! dk[first + (2 * root + 2)]! with
          | true =>
            have hl2:=D.lessAt w0 (first + root) (first + (2 * root + 2)) (x:=(first : Int) + (root : Int)) (y:=(first : Int) + (2 * (root : Int) + 1 + 1)) hds (by omega) (by omega) hG (by omega) (by omega)
            go_wp2_with (first|(go_at_call 429;(with_reducible refine (hl1 _ (by exact atP)).mono ?_);rintro e w9 ⟨rfl,hA9,hF9⟩) |(go_at_call 429;(with_reducible refine (hl2 _ (by exact atP)).mono ?_);rintro e w9 ⟨rfl,hA9,hF9⟩)|(go_at_call 430;(with_reducible refine (hs _ (by exact atP)).mono ?_);rintro e w9 ⟨rfl,hA9,hF9⟩))
            go_roundg (hi - (2 * root + 2))
            case measure=>omega
            case rel=>exact ⟨2 * root + 2,swp dk (first + root) (first + (2 * root + 2)),by go_num,by omega,Nat.le_refl _,by rw [size_swp];exact hds,by exact atP,(show Hid _ from by rw [← HE.out,sd_right_go lt dk h1 hL hG];exact rfl)⟩
          | false =>
            have hl2:=D.lessAt w0 (first + root) (first + (2 * root + 2)) (x:=(first : Int) + (root : Int)) (y:=(first : Int) + (2 * (root : Int) + 1 + 1)) hds (by omega) (by omega) hG (by omega) (by omega)
            go_wp2_with (first|(go_at_call 429;(with_reducible refine (hl1 _ (by exact atP)).mono ?_);rintro e w9 ⟨rfl,hA9,hF9⟩) |(go_at_call 429;(with_reducible refine (hl2 _ (by exact atP)).mono ?_);rintro e w9 ⟨rfl,hA9,hF9⟩))
            (try simp only [Exit.inBlock,Exit.then]);refine bodyPost_ret (results_none rfl _ _ _) rfl ?_
            refine ⟨rfl,?_⟩
            rw [← HE.out,sd_right_stop lt dk h1 hL hG]
            exact atP
        | false =>
          have hl1:=D.lessAt w0 (first + (2 * root + 1)) (first + (2 * root + 2)) (x:=(first : Int) + (2 * (root : Int) + 1)) (y:=(first : Int) + (2 * (root : Int) + 1) + 1) hds (by omega) (by omega) hL (by omega) (by omega)
          have hs:=D.swapAt w0 (first + root) (first + (2 * root + 1)) (x:=(first : Int) + (root : Int)) (y:=(first : Int) + (2 * (root : Int) + 1)) hds (by omega) (by omega) (by omega) (by omega)
          cases hG : lt dk[first + root]! dk[first + (2 * root + 1)]! with
          | true =>
            have hl2:=D.lessAt w0 (first + root) (first + (2 * root + 1)) (x:=(first : Int) + (root : Int)) (y:=(first : Int) + (2 * (root : Int) + 1)) hds (by omega) (by omega) hG (by omega) (by omega)
            go_wp2_with (first|(go_at_call 429;(with_reducible refine (hl1 _ (by exact atP)).mono ?_);rintro e w9 ⟨rfl,hA9,hF9⟩) |(go_at_call 429;(with_reducible refine (hl2 _ (by exact atP)).mono ?_);rintro e w9 ⟨rfl,hA9,hF9⟩)|(go_at_call 430;(with_reducible refine (hs _ (by exact atP)).mono ?_);rintro e w9 ⟨rfl,hA9,hF9⟩))
            go_roundg (hi - (2 * root + 1))
            case measure=>omega
            case rel=>exact ⟨2 * root + 1,swp dk (first + root) (first + (2 * root + 1)),by go_num,by omega,Nat.le_refl _,by rw [size_swp];exact hds,by exact atP,(show Hid _ from by rw [← HE.out,sd_left_go lt dk (by omega) (fun _=>hL) hG];exact rfl)⟩
          | false =>
            have hl2:=D.lessAt w0 (first + root) (first + (2 * root + 1)) (x:=(first : Int) + (root : Int)) (y:=(first : Int) + (2 * (root : Int) + 1)) hds (by omega) (by omega) hG (by omega) (by omega)
            go_wp2_with (first|(go_at_call 429;(with_reducible refine (hl1 _ (by exact atP)).mono ?_);rintro e w9 ⟨rfl,hA9,hF9⟩) |(go_at_call 429;(with_reducible refine (hl2 _ (by exact atP)).mono ?_);rintro e w9 ⟨rfl,hA9,hF9⟩))
            (try simp only [Exit.inBlock,Exit.then]);refine bodyPost_ret (results_none rfl _ _ _) rfl ?_
            refine ⟨rfl,?_⟩
            rw [← HE.out,sd_left_stop lt dk (by omega) (fun _=>hL) hG]
            exact atP
      · have h1z : ¬ (2 * (root : Int) + 1 + 1 < (hi : Int)):=by omega
        have hs:=D.swapAt w0 (first + root) (first + (2 * root + 1)) (x:=(first : Int) + (root : Int)) (y:=(first : Int) + (2 * (root : Int) + 1)) hds (by omega) (by omega) (by omega) (by omega)
        cases hG : lt dk[first + root]! dk[first + (2 * root + 1)]! with
        | true =>
          have hl2:=D.lessAt w0 (first + root) (first + (2 * root + 1)) (x:=(first : Int) + (root : Int)) (y:=(first : Int) + (2 * (root : Int) + 1)) hds (by omega) (by omega) hG (by omega) (by omega)
          go_wp2_with (first|(go_at_call 429;(with_reducible refine (hl2 _ (by exact atP)).mono ?_);rintro e w9 ⟨rfl,hA9,hF9⟩)|(go_at_call 430;(with_reducible refine (hs _ (by exact atP)).mono ?_);rintro e w9 ⟨rfl,hA9,hF9⟩))
          go_roundg (hi - (2 * root + 1))
          case measure=>omega
          case rel=>exact ⟨2 * root + 1,swp dk (first + root) (first + (2 * root + 1)),by go_num,by omega,Nat.le_refl _,by rw [size_swp];exact hds,by exact atP,(show Hid _ from by rw [← HE.out,sd_left_go lt dk (by omega) (fun h=>absurd h h1) hG];exact rfl)⟩
        | false =>
          have hl2:=D.lessAt w0 (first + root) (first + (2 * root + 1)) (x:=(first : Int) + (root : Int)) (y:=(first : Int) + (2 * (root : Int) + 1)) hds (by omega) (by omega) hG (by omega) (by omega)
          go_wp2_with (first|(go_at_call 429;(with_reducible refine (hl2 _ (by exact atP)).mono ?_);rintro e w9 ⟨rfl,hA9,hF9⟩))
          (try simp only [Exit.inBlock,Exit.then]);refine bodyPost_ret (results_none rfl _ _ _) rfl ?_
          refine ⟨rfl,?_⟩
          rw [← HE.out,sd_left_stop lt dk (by omega) (fun h=>absurd h h1) hG]
          exact atP
set_option maxRecDepth 1000000 in
set_option maxHeartbeats 12800000 in
theorem heapSortI {a b : Nat} {w0 w : World} {d : Array α} (D : IfS ra rm rc s lt n) (hA : s.At w0 d w) (hn : d.size = n) (hab : a ≤ b) (hb : b ≤ n) :
    Calls Tryz.prog 311 #[.iface 454 (.slice (some ra) rm rc),.int .i64 a,.int .i64 b] w fun e w'=>e = .returned (.tuple #[]) ∧ s.At w0 (heapSort lt d a b) w':=by
  have big:=D.big
  have ecast : ((b - a : Nat) : Int) = (b : Int) - (a : Int):=by omega
  go_enter Tryz.func311,Tryz.ntmps311
  go_wp2
  go_loopg [9] ((b - a - 1) / 2 + 1) (fun kx s9 wr=>s9 = .int .i64 ((kx : Int) - 1) ∧ kx ≤ (b - a - 1) / 2 + 1 ∧ ∃ (dk : Array α),dk.size = n ∧ s.At w0 dk wr ∧
    Hid (heapBuild lt (b - a) a kx dk = heapBuild lt (b - a) a ((b - a - 1) / 2 + 1) d))
  case atStart=>exact ⟨by rw [half_start hab],Nat.le_refl _,d,hn,hA,rfl⟩
  case round =>
    clear hA
    obtain ⟨rfl,hkk,dk,hds,hA1,HE⟩:=hrel
    cases gk with
    | zero =>
      have hB : Hid (dk = heapBuild lt (b - a) a ((b - a - 1) / 2 + 1) d):=HE.out
      clear HE hkk
      go_wp2
      go_loopg [10] (b - a) (fun kx s10 wr2=>s10 = .int .i64 ((kx : Int) - 1) ∧ kx ≤ b - a ∧ ∃ (dj : Array α),dj.size = n ∧ s.At w0 dj wr2 ∧ Hid (heapPop lt a kx dj = heapPop lt a (b - a) dk))
      case atStart=>exact ⟨by rw [ecast],Nat.le_refl _,dk,hds,by exact atP,rfl⟩
      case round =>
        clear hA1
        obtain ⟨rfl,hkk,dj,hdj,hA2,HE2⟩:=hrel
        cases gk with
        | zero =>
          go_wp2
          go_end0
          have e : dj = heapSort lt d a b:=by rw [heapSort,← hB.out,← HE2.out];rfl
          rw [← e]
          exact ⟨rfl,by exact atP⟩
        | succ kx =>
          have hs:=D.swapAt w0 a (a + kx) (x:=a) (y:=(a : Int) + (kx : Int)) hdj (by omega) (by omega) rfl (by omega)
          have hd2 : (swp dj a (a + kx)).size = n:=by rw [size_swp];exact hdj
          have hcall : ∀ W : World,s.At w0 (swp dj a (a + kx)) W → Calls Tryz.prog 329 #[.iface 454 (.slice (some ra) rm rc),.int .i64 0,.int .i64 kx,.int .i64 a] W fun e w'=>e = .returned (.tuple #[]) ∧ s.At w0 (siftDown lt kx a 0 (swp dj a (a + kx))) w':=fun W hA=>siftDownI (lo:=0) (hi:=kx) (first:=a) D hA hd2 (Nat.zero_le _) (by omega)
          go_wp2_with (first|(go_at_call 430;(with_reducible refine (hs _ (by exact atP)).mono ?_);rintro e w9 ⟨rfl,hA9,hF9⟩)|(go_at_call 329;with_reducible refine (hcall _ (by exact atP)).mono ?_;rintro e w1 ⟨rfl,hA3⟩))
          go_roundg kx
          case measure=>omega
          case rel =>
            have hss : (siftDown lt kx a 0 (swp dj a (a + kx))).size = (swp dj a (a + kx)).size:=size_siftDown lt _ _ _ _ _ (Nat.le_refl _)
            exact ⟨by simp,by omega,siftDown lt kx a 0 (swp dj a (a + kx)),by rw [hss,hd2],by exact atP,HE2⟩
    | succ kx =>
      have hcall:=siftDownI (lo:=kx) (hi:=b - a) (first:=a) D hA1 hds (by omega) (by omega)
      rw [ecast] at hcall
      go_wp2_with (first|(go_at_call 329;refine hcall.mono ?_;rintro e w1 ⟨rfl,hA3⟩))
      go_roundg kx
      case measure=>omega
      case rel =>
        have hss : (siftDown lt (b - a) a kx dk).size = dk.size:=size_siftDown lt _ _ _ _ _ (Nat.le_refl _)
        exact ⟨by simp,by omega,siftDown lt (b - a) a kx dk,by rw [hss,hds],by exact atP,HE⟩
end Go.Proofs.Wx
