import Derived.Test.YtdokbceiganhdaaGreatDoorM20
set_option maxRecDepth 100000
set_option maxHeartbeats 1000000
set_option linter.unusedVariables false
set_option linter.unusedSimpArgs false
set_option linter.deprecated false
set_option linter.all false
set_option linter.unusedSectionVars false
namespace Go.Proofs.Wx
open Go Go.RowKit Go.Sort
variable {α : Type} [Inhabited α] {s : St α} {ra : Addr} {rm rc n : Nat} {lt : α → α → Bool}
set_option maxRecDepth 1000000 in
set_option maxHeartbeats 12800000 in
theorem partEqI {a b pivot : Nat} {w0 w : World} {d : Array α} (D : IfS ra rm rc s lt n) (hA : s.At w0 d w) (hn : d.size = n) (hap : a ≤ pivot) (hpb : pivot < b) (hb : b ≤ n) :
    Calls Tryz.prog 316 #[.iface 454 (.slice (some ra) rm rc),.int .i64 a,.int .i64 b,.int .i64 pivot] w fun e w'=>e = .returned (.int .i64 (Sort.partitionEqual lt d a b pivot).1) ∧ s.At w0 (Sort.partitionEqual lt d a b pivot).2 w':=by
  have big:=D.big
  have hs0:=D.swapAt w0 a pivot (x:=a) (y:=pivot) hn (by omega) (by omega) rfl rfl
  go_enter Tryz.func316,Tryz.ntmps316
  go_wp2_with (first|(go_at_call 430;(with_reducible refine (hs0 _ (by exact atP)).mono ?_);rintro e w9 ⟨rfl,hA9,hF9⟩))
  go_loopw [9,10] (fun vi vj wr=>∃ (i j : Nat) (dk : Array α),vi = .int .i64 i ∧ vj = .int .i64 j ∧ a < i ∧ i ≤ j + 1 ∧ j < b ∧ dk.size = n ∧ s.At w0 dk wr ∧
      Hid (Sort.partEqLoop lt a i j dk = Sort.partEqLoop lt a (a + 1) (b - 1) (Sort.swp d a pivot))) (fun vi vj _=>(intOf vj).toNat + 1 - (intOf vi).toNat)
  case atStart=>exact ⟨a + 1,b - 1,Sort.swp d a pivot,by go_num,by go_num,by omega,by omega,by omega,by rw [size_swp];exact hn,by exact atP,rfl⟩
  case round =>
    clear hA hA9
    obtain ⟨i,j,dk,rfl,rfl,hai,hij,hjb,hs,hA1,AE⟩:=hrel
    go_wp2
    go_loopw [9] (fun vi w1=>∃ (i' : Nat),vi = .int .i64 i' ∧ i ≤ i' ∧ i' ≤ j + 1 ∧ s.At w0 dk w1 ∧ Hid (Sort.scanUp (fun x=>!lt dk[a]! x) dk j i' = Sort.scanUp (fun x=>!lt dk[a]! x) dk j i)) (fun vi _=>j + 1 - (intOf vi).toNat)
    case atStart=>exact ⟨i,rfl,Nat.le_refl _,hij,by exact atP,rfl⟩
    case round =>
      clear hA1
      obtain ⟨i',rfl,hii,hij',hA2,hsc⟩:=hrel
      by_cases hle : i' ≤ j
      · cases hlv : lt dk[a]! dk[i']! with
        | false =>
          have hl:=D.lessAt w0 a i' (x:=a) (y:=i') hs (by omega) (by omega) hlv rfl rfl
          go_wp2_with (first|(go_at_call 429;(with_reducible refine (hl _ (by exact atP)).mono ?_);rintro e w9 ⟨rfl,hA9,hF9⟩))
          go_roundw
          case rel=>exact ⟨i' + 1,by go_num,by omega,by omega,by exact atP,(scanUp_go (fun x=>!lt dk[a]! x) dk j i' hle (by simp [hlv])).symm.trans hsc.out⟩
          case measure=>simp [intOf];omega
        | true =>
          have hl:=D.lessAt w0 a i' (x:=a) (y:=i') hs (by omega) (by omega) hlv rfl rfl
          have hi2 : Hid (i' = Sort.scanUp (fun x=>!lt dk[a]! x) dk j i):=(scanUp_end (fun x=>!lt dk[a]! x) dk j i' (Or.inr (by simp [hlv]))).symm.trans hsc.out
          go_wp2_with (first|(go_at_call 429;(with_reducible refine (hl _ (by exact atP)).mono ?_);rintro e w9 ⟨rfl,hA9,hF9⟩))
          clear hA2
          go_loopw [10] (fun vj w2=>∃ (j' : Nat),vj = .int .i64 j' ∧ j' ≤ j ∧ i' ≤ j' + 1 ∧ s.At w0 dk w2 ∧ Hid (Sort.scanDown (fun x=>lt dk[a]! x) dk i' j' = Sort.scanDown (fun x=>lt dk[a]! x) dk i' j)) (fun vj _=>(intOf vj).toNat)
          case atStart=>exact ⟨j,rfl,Nat.le_refl _,hij',by exact atP,rfl⟩
          case round =>
            (try clear hA2);(try clear hA9)
            obtain ⟨j',rfl,hjj,hij2,hA3,hsd⟩:=hrel
            by_cases hle2 : i' ≤ j'
            · cases hlv2 : lt dk[a]! dk[j']! with
              | true =>
                have hl:=D.lessAt w0 a j' (x:=a) (y:=j') hs (by omega) (by omega) hlv2 rfl rfl
                go_wp2_with (first|(go_at_call 429;(with_reducible refine (hl _ (by exact atP)).mono ?_);rintro e w9 ⟨rfl,hA9,hF9⟩))
                go_roundw
                case rel=>exact ⟨j' - 1,by go_num,by omega,by omega,by exact atP,(scanDown_go (fun x=>lt dk[a]! x) dk i' j' hle2 (by omega) (by simp [hlv2])).symm.trans hsd.out⟩
                case measure=>simp [intOf];omega
              | false =>
                have hl:=D.lessAt w0 a j' (x:=a) (y:=j') hs (by omega) (by omega) hlv2 rfl rfl
                have hj2 : Hid (j' = Sort.scanDown (fun x=>lt dk[a]! x) dk i' j):=(scanDown_end (fun x=>lt dk[a]! x) dk i' j' (Or.inr (by simp [hlv2]))).symm.trans hsd.out
                have hlt3:=scans_lt lt a i j dk (by omega) hi2.out hj2.out hle2
                have hsw:=D.swapAt w0 i' j' (x:=i') (y:=j') hs (by omega) (by omega) rfl rfl
                go_wp2_with (first|(go_at_call 429;(with_reducible refine (hl _ (by exact atP)).mono ?_);rintro e w9 ⟨rfl,hA9,hF9⟩)|(go_at_call 430;(with_reducible refine (hsw _ (by exact atP)).mono ?_);rintro e w9 ⟨rfl,hA9,hF9⟩))
                go_roundw
                case rel=>exact ⟨i' + 1,j' - 1,Sort.swp dk i' j',by go_num,by go_num,by omega,by omega,by omega,by rw [size_swp];exact hs,by exact atP,(show Hid _ from by rw [← AE.out];exact (partEq_go lt a i j dk hi2.out hj2.out (by omega)).symm)⟩
                case measure=>simp [intOf];omega
            · have hj2 : Hid (j' = Sort.scanDown (fun x=>lt dk[a]! x) dk i' j):=(scanDown_end (fun x=>lt dk[a]! x) dk i' j' (Or.inl hle2)).symm.trans hsd.out
              go_wp2
              go_ret
              have e:=partEq_break lt a i j dk hi2.out hj2.out (by omega)
              refine ⟨?_,?_⟩
              · unfold Sort.partitionEqual;rw [← AE.out,e];rfl
              · unfold Sort.partitionEqual;rw [← AE.out,e];exact atP
      · have hi2 : Hid (i' = Sort.scanUp (fun x=>!lt dk[a]! x) dk j i):=(scanUp_end (fun x=>!lt dk[a]! x) dk j i' (Or.inl hle)).symm.trans hsc.out
        go_wp2
        go_loopw [10] (fun vj w2=>∃ (j' : Nat),vj = .int .i64 j' ∧ j' ≤ j ∧ i' ≤ j' + 1 ∧ s.At w0 dk w2 ∧ Hid (Sort.scanDown (fun x=>lt dk[a]! x) dk i' j' = Sort.scanDown (fun x=>lt dk[a]! x) dk i' j)) (fun vj _=>(intOf vj).toNat)
        case atStart=>exact ⟨j,rfl,Nat.le_refl _,hij',by exact atP,rfl⟩
        case round =>
          (try clear hA2);(try clear hA9)
          obtain ⟨j',rfl,hjj,hij2,hA3,hsd⟩:=hrel
          by_cases hle2 : i' ≤ j'
          · exfalso;omega
          · have hj2 : Hid (j' = Sort.scanDown (fun x=>lt dk[a]! x) dk i' j):=(scanDown_end (fun x=>lt dk[a]! x) dk i' j' (Or.inl hle2)).symm.trans hsd.out
            go_wp2
            go_ret
            have e:=partEq_break lt a i j dk hi2.out hj2.out (by omega)
            refine ⟨?_,?_⟩
            · unfold Sort.partitionEqual;rw [← AE.out,e];rfl
            · unfold Sort.partitionEqual;rw [← AE.out,e];exact atP
set_option maxRecDepth 1000000 in
set_option maxHeartbeats 12800000 in
theorem partI {a b pivot : Nat} {w0 w : World} {d : Array α} (D : IfS ra rm rc s lt n) (hA : s.At w0 d w) (hn : d.size = n) (hap : a ≤ pivot) (hpb : pivot < b) (hb : b ≤ n) :
    Calls Tryz.prog 317 #[.iface 454 (.slice (some ra) rm rc),.int .i64 a,.int .i64 b,.int .i64 pivot] w fun e w'=>e = .returned (.tuple #[.int .i64 (Sort.partition lt d a b pivot).1,.bool (Sort.partition lt d a b pivot).2.1]) ∧ s.At w0 (Sort.partition lt d a b pivot).2.2 w':=by
  have big:=D.big
  have hs0:=D.swapAt w0 a pivot (x:=a) (y:=pivot) hn (by omega) (by omega) rfl rfl
  obtain ⟨i,hi⟩ : ∃ i : Nat,i = a + 1:=⟨_,rfl⟩
  obtain ⟨j,hj⟩ : ∃ j : Nat,j = b - 1:=⟨_,rfl⟩
  obtain ⟨dk,hdk⟩ : ∃ dk : Array α,dk = Sort.swp d a pivot:=⟨_,rfl⟩
  have hs : dk.size = n:=by rw [hdk,size_swp];exact hn
  have hai : a < i:=by omega
  have hij : i ≤ j + 1:=by omega
  have hjb : j < b:=by omega
  rw [← hdk] at hs0
  have Hi : Hid (i = a + 1):=hi
  have Hj : Hid (j = b - 1):=hj
  have Hdk : Hid (dk = Sort.swp d a pivot):=hdk
  clear hi hj hdk
  go_enter Tryz.func317,Tryz.ntmps317
  go_wp2_with (first|(go_at_call 430;with_reducible refine (hs0 _ (by exact atP)).mono ?_;rintro e w9 ⟨rfl,hA1,hF9⟩))
  rw [show ((a : Int) + 1) = (i : Int) by have:=Hi.out;omega,show ((b : Int) - 1) = (j : Int) by have:=Hj.out;omega]
  clear hA
  go_loopw [10] (fun vi w1=>∃ (i' : Nat),vi = .int .i64 i' ∧ i ≤ i' ∧ i' ≤ j + 1 ∧ s.At w0 dk w1 ∧ Hid (Sort.scanUp (fun x=>lt x dk[a]!) dk j i' = Sort.scanUp (fun x=>lt x dk[a]!) dk j i)) (fun vi _=>j + 1 - (intOf vi).toNat)
  case atStart=>exact ⟨i,rfl,Nat.le_refl _,hij,by exact atP,rfl⟩
  case round =>
    clear hA1
    obtain ⟨i',rfl,hii,hij',hA2,hsc⟩:=hrel
    by_cases hle : i' ≤ j
    · cases hlv : lt dk[i']! dk[a]! with
      | true =>
        have hl:=D.lessAt w0 i' a (x:=i') (y:=a) hs (by omega) (by omega) hlv rfl rfl
        go_wp2_with (first|(go_at_call 429;(with_reducible refine (hl _ (by exact atP)).mono ?_);rintro e w9 ⟨rfl,hA9,hF9⟩))
        go_roundw
        case rel=>exact ⟨i' + 1,by go_num,by omega,by omega,by exact atP,(scanUp_go (fun x=>lt x dk[a]!) dk j i' hle (by simp [hlv])).symm.trans hsc.out⟩
        case measure=>simp [intOf];omega
      | false =>
        have hl:=D.lessAt w0 i' a (x:=i') (y:=a) hs (by omega) (by omega) hlv rfl rfl
        have hi2 : Hid (i' = Sort.scanUp (fun x=>lt x dk[a]!) dk j i):=(scanUp_end (fun x=>lt x dk[a]!) dk j i' (Or.inr (by simp [hlv]))).symm.trans hsc.out
        go_wp2_with (first|(go_at_call 429;(with_reducible refine (hl _ (by exact atP)).mono ?_);rintro e w9 ⟨rfl,hA9,hF9⟩))
        clear hA2
        go_loopw [11] (fun vj w2=>∃ (j' : Nat),vj = .int .i64 j' ∧ j' ≤ j ∧ i' ≤ j' + 1 ∧ s.At w0 dk w2 ∧ Hid (Sort.scanDown (fun x=>!lt x dk[a]!) dk i' j' = Sort.scanDown (fun x=>!lt x dk[a]!) dk i' j)) (fun vj _=>(intOf vj).toNat)
        case atStart=>exact ⟨j,rfl,Nat.le_refl _,hij',by exact atP,rfl⟩
        case round =>
          (try clear hA2);(try clear hA9)
          obtain ⟨j',rfl,hjj,hij2,hA3,hsd⟩:=hrel
          by_cases hle2 : i' ≤ j'
          · cases hlv2 : lt dk[j']! dk[a]! with
            | false =>
              have hl:=D.lessAt w0 j' a (x:=j') (y:=a) hs (by omega) (by omega) hlv2 rfl rfl
              go_wp2_with (first|(go_at_call 429;(with_reducible refine (hl _ (by exact atP)).mono ?_);rintro e w9 ⟨rfl,hA9,hF9⟩))
              go_roundw
              case rel=>exact ⟨j' - 1,by go_num,by omega,by omega,by exact atP,(scanDown_go (fun x=>!lt x dk[a]!) dk i' j' hle2 (by omega) (by simp [hlv2])).symm.trans hsd.out⟩
              case measure=>simp [intOf];omega
            | true =>
              have hl:=D.lessAt w0 j' a (x:=j') (y:=a) hs (by omega) (by omega) hlv2 rfl rfl
              have hj2 : Hid (j' = Sort.scanDown (fun x=>!lt x dk[a]!) dk i' j):=(scanDown_end (fun x=>!lt x dk[a]!) dk i' j' (Or.inr (by simp [hlv2]))).symm.trans hsd.out
              have hlt3:=part_scans_lt lt a i j dk (by omega) hi2.out hj2.out hle2
              have hsw:=D.swapAt w0 i' j' (x:=i') (y:=j') hs (by omega) (by omega) rfl rfl
              go_wp2_with (first|(go_at_call 429;(with_reducible refine (hl _ (by exact atP)).mono ?_);rintro e w9 ⟨rfl,hA9,hF9⟩)|(go_at_call 430;(with_reducible refine (hsw _ (by exact atP)).mono ?_);rintro e w9 ⟨rfl,hA9,hF9⟩))
              (try rw [decide_eq_false (show ¬ j' < i' by omega)])
              obtain ⟨I0,hI0⟩ : ∃ I0 : Nat,I0 = i' + 1:=⟨_,rfl⟩
              obtain ⟨J0,hJ0⟩ : ∃ J0 : Nat,J0 = j' - 1:=⟨_,rfl⟩
              obtain ⟨D0,hD0⟩ : ∃ D0 : Array α,D0 = Sort.swp dk i' j':=⟨_,rfl⟩
              have PF : Hid (Sort.partition lt d a b pivot = ((Sort.partLoop lt a I0 J0 D0).1,false,Sort.swp (Sort.partLoop lt a I0 J0 D0).2 (Sort.partLoop lt a I0 J0 D0).1 a)):=by
                rw [hI0,hJ0,hD0];exact part_first_go lt d a b pivot Hi.out Hj.out Hdk.out hi2.out hj2.out (by omega)
              go_loopw [10,11] (fun vi vj wr=>∃ (i j : Nat) (dk : Array α),vi = .int .i64 i ∧ vj = .int .i64 j ∧ a < i ∧ i ≤ j + 1 ∧ j < b ∧ dk.size = n ∧ s.At w0 dk wr ∧
                  Hid (Sort.partLoop lt a i j dk = Sort.partLoop lt a I0 J0 D0)) (fun vi vj _=>(intOf vj).toNat + 1 - (intOf vi).toNat)
              case atStart=>exact ⟨i' + 1,j' - 1,Sort.swp dk i' j',by go_num,by go_num,by omega,by omega,by omega,by rw [size_swp];exact hs,by exact atP,(show Hid _ from by rw [hI0,hJ0,hD0];exact rfl)⟩
              case round =>
                clear hI0 hJ0 hD0 hsw hj2 hi2 hlt3 hl Hi Hj Hdk hs hlv2 hA3 hA9
                obtain ⟨i,j,dk,rfl,rfl,hai,hij,hjb,hs,hA1,AE⟩:=hrel
                go_wp2
                go_loopw [10] (fun vi w1=>∃ (i' : Nat),vi = .int .i64 i' ∧ i ≤ i' ∧ i' ≤ j + 1 ∧ s.At w0 dk w1 ∧ Hid (Sort.scanUp (fun x=>lt x dk[a]!) dk j i' = Sort.scanUp (fun x=>lt x dk[a]!) dk j i)) (fun vi _=>j + 1 - (intOf vi).toNat)
                case atStart=>exact ⟨i,rfl,Nat.le_refl _,hij,by exact atP,rfl⟩
                case round =>
                  clear hA1
                  obtain ⟨i',rfl,hii,hij',hA2,hsc⟩:=hrel
                  by_cases hle : i' ≤ j
                  · cases hlv : lt dk[i']! dk[a]! with
                    | true =>
                      have hl:=D.lessAt w0 i' a (x:=i') (y:=a) hs (by omega) (by omega) hlv rfl rfl
                      go_wp2_with (first|(go_at_call 429;(with_reducible refine (hl _ (by exact atP)).mono ?_);rintro e w9 ⟨rfl,hA9,hF9⟩))
                      go_roundw
                      case rel=>exact ⟨i' + 1,by go_num,by omega,by omega,by exact atP,(scanUp_go (fun x=>lt x dk[a]!) dk j i' hle (by simp [hlv])).symm.trans hsc.out⟩
                      case measure=>simp [intOf];omega
                    | false =>
                      have hl:=D.lessAt w0 i' a (x:=i') (y:=a) hs (by omega) (by omega) hlv rfl rfl
                      have hi2 : Hid (i' = Sort.scanUp (fun x=>lt x dk[a]!) dk j i):=(scanUp_end (fun x=>lt x dk[a]!) dk j i' (Or.inr (by simp [hlv]))).symm.trans hsc.out
                      go_wp2_with (first|(go_at_call 429;(with_reducible refine (hl _ (by exact atP)).mono ?_);rintro e w9 ⟨rfl,hA9,hF9⟩))
                      clear hA2
                      go_loopw [11] (fun vj w2=>∃ (j' : Nat),vj = .int .i64 j' ∧ j' ≤ j ∧ i' ≤ j' + 1 ∧ s.At w0 dk w2 ∧ Hid (Sort.scanDown (fun x=>!lt x dk[a]!) dk i' j' = Sort.scanDown (fun x=>!lt x dk[a]!) dk i' j)) (fun vj _=>(intOf vj).toNat)
                      case atStart=>exact ⟨j,rfl,Nat.le_refl _,hij',by exact atP,rfl⟩
                      case round =>
                        (try clear hA2);(try clear hA9)
                        obtain ⟨j',rfl,hjj,hij2,hA3,hsd⟩:=hrel
                        by_cases hle2 : i' ≤ j'
                        · cases hlv2 : lt dk[j']! dk[a]! with
                          | false =>
                            have hl:=D.lessAt w0 j' a (x:=j') (y:=a) hs (by omega) (by omega) hlv2 rfl rfl
                            go_wp2_with (first|(go_at_call 429;(with_reducible refine (hl _ (by exact atP)).mono ?_);rintro e w9 ⟨rfl,hA9,hF9⟩))
                            go_roundw
                            case rel=>exact ⟨j' - 1,by go_num,by omega,by omega,by exact atP,(scanDown_go (fun x=>!lt x dk[a]!) dk i' j' hle2 (by omega) (by simp [hlv2])).symm.trans hsd.out⟩
                            case measure=>simp [intOf];omega
                          | true =>
                            have hl:=D.lessAt w0 j' a (x:=j') (y:=a) hs (by omega) (by omega) hlv2 rfl rfl
                            have hj2 : Hid (j' = Sort.scanDown (fun x=>!lt x dk[a]!) dk i' j):=(scanDown_end (fun x=>!lt x dk[a]!) dk i' j' (Or.inr (by simp [hlv2]))).symm.trans hsd.out
                            have hlt3:=part_scans_lt lt a i j dk (by omega) hi2.out hj2.out hle2
                            have hsw:=D.swapAt w0 i' j' (x:=i') (y:=j') hs (by omega) (by omega) rfl rfl
                            go_wp2_with (first|(go_at_call 429;(with_reducible refine (hl _ (by exact atP)).mono ?_);rintro e w9 ⟨rfl,hA9,hF9⟩)|(go_at_call 430;(with_reducible refine (hsw _ (by exact atP)).mono ?_);rintro e w9 ⟨rfl,hA9,hF9⟩))
                            go_roundw
                            case rel=>exact ⟨i' + 1,j' - 1,Sort.swp dk i' j',by go_num,by go_num,by omega,by omega,by omega,by rw [size_swp];exact hs,by exact atP,(show Hid _ from by rw [← AE.out];exact (part_go lt a i j dk hi2.out hj2.out (by omega)).symm)⟩
                            case measure=>simp [intOf];omega
                        · have hj2 : Hid (j' = Sort.scanDown (fun x=>!lt x dk[a]!) dk i' j):=(scanDown_end (fun x=>!lt x dk[a]!) dk i' j' (Or.inl hle2)).symm.trans hsd.out
                          have e:=part_break lt a i j dk hi2.out hj2.out (by omega)
                          rw [AE.out] at e
                          have hsw:=D.swapAt w0 j' a (x:=j') (y:=a) hs (by omega) (by omega) rfl rfl
                          have PE : Hid (Sort.partition lt d a b pivot = (j',false,Sort.swp dk j' a)):=by show _ = _;rw [PF.out,e]
                          clear e
                          go_wp2_with (first|(go_at_call 430;(with_reducible refine (hsw _ (by exact atP)).mono ?_);rintro e w9 ⟨rfl,hA9,hF9⟩))
                          go_ret2
                          refine ⟨?_,?_⟩
                          · rw [PE.out];rfl
                          · rw [PE.out];exact atP
                  · have hi2 : Hid (i' = Sort.scanUp (fun x=>lt x dk[a]!) dk j i):=(scanUp_end (fun x=>lt x dk[a]!) dk j i' (Or.inl hle)).symm.trans hsc.out
                    go_wp2
                    go_loopw [11] (fun vj w2=>∃ (j' : Nat),vj = .int .i64 j' ∧ j' ≤ j ∧ i' ≤ j' + 1 ∧ s.At w0 dk w2 ∧ Hid (Sort.scanDown (fun x=>!lt x dk[a]!) dk i' j' = Sort.scanDown (fun x=>!lt x dk[a]!) dk i' j)) (fun vj _=>(intOf vj).toNat)
                    case atStart=>exact ⟨j,rfl,Nat.le_refl _,hij',by exact atP,rfl⟩
                    case round =>
                      (try clear hA2);(try clear hA9)
                      obtain ⟨j',rfl,hjj,hij2,hA3,hsd⟩:=hrel
                      by_cases hle2 : i' ≤ j'
                      · exfalso;omega
                      · have hj2 : Hid (j' = Sort.scanDown (fun x=>!lt x dk[a]!) dk i' j):=(scanDown_end (fun x=>!lt x dk[a]!) dk i' j' (Or.inl hle2)).symm.trans hsd.out
                        have e:=part_break lt a i j dk hi2.out hj2.out (by omega)
                        rw [AE.out] at e
                        have hsw:=D.swapAt w0 j' a (x:=j') (y:=a) hs (by omega) (by omega) rfl rfl
                        have PE : Hid (Sort.partition lt d a b pivot = (j',false,Sort.swp dk j' a)):=by show _ = _;rw [PF.out,e]
                        clear e
                        go_wp2_with (first|(go_at_call 430;(with_reducible refine (hsw _ (by exact atP)).mono ?_);rintro e w9 ⟨rfl,hA9,hF9⟩))
                        go_ret2
                        refine ⟨?_,?_⟩
                        · rw [PE.out];rfl
                        · rw [PE.out];exact atP
          · have hj2 : Hid (j' = Sort.scanDown (fun x=>!lt x dk[a]!) dk i' j):=(scanDown_end (fun x=>!lt x dk[a]!) dk i' j' (Or.inl hle2)).symm.trans hsd.out
            have e:=part_first_break lt d a b pivot Hi.out Hj.out Hdk.out hi2.out hj2.out (by omega)
            have hsw:=D.swapAt w0 j' a (x:=j') (y:=a) hs (by omega) (by omega) rfl rfl
            have PE : Hid (Sort.partition lt d a b pivot = (j',true,Sort.swp dk j' a)):=e
            clear e
            go_wp2_with (first|(go_at_call 430;(with_reducible refine (hsw _ (by exact atP)).mono ?_);rintro e w9 ⟨rfl,hA9,hF9⟩))
            go_ret2
            refine ⟨?_,?_⟩
            · rw [PE.out];rfl
            · rw [PE.out];exact atP
    · have hi2 : Hid (i' = Sort.scanUp (fun x=>lt x dk[a]!) dk j i):=(scanUp_end (fun x=>lt x dk[a]!) dk j i' (Or.inl hle)).symm.trans hsc.out
      go_wp2
      go_loopw [11] (fun vj w2=>∃ (j' : Nat),vj = .int .i64 j' ∧ j' ≤ j ∧ i' ≤ j' + 1 ∧ s.At w0 dk w2 ∧ Hid (Sort.scanDown (fun x=>!lt x dk[a]!) dk i' j' = Sort.scanDown (fun x=>!lt x dk[a]!) dk i' j)) (fun vj _=>(intOf vj).toNat)
      case atStart=>exact ⟨j,rfl,Nat.le_refl _,hij',by exact atP,rfl⟩
      case round =>
        (try clear hA2);(try clear hA9)
        obtain ⟨j',rfl,hjj,hij2,hA3,hsd⟩:=hrel
        by_cases hle2 : i' ≤ j'
        · exfalso;omega
        · have hj2 : Hid (j' = Sort.scanDown (fun x=>!lt x dk[a]!) dk i' j):=(scanDown_end (fun x=>!lt x dk[a]!) dk i' j' (Or.inl hle2)).symm.trans hsd.out
          have e:=part_first_break lt d a b pivot Hi.out Hj.out Hdk.out hi2.out hj2.out (by omega)
          have hsw:=D.swapAt w0 j' a (x:=j') (y:=a) hs (by omega) (by omega) rfl rfl
          have PE : Hid (Sort.partition lt d a b pivot = (j',true,Sort.swp dk j' a)):=e
          clear e
          go_wp2_with (first|(go_at_call 430;(with_reducible refine (hsw _ (by exact atP)).mono ?_);rintro e w9 ⟨rfl,hA9,hF9⟩))
          go_ret2
          refine ⟨?_,?_⟩
          · rw [PE.out];rfl
          · rw [PE.out];exact atP
end Go.Proofs.Wx
