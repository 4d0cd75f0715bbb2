import Derived.Test.YtdokbceiganhdaaGreatDoorM22
import Derived.Laws.Bits64b
set_option maxRecDepth 100000
set_option maxHeartbeats 1000000
set_option linter.unusedVariables false
set_option linter.unusedSimpArgs false
set_option linter.deprecated false
set_option linter.all false
set_option linter.unusedSectionVars false
namespace Go.Proofs.Wx
open Go Go.RowKit Go.Sort
abbrev oSortI40 : List (Nat × Cls):=[(0,.free),(1,.free),(2,.look),(3,.free),(4,.free),(5,.look),(6,.free),(7,.free),(8,.free),(9,.act)]
variable {α : Type} [Inhabited α] {s : St α} {ra : Addr} {rm rc n : Nat} {lt : α → α → Bool}
theorem medAdjI {a cb c : Nat} {w0 w : World} {d : Array α} (D : IfS ra rm rc s lt n) (hA : s.At w0 d w) (hn : d.size = n) (ha : 1 ≤ a) (ha2 : a + 1 < n) (hC : Cnt s w0 w cb c) (hc : c < 1000) :
    Calls Tryz.prog 330 #[.iface 454 (.slice (some ra) rm rc),.int .i64 a,.pointer (some ⟨cb,0,none⟩)] w fun e w'=>e = .returned (.int .i64 (medianAdjacent lt d a c).1) ∧ s.At w0 d w' ∧ Cnt s w0 w' cb (medianAdjacent lt d a c).2:=by
  have big:=D.big
  have hm:=medianI D hA hn (a:=a - 1) (b:=a) (m:=a + 1) (by omega) (by omega) ha2 hC hc
  rw [show ((a - 1 : Nat) : Int) = (a : Int) - 1 by omega,show ((a + 1 : Nat) : Int) = (a : Int) + 1 by omega] at hm
  clear hA hC
  go_enter Tryz.func330,Tryz.ntmps330
  go_wp2_with (first|(go_at_call 331;refine hm.mono ?_;rintro e w1 ⟨rfl,hA1,hC1⟩))
  go_ret
  exact ⟨rfl,hA1,hC1⟩
theorem Cnt.drew {w0 w : World} {cb c : Nat} (h : Cnt s w0 w cb c) : Cnt s w0 w.drew cb c:=h
theorem Cnt.drewN {w0 w : World} {cb c m : Nat} (h : Cnt s w0 w cb c) : Cnt s w0 (w.drewN m) cb c:=h
theorem of_beqZ {x y : Int} (h : (x == y) = true) : x = y:=by simpa using h
theorem of_bneZ {x y : Int} (h : (x == y) = false) : x ≠ y:=by simpa using h
theorem Cnt.start {w0 w : World} {d : Array α} (hA : s.At w0 d w) : s.At w0 d (w.alloc (.cells #[.int .i64 0] 3)) ∧ Cnt s w0 (w.alloc (.cells #[.int .i64 0] 3)) w.heap.size 0 :=
  ⟨hA.alloc,Blk.new (cs:=[.int .i64 0]),fun hm=>Nat.lt_irrefl _ (s.lt hA.1 _ hm),hA.size⟩
set_option maxRecDepth 1000000 in
set_option maxHeartbeats 12800000 in
theorem pivotI {a b : Nat} {w0 w : World} {d : Array α} (D : IfS ra rm rc s lt n) (hA : s.At w0 d w) (hn : d.size = n) (hab : a < b) (hb : b ≤ n) :
    Calls Tryz.prog 313 #[.iface 454 (.slice (some ra) rm rc),.int .i64 a,.int .i64 b] w fun e w'=>e = .returned (.tuple #[.int .i64 (choosePivot lt d a b).1,.int .i64 (hintCode (choosePivot lt d a b).2)]) ∧ s.At w0 d w':=by
  have big:=D.big
  obtain ⟨hA0,hC0⟩:=Cnt.start hA
  have MA:=fun (x c : Nat) (h1 : 1 ≤ x) (h2 : x + 1 < n) (hc : c < 1000) (w' : World) (hA : s.At w0 d w') (hC : Cnt s w0 w' w.heap.size c)=>medAdjI (w0:=w0) (w:=w') (d:=d) (cb:=w.heap.size) D hA hn h1 h2 hC hc
  have MD:=fun (x y z c : Nat) (hx : x < n) (hy : y < n) (hz : z < n) (hc : c < 1000) (w' : World) (hA : s.At w0 d w') (hC : Cnt s w0 w' w.heap.size c)=>medianI (w0:=w0) (w:=w') (d:=d) (cb:=w.heap.size) D hA hn hx hy hz hC hc
  rw [choosePivot_eq]
  obtain ⟨I,hI⟩ : ∃ I : Nat,I = a + (b - a) / 4 * 1:=⟨_,rfl⟩
  obtain ⟨J,hJ⟩ : ∃ J : Nat,J = a + (b - a) / 4 * 2:=⟨_,rfl⟩
  obtain ⟨K,hK⟩ : ∃ K : Nat,K = a + (b - a) / 4 * 3:=⟨_,rfl⟩
  have eI : ((a : Int) + ((b : Int) - (a : Int)) / 4) = (I : Int):=by omega
  have eJ : ((a : Int) + ((b : Int) - (a : Int)) / 4 * 2) = (J : Int):=by omega
  have eK : ((a : Int) + ((b : Int) - (a : Int)) / 4 * 3) = (K : Int):=by omega
  by_cases h8 : b - a ≥ 8
  · by_cases h50 : b - a ≥ 50
    · obtain ⟨i1,s1,h1⟩ : ∃ i1 s1,medianAdjacent lt d I 0 = (i1,s1):=⟨_,_,rfl⟩
      obtain ⟨j1,s2,h2⟩ : ∃ j1 s2,medianAdjacent lt d J s1 = (j1,s2):=⟨_,_,rfl⟩
      obtain ⟨k1,s3,h3⟩ : ∃ k1 s3,medianAdjacent lt d K s2 = (k1,s3):=⟨_,_,rfl⟩
      obtain ⟨p,q,h4⟩ : ∃ p q,median lt d i1 j1 k1 s3 = (p,q):=⟨_,_,rfl⟩
      have hraw : rawPivot lt d a b = (p,q):=by simp only [rawPivot,if_pos h8,if_pos h50,← hI,← hJ,← hK,h1,h2,h3,h4]
      have m1:=medianAdjacent_mem lt d I 0;rw [h1] at m1
      have m2:=medianAdjacent_mem lt d J s1;rw [h2] at m2
      have m3:=medianAdjacent_mem lt d K s2;rw [h3] at m3
      have n1:=medianAdjacent_count lt d I 0;rw [h1] at n1
      have n2:=medianAdjacent_count lt d J s1;rw [h2] at n2
      have n3:=medianAdjacent_count lt d K s2;rw [h3] at n3
      simp only [] at m1 m2 m3 n1 n2 n3
      have c1:=MA I 0 (by omega) (by omega) (by omega)
      have c2:=MA J s1 (by omega) (by omega) (by omega)
      have c3:=MA K s2 (by omega) (by omega) (by omega)
      have c4:=MD i1 j1 k1 s3 (by omega) (by omega) (by omega) (by omega)
      simp only [h1] at c1
      simp only [h2] at c2
      simp only [h3] at c3
      simp only [h4] at c4
      rw [hraw]
      obtain ⟨Hc,hHc⟩ : ∃ Hc : Int,Hc = hintCode (hintOf q):=⟨_,rfl⟩
      have hh0 : q = 0 → Hc = 1:=fun h=>by rw [hHc,h];rfl
      have hh12 : q = 12 → Hc = 2:=fun h=>by rw [hHc,h];rfl
      have hhx : q ≠ 0 → q ≠ 12 → Hc = 0:=fun h1 h2=>by rw [hHc];unfold hintOf;rw [if_neg h1,if_neg h2];rfl
      show Calls _ _ _ w fun e w'=>e = .returned (.tuple #[.int .i64 (p : Int),.int .i64 (hintCode (hintOf q))]) ∧ s.At w0 d w'
      rw [← hHc]
      clear hHc hraw
      clear h1 h2 h3 h4 MA MD hI hJ hK m1 m2 m3 hA
      go_enter Tryz.func313,Tryz.ntmps313
      go_wp2_with (first
        | (go_at_call 330;(with_reducible refine (c1 _ (by exact atP) (by (repeat (first|(with_reducible assumption)|(with_reducible refine Cnt.drew ?_)|(with_reducible refine Cnt.drewN ?_))))).mono ?_);rintro e w1 ⟨rfl,hA1,hC1⟩;have cc1:=hC1.1.cells)
        | (go_at_call 330;(with_reducible refine (c2 _ (by exact atP) (by (repeat (first|(with_reducible assumption)|(with_reducible refine Cnt.drew ?_)|(with_reducible refine Cnt.drewN ?_))))).mono ?_);rintro e w2 ⟨rfl,hA2,hC2⟩;have cc2:=hC2.1.cells)
        | (go_at_call 330;(with_reducible refine (c3 _ (by exact atP) (by (repeat (first|(with_reducible assumption)|(with_reducible refine Cnt.drew ?_)|(with_reducible refine Cnt.drewN ?_))))).mono ?_);rintro e w3 ⟨rfl,hA3,hC3⟩;have cc3:=hC3.1.cells)
        | (go_at_call 331;(with_reducible refine (c4 _ (by exact atP) (by (repeat (first|(with_reducible assumption)|(with_reducible refine Cnt.drew ?_)|(with_reducible refine Cnt.drewN ?_))))).mono ?_);rintro e w4 ⟨rfl,hA4,hC4⟩;have cc4:=hC4.1.cells))
      all_goals
        go_ret2
        refine ⟨?_,by exact atP⟩
        first
          | (have e0 : (q : Int) = 0:=of_beqZ (by assumption)
             rw [hh0 (by omega)];rfl)
          | (have e1 : (q : Int) = 12:=of_beqZ (by assumption)
             rw [hh12 (by omega)];rfl)
          | (have e0 : (q : Int) ≠ 0:=of_bneZ (by assumption)
             have e1 : (q : Int) ≠ 12:=of_bneZ (by assumption)
             rw [hhx (by omega) (by omega)];rfl)
          | (rw [hh0 (by omega)];rfl)
    · obtain ⟨p,q,h4⟩ : ∃ p q,median lt d I J K 0 = (p,q):=⟨_,_,rfl⟩
      have hraw : rawPivot lt d a b = (p,q):=by simp only [rawPivot,if_pos h8,if_neg h50,← hI,← hJ,← hK,h4]
      have c4:=MD I J K 0 (by omega) (by omega) (by omega) (by omega)
      simp only [h4] at c4
      rw [hraw]
      obtain ⟨Hc,hHc⟩ : ∃ Hc : Int,Hc = hintCode (hintOf q):=⟨_,rfl⟩
      have hh0 : q = 0 → Hc = 1:=fun h=>by rw [hHc,h];rfl
      have hh12 : q = 12 → Hc = 2:=fun h=>by rw [hHc,h];rfl
      have hhx : q ≠ 0 → q ≠ 12 → Hc = 0:=fun h1 h2=>by rw [hHc];unfold hintOf;rw [if_neg h1,if_neg h2];rfl
      show Calls _ _ _ w fun e w'=>e = .returned (.tuple #[.int .i64 (p : Int),.int .i64 (hintCode (hintOf q))]) ∧ s.At w0 d w'
      rw [← hHc]
      clear hHc hraw
      clear h4 MA MD hI hJ hK hA
      go_enter Tryz.func313,Tryz.ntmps313
      go_wp2_with (first|(go_at_call 331;(with_reducible refine (c4 _ (by exact atP) (by (repeat (first|(with_reducible assumption)|(with_reducible refine Cnt.drew ?_)|(with_reducible refine Cnt.drewN ?_))))).mono ?_);rintro e w4 ⟨rfl,hA4,hC4⟩;have cc4:=hC4.1.cells))
      all_goals
        go_ret2
        refine ⟨?_,by exact atP⟩
        first
          | (have e0 : (q : Int) = 0:=of_beqZ (by assumption)
             rw [hh0 (by omega)];rfl)
          | (have e1 : (q : Int) = 12:=of_beqZ (by assumption)
             rw [hh12 (by omega)];rfl)
          | (have e0 : (q : Int) ≠ 0:=of_bneZ (by assumption)
             have e1 : (q : Int) ≠ 12:=of_bneZ (by assumption)
             rw [hhx (by omega) (by omega)];rfl)
          | (rw [hh0 (by omega)];rfl)
  · obtain ⟨p,hp⟩ : ∃ p : Nat,p = J:=⟨_,rfl⟩
    obtain ⟨q,hs⟩ : ∃ q : Nat,q = 0:=⟨_,rfl⟩
    have hraw : rawPivot lt d a b = (p,q):=by simp only [rawPivot,if_neg h8,← hJ,hp,hs]
    rw [hraw]
    obtain ⟨Hc,hHc⟩ : ∃ Hc : Int,Hc = hintCode (hintOf q):=⟨_,rfl⟩
    have hh0 : q = 0 → Hc = 1:=fun h=>by rw [hHc,h];rfl
    have hh12 : q = 12 → Hc = 2:=fun h=>by rw [hHc,h];rfl
    have hhx : q ≠ 0 → q ≠ 12 → Hc = 0:=fun h1 h2=>by rw [hHc];unfold hintOf;rw [if_neg h1,if_neg h2];rfl
    show Calls _ _ _ w fun e w'=>e = .returned (.tuple #[.int .i64 (p : Int),.int .i64 (hintCode (hintOf q))]) ∧ s.At w0 d w'
    rw [← hHc]
    clear hHc hraw
    subst hp
    clear MA MD hI hJ hK hA hC0
    subst hs
    go_enter Tryz.func313,Tryz.ntmps313
    go_wp2
    all_goals
      go_ret2
      refine ⟨?_,by exact atP⟩
      first
        | rfl
        | (rw [hh0 (by trivial)];rfl)
theorem xorNextI {rb X : Nat} {w : World} (hB : Blk w rb [.int .u64 X] 357 (0,0)) (hX : X < 18446744073709551616) :
    Calls Tryz.prog 191 #[.pointer (some ⟨rb,0,none⟩)] w fun e w'=>e = .returned (.int .u64 (xorNextN X : Nat)) ∧ Blk w' rb [.int .u64 (xorNextN X : Nat)] 357 (0,0) ∧ Fr [rb] w w':=by
  obtain ⟨A,hA⟩ : ∃ A : Nat,A = X ^^^ (X * 8192 % 18446744073709551616):=⟨_,rfl⟩
  obtain ⟨B,hBB⟩ : ∃ B : Nat,B = A ^^^ (A / 128):=⟨_,rfl⟩
  obtain ⟨C,hC⟩ : ∃ C : Nat,C = B ^^^ (B * 131072 % 18446744073709551616):=⟨_,rfl⟩
  have lA : A < 18446744073709551616:=by rw [hA];exact Nat.xor_lt_two_pow (n:=64) (by omega) (by omega)
  have lB : B < 18446744073709551616:=by rw [hBB];exact Nat.xor_lt_two_pow (n:=64) (by omega) (by omega)
  have e1 : bits .xor .u64 (X : Int) (IntKind.u64.wrap ((X : Int) * 8192)) = (A : Int):=by
    rw [IntKind.wrap_u64,show ((X : Int) * 8192 % 18446744073709551616) = ((X * 8192 % 18446744073709551616 : Nat) : Int) by omega,bits_xor_u64_nat _ _ hX (by omega),hA]
  have e2 : bits .xor .u64 (A : Int) ((A : Int) / 128) = (B : Int):=by
    rw [show ((A : Int) / 128) = ((A / 128 : Nat) : Int) by omega,bits_xor_u64_nat _ _ lA (by omega),hBB]
  have e3 : bits .xor .u64 (B : Int) (IntKind.u64.wrap ((B : Int) * 131072)) = (C : Int):=by
    rw [IntKind.wrap_u64,show ((B : Int) * 131072 % 18446744073709551616) = ((B * 131072 % 18446744073709551616 : Nat) : Int) by omega,bits_xor_u64_nat _ _ lB (by omega),hC]
  have hv : xorNextN X = C:=by unfold xorNextN;simp only [];rw [← hA,← hBB,← hC]
  rw [hv]
  clear hA hBB hC hv
  have hc:=hB.cell 0
  have hf:=hB.free
  have hss : ∀ v v',(w.setCell ⟨rb,0,none⟩ v).setCell ⟨rb,0,none⟩ v' = w.setCell ⟨rb,0,none⟩ v':=setCell_setCell w rb 0
  go_enter Tryz.func191,Tryz.ntmps191
  go_wp2_with (first
    | (refine wre 1 oSortI40 ?_)
    | (refine wre 2 oSortI40 ?_)
    | (refine wre 3 oSortI40 ?_)
    | (with_reducible refine wEI ?_;(first|(refine wEN ?_;skip)|(refine wEF rfl (fun K hK=>?_);go_simp)|(refine wEL rfl rfl (fun K hK=>?_);go_simp)|(refine wER rfl (fun K hK=>?_);go_simp)|(refine wEM rfl (fun K hK=>?_);go_simp;try refine ⟨_,_,⟨rfl,rfl⟩,?_⟩)|(refine wEG rfl (fun K hK=>?_);go_simp)|(refine wEA rfl (fun K hK=>?_);go_simp))))
  go_ret
  refine ⟨rfl,?_,by exact frP⟩
  exact blkP
theorem nextPowI {m : Nat} (hm : m < 4611686018427387904) (w : World)
    (hLen : ∀ w,Calls Tryz.prog 143 #[.int .u64 (m : Int)] w fun e w'=>e = .returned (.int .i64 (bitsLen m : Nat)) ∧ w' = w) :
    Calls Tryz.prog 190 #[.int .i64 m] w fun e w'=>e = .returned (.int .u64 ((1 <<< bitsLen m : Nat) : Int)) ∧ w' = w:=by
  have hk : bitsLen m ≤ 62:=(bitsLen_le_iff m 62).2 (by omega)
  have hp:=wrap_two_pow (bitsLen m) hk
  have wr : IntKind.u64.wrap (m : Int) = m:=by simp [IntKind.wrap,IntKind.bits,IntKind.signed];omega
  go_enter Tryz.func190,Tryz.ntmps190
  go_wp2_with (first|(go_at_call 143;refine (hLen _).mono ?_;rintro e w' ⟨rfl,rfl⟩))
  go_ret
  exact ⟨rfl,rfl⟩
set_option maxRecDepth 1000000 in
set_option maxHeartbeats 12800000 in
theorem breakGoI {a L : Nat} {w0 w : World} {d : Array α} (D : IfS ra rm rc s lt n) (hA : s.At w0 d w) (hn : d.size = n) (hb : a + L ≤ n) (h8 : 8 ≤ L)
    (hLen : ∀ w,Calls Tryz.prog 143 #[.int .u64 (L : Int)] w fun e w'=>e = .returned (.int .i64 (bitsLen L : Nat)) ∧ w' = w) :
    Calls Tryz.prog 312 #[.iface 454 (.slice (some ra) rm rc),.int .i64 a,.int .i64 ((a + L : Nat) : Int)] w fun e w'=>e = .returned (.tuple #[]) ∧ s.At w0 (breakPatterns d a (a + L)) w':=by
  have big:=D.big
  rw [breakPatterns_eq d a L h8]
  obtain ⟨M,hM⟩ : ∃ M : Nat,M = 1 <<< bitsLen L:=⟨_,rfl⟩
  have hM1 : 1 ≤ M:=by rw [hM,Nat.one_shiftLeft];exact Nat.two_pow_pos _
  have hM2 : M ≤ 2 * L:=by rw [hM,Nat.one_shiftLeft];exact two_pow_bitsLen_le (by omega)
  have hNP : ∀ w,Calls Tryz.prog 190 #[.int .i64 (L : Int)] w fun e w'=>e = .returned (.int .u64 (M : Int)) ∧ w' = w:=by rw [hM];exact fun w=>nextPowI (by omega) w hLen
  rw [← hM]
  clear hM
  have hLz : ((a : Int) + (L : Int) - (a : Int)) = (L : Int):=by omega
  have h8z : (8 : Int) ≤ (L : Int):=by omega
  have wrL : IntKind.u64.wrap (L : Int) = L:=by simp [IntKind.wrap,IntKind.bits,IntKind.signed];omega
  go_enter Tryz.func312,Tryz.ntmps312
  go_wp2_with (first|(go_at_call 190;refine (hNP _).mono ?_;rintro e w' ⟨rfl,rfl⟩))
  have hRo : w.heap.size ∉ s.own ∧ w0.heap.size ≤ w.heap.size:=⟨fun hm=>Nat.lt_irrefl _ (s.lt hA.1 _ hm),hA.size⟩
  have hR0 : Blk (w.alloc (.cells #[.int .u64 (L : Int)] 357)) w.heap.size [.int .u64 (L : Int)] 357 (0,0):=Blk.new (cs:=[.int .u64 (L : Int)])
  have hA0:=hA.alloc (o:=.cells #[.int .u64 (L : Int)] 357)
  clear hA
  generalize w.alloc (.cells #[.int .u64 (L : Int)] 357) = w1 at *
  generalize w.heap.size = R at *
  go_loopg [9] 3 (fun g1 vi wr=>∃ (t : Nat) (r : UInt64) (dk : Array α),vi = .int .i64 ((a : Int) + (L : Int) / 4 * 2 - 1 + (t : Int)) ∧ t ≤ 3 ∧ 3 - t ≤ g1 ∧ dk.size = n ∧ s.At w0 dk wr ∧
      Blk wr R [.int .u64 (r.toNat : Int)] 357 (0,0) ∧
      Hid (bpRest a L M (a + L / 4 * 2 - 1) (3 - t) t (r,dk) = bpRest a L M (a + L / 4 * 2 - 1) 3 0 (UInt64.ofNat L,d)))
  case atStart =>
    refine ⟨0,UInt64.ofNat L,d,by simp,by omega,by omega,hn,by exact atP,?_,rfl⟩
    rw [show (UInt64.ofNat L).toNat = L from by simp;omega]
    exact hR0
  case round =>
    clear hA0 hR0
    obtain ⟨t,r,dk,rfl,ht,hg1,hds,hA1,hR1,HR⟩:=hrel
    by_cases ht3 : t < 3
    · have hle : (a : Int) + (L : Int) / 4 * 2 - 1 + (t : Int) ≤ (a : Int) + (L : Int) / 4 * 2 + 1:=by omega
      obtain ⟨Q,hRr⟩ : ∃ Q : Nat,Q = r.toNat:=⟨_,rfl⟩
      have lR : Q < 18446744073709551616:=by rw [hRr];exact r.toNat_lt
      obtain ⟨Q',hR'⟩ : ∃ Q' : Nat,Q' = xorNextN Q:=⟨_,rfl⟩
      have lR' : Q' < 18446744073709551616:=by rw [hR'];exact xorNextN_lt Q lR
      obtain ⟨O,hO⟩ : ∃ O : Nat,O = Q' &&& (M - 1):=⟨_,rfl⟩
      have lO : O ≤ M - 1:=by rw [hO];exact Nat.and_le_right
      have eAnd : bits .and .u64 (Q' : Int) ((M : Int) - 1) = (O : Int):=by
        rw [show ((M : Int) - 1) = ((M - 1 : Nat) : Int) by omega,bits_and_u64_nat _ _ lR' (by omega),hO]
      rw [← hRr] at hR1
      have hNext:=xorNextI hR1 lR
      rw [← hR'] at hNext
      have HN : Hid (Q' = (xorNext r).toNat ∧ O = (xorNext r).toNat &&& (M - 1)):=by
        have e : Q' = (xorNext r).toNat:=by rw [hR',hRr,xorNext_toNat]
        exact ⟨e,by rw [hO,e]⟩
      clear hRr hR' hO hR1
      by_cases hLO : L ≤ O
      · have hLOz : (L : Int) ≤ (O : Int):=by omega
        have hs:=D.swapAt w0 (a + L / 4 * 2 - 1 + t) (a + (O - L)) (x:=(a : Int) + (L : Int) / 4 * 2 - 1 + (t : Int)) (y:=(a : Int) + ((O : Int) - (L : Int))) hds (by omega) (by omega) (by omega) (by omega)
        go_wp2_with (first
          | (go_at_call 191;refine hNext.mono ?_;rintro e w2 ⟨rfl,hR2,hF2⟩;have hA2:=hA1.fr hF2 (by simp;exact hRo))
          | (go_at_call 430;(with_reducible refine (hs _ (by exact atP)).mono ?_);rintro e w3 ⟨rfl,hA3,hF3⟩;have hR3:=hF3.blk (w:=_) (by exact blkP : Blk _ R [.int .u64 Q'] 357 (0,0)) hRo.1))
        go_roundg (3 - (t + 1))
        case measure=>omega
        case rel=>exact ⟨t + 1,xorNext r,swp dk (a + L / 4 * 2 - 1 + t) (a + (O - L)),by congr 1;push_cast;omega,by omega,Nat.le_refl _,by rw [size_swp];exact hds,by exact atP,by rw [← HN.out.1];exact blkP,
          (show Hid _ from by rw [← HR.out,bp_step a L M _ t r dk ((O - L)) ht3 (by rw [← HN.out.2,if_pos (by omega)])];exact rfl)⟩
      · have hLOz : ¬ (L : Int) ≤ (O : Int):=by omega
        have hs:=D.swapAt w0 (a + L / 4 * 2 - 1 + t) (a + O) (x:=(a : Int) + (L : Int) / 4 * 2 - 1 + (t : Int)) (y:=(a : Int) + (O : Int)) hds (by omega) (by omega) (by omega) (by omega)
        go_wp2_with (first
          | (go_at_call 191;refine hNext.mono ?_;rintro e w2 ⟨rfl,hR2,hF2⟩;have hA2:=hA1.fr hF2 (by simp;exact hRo))
          | (go_at_call 430;(with_reducible refine (hs _ (by exact atP)).mono ?_);rintro e w3 ⟨rfl,hA3,hF3⟩;have hR3:=hF3.blk (w:=_) (by exact blkP : Blk _ R [.int .u64 Q'] 357 (0,0)) hRo.1))
        go_roundg (3 - (t + 1))
        case measure=>omega
        case rel=>exact ⟨t + 1,xorNext r,swp dk (a + L / 4 * 2 - 1 + t) (a + O),by congr 1;push_cast;omega,by omega,Nat.le_refl _,by rw [size_swp];exact hds,by exact atP,by rw [← HN.out.1];exact blkP,
          (show Hid _ from by rw [← HR.out,bp_step a L M _ t r dk (O) ht3 (by rw [← HN.out.2,if_neg (by omega)])];exact rfl)⟩
    · obtain rfl : t = 3:=by omega
      have hle : ¬ ((a : Int) + (L : Int) / 4 * 2 - 1 + ((3 : Nat) : Int) ≤ (a : Int) + (L : Int) / 4 * 2 + 1):=by omega
      go_wp2
      go_end0
      refine ⟨rfl,?_⟩
      rw [← HR.out]
      exact (by exact atP : s.At w0 dk _)
theorem breakI {a b : Nat} {w0 w : World} {d : Array α} (D : IfS ra rm rc s lt n) (hA : s.At w0 d w) (hn : d.size = n) (hab : a ≤ b) (hb : b ≤ n)
    (hLen : ∀ L w,L < 4611686018427387904 → Calls Tryz.prog 143 #[.int .u64 (L : Nat)] w fun e w'=>e = .returned (.int .i64 (bitsLen L : Nat)) ∧ w' = w) :
    Calls Tryz.prog 312 #[.iface 454 (.slice (some ra) rm rc),.int .i64 a,.int .i64 b] w fun e w'=>e = .returned (.tuple #[]) ∧ s.At w0 (breakPatterns d a b) w':=by
  have big:=D.big
  obtain ⟨L,rfl⟩ : ∃ L,b = a + L:=⟨b - a,by omega⟩
  by_cases h8 : 8 ≤ L
  · exact breakGoI D hA hn hb h8 fun w=>hLen L w (by omega)
  · have hv : breakPatterns d a (a + L) = d:=by unfold breakPatterns;simp only [Nat.add_sub_cancel_left];rw [if_neg h8]
    rw [hv]
    have hLz : ((a : Int) + (L : Int) - (a : Int)) = (L : Int):=by omega
    have h8z : ¬ (8 : Int) ≤ (L : Int):=by omega
    clear hv
    go_enter Tryz.func312,Tryz.ntmps312
    go_wp2
    go_end0
    exact ⟨rfl,by exact atP⟩
end Go.Proofs.Wx

namespace Go.Proofs.Wx
open Go Go.RowKit Go.Sort
variable {α : Type} [Inhabited α] {s : St α} {ra : Addr} {rm rc n : Nat} {lt : α → α → Bool}
/-- math/bits.Len, as the sorts call it. -/
def LenC : Prop:=∀ (L : Nat) (w : World),L < 4611686018427387904 → Calls Tryz.prog 143 #[.int .u64 (L : Nat)] w fun e w'=>e = .returned (.int .i64 (bitsLen L : Nat)) ∧ w' = w
set_option maxHeartbeats 12800000 in
set_option maxRecDepth 1000000 in
theorem pdqI (D : IfS ra rm rc s lt n) (hO : SWO lt) (hLen : LenC) {w0 : World} : ∀ (N a b limit : Nat) (d : Array α) (w : World),b - a < N → s.At w0 d w → d.size = n → a ≤ b → b ≤ n → limit < 4611686018427387904 → Below lt a b d →
    Calls Tryz.prog 305 #[.iface 454 (.slice (some ra) rm rc),.int .i64 a,.int .i64 b,.int .i64 limit] w fun e w'=>e = .returned (.tuple #[]) ∧ s.At w0 (pdq lt d a b limit true true) w':=by
  have big:=D.big
  intro N
  induction N with
  | zero=>intro _ _ _ _ _ h;exact absurd h (Nat.not_lt_zero _)
  | succ N ih =>
    intro a b limit d w hN hA hn hab hb hlimit hBel0
    go_enter Tryz.func305,Tryz.ntmps305
    go_wp2
    go_loopg [1,2,3,8,9] (b - a) (fun k s1 s2 s3 s8 s9 wr=>∃ (a' b' lim : Nat) (wb wp : Bool) (dk : Array α),s1 = .int .i64 a' ∧ s2 = .int .i64 b' ∧ s3 = .int .i64 lim ∧ s8 = .bool wb ∧ s9 = .bool wp ∧
      a' ≤ b' ∧ b' ≤ n ∧ b' - a' ≤ k ∧ k ≤ b - a ∧ lim ≤ limit ∧ dk.size = n ∧ Below lt a' b' dk ∧ s.At w0 dk wr ∧ Hid (pdq lt dk a' b' lim wb wp = pdq lt d a b limit true true))
    case atStart=>exact ⟨a,b,limit,true,true,d,rfl,rfl,rfl,rfl,rfl,hab,hb,Nat.le_refl _,Nat.le_refl _,Nat.le_refl _,hn,hBel0,hA,rfl⟩
    case round =>
      clear hA
      obtain ⟨a',b',lim,wb,wp,dk,rfl,rfl,rfl,rfl,rfl,hab',hb',hk,hkN,hlim,hds,hBel,hAt,A⟩:=hrel
      by_cases h12 : b' - a' ≤ 12
      · have h12z : (b' : Int) - (a' : Int) ≤ 12:=by omega
        have hc:=insSortI D hAt hds hab' hb'
        go_wp2_with (first|(go_at_call 310;refine hc.mono ?_;rintro e w1 ⟨rfl,hA1⟩))
        (try simp only [Exit.inBlock,Exit.then]);refine bodyPost_ret (results_none rfl _ _ _) rfl ?_
        refine ⟨rfl,?_⟩
        rw [← A.out,pdq_small h12]
        exact (by exact atP : s.At w0 _ _)
      · have h12z : ¬ ((b' : Int) - (a' : Int) ≤ 12):=by omega
        by_cases hl0 : lim = 0
        · subst hl0
          have hc:=heapSortI D hAt hds hab' hb'
          go_wp2_with (first|(go_at_call 311;refine hc.mono ?_;rintro e w1 ⟨rfl,hA1⟩))
          (try simp only [Exit.inBlock,Exit.then]);refine bodyPost_ret (results_none rfl _ _ _) rfl ?_
          refine ⟨rfl,?_⟩
          rw [← A.out,pdq_heap h12 rfl]
          exact (by exact atP : s.At w0 _ _)
        · have hl0z : ¬ ((lim : Int) = 0):=by omega
          obtain ⟨s1,B1,hc1,s2,B2,hpv,s3,B3⟩:=rd_facts (lt:=lt) (limit:=lim) (wb:=wb) (wp:=wp) hO partialInsertionSort_holds reverseRange_holds (show a' < b' by omega) (show b' ≤ dk.size by omega) hBel
          go_upto_if 35 with fail
          go_cut [3] from 19 (fun s3 wc=>s3 = .int .i64 (rd lt dk a' b' lim wb wp).lim ∧ s.At w0 (rd lt dk a' b' lim wb wp).d1 wc)
          case first =>
            cases wb
            · have hc:=breakI D hAt hds hab' hb' hLen
              go_wp2_with (first|(go_at_call 312;refine hc.mono ?_;rintro e w1 ⟨rfl,hA1⟩))
              go_meet
              case rel =>
                refine ⟨?_,hA1⟩
                show Value.int .i64 ((lim : Int) - 1) = Value.int .i64 ((lim - 1 : Nat) : Int)
                congr 1
                omega
            · go_wp2_with fail
              go_meet
              case rel=>exact ⟨rfl,hAt⟩
          case rest =>
            obtain ⟨rfl,hAt1⟩:=hcut
            have hc17:=pivotI (a:=a') (b:=b') D hAt1 (s1.trans hds) (by omega) hb'
            have hc17' : Calls Tryz.prog 313 #[.iface 454 (.slice (some ra) rm rc),.int .i64 a',.int .i64 b'] wc fun e w'=>e = .returned (.tuple #[.int .i64 (rd lt dk a' b' lim wb wp).c.1,.int .i64 (hintCode (rd lt dk a' b' lim wb wp).c.2)]) ∧ s.At w0 (rd lt dk a' b' lim wb wp).d1 w':=hc17
            clear hc17
            go_upto_if 50 with (first|(go_at_call 313;refine hc17'.mono ?_;rintro e w2 ⟨rfl,hAt2⟩))
            clear hAt1 hAt
            go_cut [11,12] from 19 (fun s11 s12 wc=>s11 = .int .i64 (rd lt dk a' b' lim wb wp).pivot ∧ s12 = .int .i64 (hintCode (rd lt dk a' b' lim wb wp).hint) ∧ s.At w0 (rd lt dk a' b' lim wb wp).d2 wc)
            case first =>
              by_cases hh : (rd lt dk a' b' lim wb wp).c.2 = .decreasing
              · have hcode : hintCode (rd lt dk a' b' lim wb wp).c.2 = 2:=by rw [hh];rfl
                obtain ⟨e2,epv,eht⟩:=rd_dec hh
                have hc18:=reverseI D hAt2 (s1.trans hds) hab' hb'
                go_wp2_with (first|(go_at_call 314;refine hc18.mono ?_;rintro e w3 ⟨rfl,hAt3⟩))
                go_meet
                case rel =>
                  refine ⟨?_,by rw [eht];rfl,by rw [e2];exact hAt3⟩
                  rw [epv]
                  congr 1
                  omega
              · have hcode : ¬ (hintCode (rd lt dk a' b' lim wb wp).c.2 = 2):=fun h=>hh (hintCode_two h)
                obtain ⟨e2,epv,eht⟩:=rd_not hh
                go_wp2_with fail
                go_meet
                case rel=>exact ⟨by rw [epv],by rw [eht],by rw [e2];exact hAt2⟩
            case rest =>
              clear hAt2
              obtain ⟨rfl,rfl,hAt3⟩:=hcut
              go_upto_region 15 with fail
              go_cut [12,68] from 19 (fun s12 s68 wx=>s12 = .int .i64 (hintCode (rd lt dk a' b' lim wb wp).hint) ∧ s68 = .bool (wb && wp && decide ((rd lt dk a' b' lim wb wp).hint = .increasing)) ∧ wx = wc)
              case first =>
                cases wb <;> cases wp <;> cases hh3 : (rd lt dk a' b' lim _ _).hint <;>
                  (have hcode3:=congrArg hintCode hh3
                   simp only [hintCode] at hcode3
                   go_wp2_with fail
                   go_meet
                   exact ⟨by simp [hh3,hintCode],by simp [hh3,hintCode],rfl⟩)
              case rest =>
                obtain ⟨rfl,rfl,rfl⟩:=hcut
                go_upto_if 68 with fail
                go_cut [] from 19 (fun wx=>(rd lt dk a' b' lim wb wp).pi.2 = false ∧ s.At w0 (rd lt dk a' b' lim wb wp).pi.1 wx)
                case first =>
                  cases h68 : (wb && wp && decide ((rd lt dk a' b' lim wb wp).hint = .increasing))
                  · have epi:=rd_pi_no h68
                    go_wp2_with fail
                    go_meet
                    case rel=>exact ⟨by rw [epi],by rw [epi];exact hAt3⟩
                  · have epi:=rd_pi_yes h68
                    have hc19:=partInsI D hAt3 (s2.trans hds) (a:=a') (b:=b') (by omega) hb'
                    rw [← epi] at hc19
                    go_wp2_with (first|(go_at_call 315;refine hc19.mono ?_;rintro e w4 ⟨rfl,hA4⟩))
                    all_goals first
                      | (have hp2 : (rd lt dk a' b' lim wb wp).pi.2 = false:=by rw [epi];assumption
                         go_meet
                         exact ⟨hp2,hA4⟩)
                      | (have hp2 : (rd lt dk a' b' lim wb wp).pi.2 = true:=by rw [epi];assumption
                         (try simp only [Exit.inBlock,Exit.then]);refine bodyPost_ret (results_none rfl _ _ _) rfl ?_
                         refine ⟨rfl,?_⟩
                         rw [← A.out,pdq_done h12 hl0 hp2]
                         exact hA4)
                case rest =>
                  clear hAt3
                  obtain ⟨hp2,hAt5⟩:=hcut
                  go_upto_region 17 with fail
                  go_cut [82] from 19 (fun s82 wx=>s82 = .bool (decide (a' > 0) && !lt (rd lt dk a' b' lim wb wp).pi.1[a' - 1]! (rd lt dk a' b' lim wb wp).pi.1[(rd lt dk a' b' lim wb wp).pivot]!) ∧ s.At w0 (rd lt dk a' b' lim wb wp).pi.1 wx)
                  case first =>
                    rcases Nat.eq_zero_or_pos a' with ha0|ha0
                    · have ha0z : decide ((a' : Int) > 0) = false:=decide_eq_false (by omega)
                      go_wp2_with fail
                      go_meet
                      case rel=>exact ⟨by simp [ha0],by exact atP⟩
                    · have ha0z : (a' : Int) > 0:=by omega
                      cases hlv : lt (rd lt dk a' b' lim wb wp).pi.1[a' - 1]! (rd lt dk a' b' lim wb wp).pi.1[(rd lt dk a' b' lim wb wp).pivot]! <;>
                        (have hl:=D.lessAt w0 (a' - 1) (rd lt dk a' b' lim wb wp).pivot (x:=(a' : Int) - 1) (y:=(rd lt dk a' b' lim wb wp).pivot) (s3.trans hds) (by omega) (by omega) hlv (by omega) rfl
                         go_wp2_with (first|(go_at_call 429;(with_reducible refine (hl _ (by exact atP)).mono ?_);rintro e w9 ⟨rfl,hA9,hF9⟩))
                         go_meet
                         exact ⟨by simp [ha0,hlv],by exact atP⟩)
                  case rest =>
                    clear hAt5
                    obtain ⟨rfl,hAt6⟩:=hcut
                    cases h87 : (decide (a' > 0) && !lt (rd lt dk a' b' lim wb wp).pi.1[a' - 1]! (rd lt dk a' b' lim wb wp).pi.1[(rd lt dk a' b' lim wb wp).pivot]!)
                    · obtain ⟨mid,ap,d4,hx⟩ : ∃ mid ap d4,partition lt (rd lt dk a' b' lim wb wp).pi.1 a' b' (rd lt dk a' b' lim wb wp).pivot = (mid,ap,d4):=⟨(partition lt (rd lt dk a' b' lim wb wp).pi.1 a' b' (rd lt dk a' b' lim wb wp).pivot).1,(partition lt (rd lt dk a' b' lim wb wp).pi.1 a' b' (rd lt dk a' b' lim wb wp).pivot).2.1,(partition lt (rd lt dk a' b' lim wb wp).pi.1 a' b' (rd lt dk a' b' lim wb wp).pivot).2.2,rfl⟩
                      obtain ⟨r1,r2,r3,r4,r5,r6,r7⟩:=round_part hO (partition_holds lt) hpv.1 hpv.2 (show b' ≤ (rd lt dk a' b' lim wb wp).pi.1.size by omega) B3 hx
                      have hc22:=partI D hAt6 (s3.trans hds) hpv.1 hpv.2 hb'
                      rw [hx] at hc22
                      have X : Aside (partition lt (rd lt dk a' b' lim wb wp).pi.1 a' b' (rd lt dk a' b' lim wb wp).pivot = (mid,ap,d4)):=hx
                      clear hx
                      go_upto_if 108 with (first|(go_at_call 317;refine hc22.mono ?_;rintro e w7 ⟨rfl,hAt7⟩))
                      have hx:=X.out
                      have hs4 : d4.size = n:=r3.trans (s3.trans hds)
                      clear hAt6
                      by_cases h4 : mid - a' < b' - mid
                      · have h4z : (mid : Int) - (a' : Int) < (b' : Int) - (mid : Int):=by omega
                        have hih:=ih a' mid (rd lt dk a' b' lim wb wp).lim d4 w7 (by omega) hAt7 hs4 (by omega) (by omega) (Nat.lt_of_le_of_lt (Nat.le_trans rd_lim_le hlim) hlimit) r4
                        obtain ⟨pL,sL⟩:=pdq_sorts lt hO d4 a' mid (rd lt dk a' b' lim wb wp).lim true true (by omega) (by omega) r4
                        go_wp2_with (first|(go_at_call 305;refine hih.mono ?_;rintro e w8 ⟨rfl,hAt8⟩))
                        go_roundg (b' - (mid + 1))
                        case measure=>omega
                        case rel =>
                          refine ⟨mid + 1,b',(rd lt dk a' b' lim wb wp).lim,decide (mid - a' ≥ (b' - a') / 8),ap,pdq lt d4 a' mid (rd lt dk a' b' lim wb wp).lim true true,by simp,rfl,rfl,?_,rfl,by omega,by omega,Nat.le_refl _,by omega,Nat.le_trans rd_lim_le hlim,by rw [pL.1,hs4],(r6 _ pL sL).1,hAt8,?_⟩
                          · exact congrArg Value.bool (eighth (by omega) (by omega))
                          · show _ = _
                            rw [← A.out,pdq_left h12 hl0 hp2 h87 (by rw [hx];exact ⟨r1,r2⟩) (by rw [hx];exact h4),hx]
                      · have h4z : ¬ ((mid : Int) - (a' : Int) < (b' : Int) - (mid : Int)):=by omega
                        have hih:=ih (mid + 1) b' (rd lt dk a' b' lim wb wp).lim d4 w7 (by omega) hAt7 hs4 (by omega) (by omega) (Nat.lt_of_le_of_lt (Nat.le_trans rd_lim_le hlim) hlimit) r5
                        rw [show ((mid + 1 : Nat) : Int) = (mid : Int) + 1 by omega] at hih
                        obtain ⟨pL,sL⟩:=pdq_sorts lt hO d4 (mid + 1) b' (rd lt dk a' b' lim wb wp).lim true true (by omega) (by omega) r5
                        go_wp2_with (first|(go_at_call 305;refine hih.mono ?_;rintro e w8 ⟨rfl,hAt8⟩))
                        go_roundg (mid - a')
                        case measure=>omega
                        case rel =>
                          refine ⟨a',mid,(rd lt dk a' b' lim wb wp).lim,decide (b' - mid ≥ (b' - a') / 8),ap,pdq lt d4 (mid + 1) b' (rd lt dk a' b' lim wb wp).lim true true,rfl,rfl,rfl,?_,rfl,by omega,by omega,Nat.le_refl _,by omega,Nat.le_trans rd_lim_le hlim,by rw [pL.1,hs4],(r7 _ pL sL).1,hAt8,?_⟩
                          · exact congrArg Value.bool (eighth (by omega) (by omega))
                          · show _ = _
                            rw [← A.out,pdq_right h12 hl0 hp2 h87 (by rw [hx];exact ⟨r1,r2⟩) (by rw [hx];exact h4),hx]
                    · have h87':=h87
                      simp only [Bool.and_eq_true,decide_eq_true_eq,Bool.not_eq_true'] at h87'
                      obtain ⟨mid,d4,hx⟩ : ∃ mid d4,partitionEqual lt (rd lt dk a' b' lim wb wp).pi.1 a' b' (rd lt dk a' b' lim wb wp).pivot = (mid,d4):=⟨(partitionEqual lt (rd lt dk a' b' lim wb wp).pi.1 a' b' (rd lt dk a' b' lim wb wp).pivot).1,(partitionEqual lt (rd lt dk a' b' lim wb wp).pi.1 a' b' (rd lt dk a' b' lim wb wp).pivot).2,rfl⟩
                      obtain ⟨r1,r2,r3,r4,_⟩:=round_eq hO (partitionEqual_holds lt) h87'.1 hpv.1 hpv.2 (show b' ≤ (rd lt dk a' b' lim wb wp).pi.1.size by omega) B3 h87'.2 hx
                      have hc21:=partEqI D hAt6 (s3.trans hds) hpv.1 hpv.2 hb'
                      rw [hx] at hc21
                      have X : Aside (partitionEqual lt (rd lt dk a' b' lim wb wp).pi.1 a' b' (rd lt dk a' b' lim wb wp).pivot = (mid,d4)):=hx
                      clear hx
                      go_wp2_with (first|(go_at_call 316;refine hc21.mono ?_;rintro e w7 ⟨rfl,hAt7⟩))
                      go_roundg (b' - mid)
                      case measure=>omega
                      case rel =>
                        have hx:=X.out
                        exact ⟨mid,b',(rd lt dk a' b' lim wb wp).lim,wb,wp,d4,rfl,rfl,rfl,rfl,rfl,r2,hb',Nat.le_refl _,by omega,Nat.le_trans rd_lim_le hlim,by rw [r3,s3,hds],r4,hAt7,(show Hid _ from by rw [← A.out,pdq_eq h12 hl0 hp2 h87 (by rw [hx];exact ⟨r1,r2⟩),hx];exact rfl)⟩
end Go.Proofs.Wx

namespace Go.Proofs.Wx
open Go Go.RowKit Go.Sort
abbrev oSortX0 : List (Nat × Cls):=[(0,.free),(1,.free),(2,.look),(3,.free),(4,.free),(5,.look),(6,.free),(7,.free),(8,.free),(9,.act)]
theorem xorNextS {rb X : Nat} {w : World} (hB : Blk w rb [.int .u64 X] 397 (0,0)) (hX : X < 18446744073709551616) :
    Calls Tryz.prog 219 #[.pointer (some ⟨rb,0,none⟩)] w fun e w'=>e = .returned (.int .u64 (xorNextN X : Nat)) ∧ Blk w' rb [.int .u64 (xorNextN X : Nat)] 397 (0,0) ∧ Fr [rb] w w':=by
  obtain ⟨A,hA⟩ : ∃ A : Nat,A = X ^^^ (X * 8192 % 18446744073709551616):=⟨_,rfl⟩
  obtain ⟨B,hBB⟩ : ∃ B : Nat,B = A ^^^ (A / 128):=⟨_,rfl⟩
  obtain ⟨C,hC⟩ : ∃ C : Nat,C = B ^^^ (B * 131072 % 18446744073709551616):=⟨_,rfl⟩
  have lA : A < 18446744073709551616:=by rw [hA];exact Nat.xor_lt_two_pow (n:=64) (by omega) (by omega)
  have lB : B < 18446744073709551616:=by rw [hBB];exact Nat.xor_lt_two_pow (n:=64) (by omega) (by omega)
  have e1 : bits .xor .u64 (X : Int) (IntKind.u64.wrap ((X : Int) * 8192)) = (A : Int):=by
    rw [IntKind.wrap_u64,show ((X : Int) * 8192 % 18446744073709551616) = ((X * 8192 % 18446744073709551616 : Nat) : Int) by omega,bits_xor_u64_nat _ _ hX (by omega),hA]
  have e2 : bits .xor .u64 (A : Int) ((A : Int) / 128) = (B : Int):=by
    rw [show ((A : Int) / 128) = ((A / 128 : Nat) : Int) by omega,bits_xor_u64_nat _ _ lA (by omega),hBB]
  have e3 : bits .xor .u64 (B : Int) (IntKind.u64.wrap ((B : Int) * 131072)) = (C : Int):=by
    rw [IntKind.wrap_u64,show ((B : Int) * 131072 % 18446744073709551616) = ((B * 131072 % 18446744073709551616 : Nat) : Int) by omega,bits_xor_u64_nat _ _ lB (by omega),hC]
  have hv : xorNextN X = C:=by unfold xorNextN;simp only [];rw [← hA,← hBB,← hC]
  rw [hv]
  clear hA hBB hC hv
  have hc:=hB.cell 0
  have hf:=hB.free
  have hss : ∀ v v',(w.setCell ⟨rb,0,none⟩ v).setCell ⟨rb,0,none⟩ v' = w.setCell ⟨rb,0,none⟩ v':=setCell_setCell w rb 0
  go_enter Tryz.func219,Tryz.ntmps219
  go_wp2_with (first
    | (refine wre 1 oSortX0 ?_)
    | (refine wre 2 oSortX0 ?_)
    | (refine wre 3 oSortX0 ?_)
    | (with_reducible refine wEI ?_;(first|(refine wEN ?_;skip)|(refine wEF rfl (fun K hK=>?_);go_simp)|(refine wEL rfl rfl (fun K hK=>?_);go_simp)|(refine wER rfl (fun K hK=>?_);go_simp)|(refine wEM rfl (fun K hK=>?_);go_simp;try refine ⟨_,_,⟨rfl,rfl⟩,?_⟩)|(refine wEG rfl (fun K hK=>?_);go_simp)|(refine wEA rfl (fun K hK=>?_);go_simp))))
  go_ret
  refine ⟨rfl,?_,by exact frP⟩
  exact blkP
theorem nextPowS {m : Nat} (hm : m < 4611686018427387904) (w : World)
    (hLen : ∀ w,Calls Tryz.prog 143 #[.int .u64 (m : Int)] w fun e w'=>e = .returned (.int .i64 (bitsLen m : Nat)) ∧ w' = w) :
    Calls Tryz.prog 218 #[.int .i64 m] w fun e w'=>e = .returned (.int .u64 ((1 <<< bitsLen m : Nat) : Int)) ∧ w' = w:=by
  have hk : bitsLen m ≤ 62:=(bitsLen_le_iff m 62).2 (by omega)
  have hp:=wrap_two_pow (bitsLen m) hk
  have wr : IntKind.u64.wrap (m : Int) = m:=by simp [IntKind.wrap,IntKind.bits,IntKind.signed];omega
  go_enter Tryz.func218,Tryz.ntmps218
  go_wp2_with (first|(go_at_call 143;refine (hLen _).mono ?_;rintro e w' ⟨rfl,rfl⟩))
  go_ret
  exact ⟨rfl,rfl⟩
end Go.Proofs.Wx
