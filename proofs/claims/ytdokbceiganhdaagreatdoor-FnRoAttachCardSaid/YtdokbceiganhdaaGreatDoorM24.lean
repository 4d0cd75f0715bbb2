import Derived.Test.YtdokbceiganhdaaGreatDoorM16
import Derived.Test.YtdokbceiganhdaaGreatDoorM18
import Derived.Test.YtdokbceiganhdaaGreatDoorM19
import Derived.Test.YtdokbceiganhdaaGreatDoorM23
set_option maxRecDepth 100000
set_option maxHeartbeats 1000000
set_option linter.unusedVariables false
set_option linter.unusedSimpArgs false
set_option linter.deprecated false
set_option linter.all false
set_option linter.unusedSectionVars false
namespace Go.Proofs.Wx.U64
open Go Go.RowKit Go.Sort
abbrev oSortU64e0 : List (Nat × Cls):=[(0,.free),(1,.free),(2,.free),(3,.look),(4,.free),(5,.free),(6,.free),(7,.look),(8,.act)]
abbrev oSortU64e1 : List (Nat × Cls):=[(0,.free),(1,.free),(2,.free),(3,.free),(4,.free),(5,.free),(6,.free),(7,.free),(8,.free),(9,.free),(10,.free),(11,.look),(12,.free),(13,.free),(14,.free),(15,.look),(16,.free),(17,.act),(18,.free),(19,.act)]
variable {g n c : Nat} {rest : List Value}
theorem order2 {a b cb k : Nat} {w0 w : World} {d : Array Int} (hA : (row g rest).At w0 d w) (hn : d.size = n) (ha : a < n) (hb : b < n) (hC : Cnt (row g rest) w0 w cb k) (hc : k < 4611686018427387904) (big : n < 400000) :
    Calls Tryz.prog 346 #[.slice (some ⟨g,0,none⟩) n c,.int .i64 a,.int .i64 b,.pointer (some ⟨cb,0,none⟩)] w fun e w'=>e = .returned (.tuple #[.int .i64 (Sort.order2 ltInt d a b k).1,.int .i64 (Sort.order2 ltInt d a b k).2.1]) ∧ (row g rest).At w0 d w' ∧ Cnt (row g rest) w0 w' cb (Sort.order2 ltInt d a b k).2.2:=by
  obtain ⟨hC1,hC2,hC3⟩:=hC
  have hC9:=hC1.cell 0
  have cf9:=hC1.free
  obtain ⟨xa,cxa,hxa⟩:=row_at hA hn ha
  obtain ⟨xb,cxb,hxb⟩:=row_at hA hn hb
  by_cases hlv : xb < xa
  · have e2 : Sort.order2 ltInt d a b k = (b,a,k + 1):=by simp [Sort.order2,ltT hxb hxa hlv]
    rw [e2]
    go_enter Tryz.func346,Tryz.ntmps346
    go_wp2_with (first
      | go_at_call 324;(with_reducible refine (lessU _ _ _).mono ?_);rintro e w9 ⟨rfl,rfl⟩
      | (refine wre 1 oSortU64e0 ?_)
      | (with_reducible refine wEI ?_;(first|(refine wEN ?_;skip)|(refine wEF rfl (fun K hK=>?_);go_simp)|(refine wEL rfl rfl (fun K hK=>?_);go_simp)|(refine wER rfl (fun K hK=>?_);go_simp)|(refine wEM rfl (fun K hK=>?_);go_simp;try refine ⟨_,_,⟨rfl,rfl⟩,?_⟩)|(refine wEG rfl (fun K hK=>?_);go_simp)|(refine wEA rfl (fun K hK=>?_);go_simp))))
    go_ret2
    refine ⟨rfl,hA.fr (X:=[cb]) (by exact frP) (by simp;exact ⟨hC2,hC3⟩),?_,hC2,hC3⟩
    exact blkP
  · have e2 : Sort.order2 ltInt d a b k = (a,b,k):=by simp [Sort.order2,ltF hxb hxa hlv]
    have dg:=decide_eq_false hlv
    rw [e2]
    go_enter Tryz.func346,Tryz.ntmps346
    go_wp2_with (first
      | go_at_call 324;(with_reducible refine (lessU _ _ _).mono ?_);rintro e w9 ⟨rfl,rfl⟩
      | (refine wre 1 oSortU64e0 ?_)
      | (with_reducible refine wEI ?_;(first|(refine wEN ?_;skip)|(refine wEF rfl (fun K hK=>?_);go_simp)|(refine wEL rfl rfl (fun K hK=>?_);go_simp)|(refine wER rfl (fun K hK=>?_);go_simp)|(refine wEM rfl (fun K hK=>?_);go_simp;try refine ⟨_,_,⟨rfl,rfl⟩,?_⟩)|(refine wEG rfl (fun K hK=>?_);go_simp)|(refine wEA rfl (fun K hK=>?_);go_simp))))
    go_ret2
    refine ⟨rfl,by exact atP,?_,hC2,hC3⟩
    exact blkP
theorem median {a b m cb k : Nat} {w0 w : World} {d : Array Int} (hA : (row g rest).At w0 d w) (hn : d.size = n) (ha : a < n) (hb : b < n) (hm : m < n) (hC : Cnt (row g rest) w0 w cb k) (hc : k < 1000) (big : n < 400000) :
    Calls Tryz.prog 334 #[.slice (some ⟨g,0,none⟩) n c,.int .i64 a,.int .i64 b,.int .i64 m,.pointer (some ⟨cb,0,none⟩)] w fun e w'=>e = .returned (.int .i64 (Sort.median ltInt d a b m k).1) ∧ (row g rest).At w0 d w' ∧ Cnt (row g rest) w0 w' cb (Sort.median ltInt d a b m k).2:=by
  have l1:=order2_lt2 ltInt d k ha hb
  have s1:=order2_sw ltInt d a b k
  have l2:=order2_lt2 ltInt d (Sort.order2 ltInt d a b k).2.2 l1.2 hm
  have s2:=order2_sw ltInt d (Sort.order2 ltInt d a b k).2.1 m (Sort.order2 ltInt d a b k).2.2
  have h1:=order2 (c:=c) hA hn ha hb hC (by omega) big
  have h2:=fun (w' : World) (hA : (row g rest).At w0 d w') (hC : Cnt (row g rest) w0 w' cb _)=>order2 (w:=w') (c:=c) hA hn l1.2 hm hC (k:=(Sort.order2 ltInt d a b k).2.2) (by omega) big
  have h3:=fun (w' : World) (hA : (row g rest).At w0 d w') (hC : Cnt (row g rest) w0 w' cb _)=>order2 (w:=w') (c:=c) hA hn l1.1 l2.1 hC (k:=(Sort.order2 ltInt d (Sort.order2 ltInt d a b k).2.1 m (Sort.order2 ltInt d a b k).2.2).2.2) (by omega) big
  clear l1 s1 l2 s2
  show Calls _ _ _ _ fun e w'=>e = .returned (.int .i64 ((Sort.order2 ltInt d (Sort.order2 ltInt d a b k).1 (Sort.order2 ltInt d (Sort.order2 ltInt d a b k).2.1 m (Sort.order2 ltInt d a b k).2.2).1 (Sort.order2 ltInt d (Sort.order2 ltInt d a b k).2.1 m (Sort.order2 ltInt d a b k).2.2).2.2).2.1 : Nat)) ∧ (row g rest).At w0 d w' ∧ Cnt (row g rest) w0 w' cb (Sort.order2 ltInt d (Sort.order2 ltInt d a b k).1 (Sort.order2 ltInt d (Sort.order2 ltInt d a b k).2.1 m (Sort.order2 ltInt d a b k).2.2).1 (Sort.order2 ltInt d (Sort.order2 ltInt d a b k).2.1 m (Sort.order2 ltInt d a b k).2.2).2.2).2.2
  generalize Sort.order2 ltInt d a b k = r1 at *
  obtain ⟨r1a,r1b,r1s⟩:=r1
  simp only at *
  generalize Sort.order2 ltInt d r1b m r1s = r2 at *
  obtain ⟨r2a,r2b,r2s⟩:=r2
  simp only at *
  generalize Sort.order2 ltInt d r1a r2a r2s = r3 at *
  obtain ⟨r3a,r3b,r3s⟩:=r3
  simp only at *
  clear hA hC
  go_enter Tryz.func334,Tryz.ntmps334
  go_wp2_with (first
    | (go_at_call 346;(with_reducible refine h1.mono ?_);rintro e w1 ⟨rfl,hA1,hC1⟩)
    | (go_at_call 346;(with_reducible refine (h2 _ (by exact atP) (by (repeat (first|(with_reducible assumption)|(with_reducible refine Cnt.drew ?_)|(with_reducible refine Cnt.drewN ?_))))).mono ?_);rintro e w2 ⟨rfl,hA2,hC2⟩)
    | (go_at_call 346;(with_reducible refine (h3 _ (by exact atP) (by (repeat (first|(with_reducible assumption)|(with_reducible refine Cnt.drew ?_)|(with_reducible refine Cnt.drewN ?_))))).mono ?_);rintro e w3 ⟨rfl,hA3,hC3⟩))
  go_ret
  exact ⟨rfl,hA3,hC3⟩
theorem medAdj {a cb k : Nat} {w0 w : World} {d : Array Int} (hA : (row g rest).At w0 d w) (hn : d.size = n) (ha : 1 ≤ a) (ha2 : a + 1 < n) (hC : Cnt (row g rest) w0 w cb k) (hc : k < 1000) (big : n < 400000) :
    Calls Tryz.prog 333 #[.slice (some ⟨g,0,none⟩) n c,.int .i64 a,.pointer (some ⟨cb,0,none⟩)] w fun e w'=>e = .returned (.int .i64 (medianAdjacent ltInt d a k).1) ∧ (row g rest).At w0 d w' ∧ Cnt (row g rest) w0 w' cb (medianAdjacent ltInt d a k).2:=by
  have hm:=median (c:=c) hA hn (a:=a - 1) (b:=a) (m:=a + 1) (by omega) (by omega) ha2 hC hc big
  rw [show ((a - 1 : Nat) : Int) = (a : Int) - 1 by omega,show ((a + 1 : Nat) : Int) = (a : Int) + 1 by omega] at hm
  clear hA hC
  go_enter Tryz.func333,Tryz.ntmps333
  go_wp2_with (first|(go_at_call 334;refine hm.mono ?_;rintro e w1 ⟨rfl,hA1,hC1⟩))
  go_ret
  exact ⟨rfl,hA1,hC1⟩
set_option maxRecDepth 1000000 in
set_option maxHeartbeats 12800000 in
theorem pivot {a b : Nat} {w0 w : World} {d : Array Int} (hA : (row g rest).At w0 d w) (hn : d.size = n) (hab : a < b) (hb : b ≤ n) (big : n < 400000) :
    Calls Tryz.prog 321 #[.slice (some ⟨g,0,none⟩) n c,.int .i64 a,.int .i64 b] w fun e w'=>e = .returned (.tuple #[.int .i64 (choosePivot ltInt d a b).1,.int .i64 (hintCode (choosePivot ltInt d a b).2)]) ∧ (row g rest).At w0 d w':=by
  obtain ⟨hA0,hC0⟩:=Cnt.start hA
  have MA:=fun (x k : Nat) (h1 : 1 ≤ x) (h2 : x + 1 < n) (hc : k < 1000) (w' : World) (hA : (row g rest).At w0 d w') (hC : Cnt (row g rest) w0 w' w.heap.size k)=>medAdj (w0:=w0) (w:=w') (d:=d) (c:=c) (cb:=w.heap.size) hA hn h1 h2 hC hc big
  have MD:=fun (x y z k : Nat) (hx : x < n) (hy : y < n) (hz : z < n) (hc : k < 1000) (w' : World) (hA : (row g rest).At w0 d w') (hC : Cnt (row g rest) w0 w' w.heap.size k)=>median (w0:=w0) (w:=w') (d:=d) (c:=c) (cb:=w.heap.size) hA hn hx hy hz hC hc big
  rw [choosePivot_eq]
  obtain ⟨I,hI⟩ : ∃ I : Nat,I = a + (b - a) / 4 * 1:=⟨_,rfl⟩
  obtain ⟨J,hJ⟩ : ∃ J : Nat,J = a + (b - a) / 4 * 2:=⟨_,rfl⟩
  obtain ⟨K,hK⟩ : ∃ K : Nat,K = a + (b - a) / 4 * 3:=⟨_,rfl⟩
  have eI : ((a : Int) + ((b : Int) - (a : Int)) / 4) = (I : Int):=by omega
  have eJ : ((a : Int) + ((b : Int) - (a : Int)) / 4 * 2) = (J : Int):=by omega
  have eK : ((a : Int) + ((b : Int) - (a : Int)) / 4 * 3) = (K : Int):=by omega
  by_cases h8 : b - a ≥ 8
  · by_cases h50 : b - a ≥ 50
    · obtain ⟨i1,s1,h1⟩ : ∃ i1 s1,medianAdjacent ltInt d I 0 = (i1,s1):=⟨_,_,rfl⟩
      obtain ⟨j1,s2,h2⟩ : ∃ j1 s2,medianAdjacent ltInt d J s1 = (j1,s2):=⟨_,_,rfl⟩
      obtain ⟨k1,s3,h3⟩ : ∃ k1 s3,medianAdjacent ltInt d K s2 = (k1,s3):=⟨_,_,rfl⟩
      obtain ⟨p,q,h4⟩ : ∃ p q,Sort.median ltInt d i1 j1 k1 s3 = (p,q):=⟨_,_,rfl⟩
      have hraw : rawPivot ltInt d a b = (p,q):=by simp only [rawPivot,if_pos h8,if_pos h50,← hI,← hJ,← hK,h1,h2,h3,h4]
      have m1:=medianAdjacent_mem ltInt d I 0;rw [h1] at m1
      have m2:=medianAdjacent_mem ltInt d J s1;rw [h2] at m2
      have m3:=medianAdjacent_mem ltInt d K s2;rw [h3] at m3
      have n1:=medianAdjacent_count ltInt d I 0;rw [h1] at n1
      have n2:=medianAdjacent_count ltInt d J s1;rw [h2] at n2
      have n3:=medianAdjacent_count ltInt d K s2;rw [h3] at n3
      simp only [] at m1 m2 m3 n1 n2 n3
      have c1:=MA I 0 (by omega) (by omega) (by omega)
      have c2:=MA J s1 (by omega) (by omega) (by omega)
      have c3:=MA K s2 (by omega) (by omega) (by omega)
      have c4:=MD i1 j1 k1 s3 (by omega) (by omega) (by omega) (by omega)
      simp only [h1] at c1
      simp only [h2] at c2
      simp only [h3] at c3
      simp only [h4] at c4
      rw [hraw]
      obtain ⟨Hc,hHc⟩ : ∃ Hc : Int,Hc = hintCode (hintOf q):=⟨_,rfl⟩
      have hh0 : q = 0 → Hc = 1:=fun h=>by rw [hHc,h];rfl
      have hh12 : q = 12 → Hc = 2:=fun h=>by rw [hHc,h];rfl
      have hhx : q ≠ 0 → q ≠ 12 → Hc = 0:=fun h1 h2=>by rw [hHc];unfold hintOf;rw [if_neg h1,if_neg h2];rfl
      show Calls _ _ _ w fun e w'=>e = .returned (.tuple #[.int .i64 (p : Int),.int .i64 (hintCode (hintOf q))]) ∧ (row g rest).At w0 d w'
      rw [← hHc]
      clear hHc hraw
      clear h1 h2 h3 h4 MA MD hI hJ hK m1 m2 m3 hA
      go_enter Tryz.func321,Tryz.ntmps321
      go_wp2_with (first
        | (go_at_call 333;(with_reducible refine (c1 _ (by exact atP) (by (repeat (first|(with_reducible assumption)|(with_reducible refine Cnt.drew ?_)|(with_reducible refine Cnt.drewN ?_))))).mono ?_);rintro e w1 ⟨rfl,hA1,hC1⟩;have cc1:=hC1.1.cells)
        | (go_at_call 333;(with_reducible refine (c2 _ (by exact atP) (by (repeat (first|(with_reducible assumption)|(with_reducible refine Cnt.drew ?_)|(with_reducible refine Cnt.drewN ?_))))).mono ?_);rintro e w2 ⟨rfl,hA2,hC2⟩;have cc2:=hC2.1.cells)
        | (go_at_call 333;(with_reducible refine (c3 _ (by exact atP) (by (repeat (first|(with_reducible assumption)|(with_reducible refine Cnt.drew ?_)|(with_reducible refine Cnt.drewN ?_))))).mono ?_);rintro e w3 ⟨rfl,hA3,hC3⟩;have cc3:=hC3.1.cells)
        | (go_at_call 334;(with_reducible refine (c4 _ (by exact atP) (by (repeat (first|(with_reducible assumption)|(with_reducible refine Cnt.drew ?_)|(with_reducible refine Cnt.drewN ?_))))).mono ?_);rintro e w4 ⟨rfl,hA4,hC4⟩;have cc4:=hC4.1.cells))
      all_goals
        go_ret2
        refine ⟨?_,by exact atP⟩
        first
          | (have e0 : (q : Int) = 0:=of_beqZ (by assumption)
             rw [hh0 (by omega)];rfl)
          | (have e1 : (q : Int) = 12:=of_beqZ (by assumption)
             rw [hh12 (by omega)];rfl)
          | (have e0 : (q : Int) ≠ 0:=of_bneZ (by assumption)
             have e1 : (q : Int) ≠ 12:=of_bneZ (by assumption)
             rw [hhx (by omega) (by omega)];rfl)
          | (rw [hh0 (by omega)];rfl)
    · obtain ⟨p,q,h4⟩ : ∃ p q,Sort.median ltInt d I J K 0 = (p,q):=⟨_,_,rfl⟩
      have hraw : rawPivot ltInt d a b = (p,q):=by simp only [rawPivot,if_pos h8,if_neg h50,← hI,← hJ,← hK,h4]
      have c4:=MD I J K 0 (by omega) (by omega) (by omega) (by omega)
      simp only [h4] at c4
      rw [hraw]
      obtain ⟨Hc,hHc⟩ : ∃ Hc : Int,Hc = hintCode (hintOf q):=⟨_,rfl⟩
      have hh0 : q = 0 → Hc = 1:=fun h=>by rw [hHc,h];rfl
      have hh12 : q = 12 → Hc = 2:=fun h=>by rw [hHc,h];rfl
      have hhx : q ≠ 0 → q ≠ 12 → Hc = 0:=fun h1 h2=>by rw [hHc];unfold hintOf;rw [if_neg h1,if_neg h2];rfl
      show Calls _ _ _ w fun e w'=>e = .returned (.tuple #[.int .i64 (p : Int),.int .i64 (hintCode (hintOf q))]) ∧ (row g rest).At w0 d w'
      rw [← hHc]
      clear hHc hraw
      clear h4 MA MD hI hJ hK hA
      go_enter Tryz.func321,Tryz.ntmps321
      go_wp2_with (first|(go_at_call 334;(with_reducible refine (c4 _ (by exact atP) (by (repeat (first|(with_reducible assumption)|(with_reducible refine Cnt.drew ?_)|(with_reducible refine Cnt.drewN ?_))))).mono ?_);rintro e w4 ⟨rfl,hA4,hC4⟩;have cc4:=hC4.1.cells))
      all_goals
        go_ret2
        refine ⟨?_,by exact atP⟩
        first
          | (have e0 : (q : Int) = 0:=of_beqZ (by assumption)
             rw [hh0 (by omega)];rfl)
          | (have e1 : (q : Int) = 12:=of_beqZ (by assumption)
             rw [hh12 (by omega)];rfl)
          | (have e0 : (q : Int) ≠ 0:=of_bneZ (by assumption)
             have e1 : (q : Int) ≠ 12:=of_bneZ (by assumption)
             rw [hhx (by omega) (by omega)];rfl)
          | (rw [hh0 (by omega)];rfl)
  · obtain ⟨p,hp⟩ : ∃ p : Nat,p = J:=⟨_,rfl⟩
    obtain ⟨q,hs⟩ : ∃ q : Nat,q = 0:=⟨_,rfl⟩
    have hraw : rawPivot ltInt d a b = (p,q):=by simp only [rawPivot,if_neg h8,← hJ,hp,hs]
    rw [hraw]
    obtain ⟨Hc,hHc⟩ : ∃ Hc : Int,Hc = hintCode (hintOf q):=⟨_,rfl⟩
    have hh0 : q = 0 → Hc = 1:=fun h=>by rw [hHc,h];rfl
    have hh12 : q = 12 → Hc = 2:=fun h=>by rw [hHc,h];rfl
    have hhx : q ≠ 0 → q ≠ 12 → Hc = 0:=fun h1 h2=>by rw [hHc];unfold hintOf;rw [if_neg h1,if_neg h2];rfl
    show Calls _ _ _ w fun e w'=>e = .returned (.tuple #[.int .i64 (p : Int),.int .i64 (hintCode (hintOf q))]) ∧ (row g rest).At w0 d w'
    rw [← hHc]
    clear hHc hraw
    subst hp
    clear MA MD hI hJ hK hA hC0
    subst hs
    go_enter Tryz.func321,Tryz.ntmps321
    go_wp2
    all_goals
      go_ret2
      refine ⟨?_,by exact atP⟩
      first
        | rfl
        | (rw [hh0 (by trivial)];rfl)
set_option maxRecDepth 1000000 in
set_option maxHeartbeats 12800000 in
theorem breakGo {a L : Nat} {w0 w : World} {d : Array Int} (hA : (row g rest).At w0 d w) (hn : d.size = n) (hb : a + L ≤ n) (h8 : 8 ≤ L) (big : n < 400000) (hLen : LenC) :
    Calls Tryz.prog 320 #[.slice (some ⟨g,0,none⟩) n c,.int .i64 a,.int .i64 ((a + L : Nat) : Int)] w fun e w'=>e = .returned (.tuple #[]) ∧ (row g rest).At w0 (breakPatterns d a (a + L)) w':=by
  rw [breakPatterns_eq d a L h8]
  obtain ⟨M,hM⟩ : ∃ M : Nat,M = 1 <<< bitsLen L:=⟨_,rfl⟩
  have hM1 : 1 ≤ M:=by rw [hM,Nat.one_shiftLeft];exact Nat.two_pow_pos _
  have hM2 : M ≤ 2 * L:=by rw [hM,Nat.one_shiftLeft];exact two_pow_bitsLen_le (by omega)
  have hNP : ∀ w,Calls Tryz.prog 218 #[.int .i64 (L : Int)] w fun e w'=>e = .returned (.int .u64 (M : Int)) ∧ w' = w:=by rw [hM];exact fun w=>nextPowS (by omega) w fun w=>hLen L w (by omega)
  rw [← hM]
  clear hM
  have hLz : ((a : Int) + (L : Int) - (a : Int)) = (L : Int):=by omega
  have h8z : (8 : Int) ≤ (L : Int):=by omega
  have wrL : IntKind.u64.wrap (L : Int) = L:=by simp [IntKind.wrap,IntKind.bits,IntKind.signed];omega
  go_enter Tryz.func320,Tryz.ntmps320
  go_wp2_with (first|(go_at_call 218;refine (hNP _).mono ?_;rintro e w' ⟨rfl,rfl⟩))
  have hRo : w.heap.size ∉ (row g rest).own ∧ w0.heap.size ≤ w.heap.size:=⟨fun hm=>Nat.lt_irrefl _ ((row g rest).lt hA.1 _ hm),hA.size⟩
  have hR0 : Blk (w.alloc (.cells #[.int .u64 (L : Int)] 397)) w.heap.size [.int .u64 (L : Int)] 397 (0,0):=Blk.new (cs:=[.int .u64 (L : Int)])
  have hA0:=hA.alloc (o:=.cells #[.int .u64 (L : Int)] 397)
  clear hA
  generalize w.alloc (.cells #[.int .u64 (L : Int)] 397) = w1 at *
  generalize w.heap.size = R at *
  go_loopg [9] 3 (fun g1 vi wr=>∃ (t : Nat) (r : UInt64) (dk : Array Int),vi = .int .i64 ((a : Int) + (L : Int) / 4 * 2 - 1 + (t : Int)) ∧ t ≤ 3 ∧ 3 - t ≤ g1 ∧ dk.size = n ∧ (row g rest).At w0 dk wr ∧
      Blk wr R [.int .u64 (r.toNat : Int)] 397 (0,0) ∧
      Hid (bpRest a L M (a + L / 4 * 2 - 1) (3 - t) t (r,dk) = bpRest a L M (a + L / 4 * 2 - 1) 3 0 (UInt64.ofNat L,d)))
  case atStart =>
    refine ⟨0,UInt64.ofNat L,d,by simp,by omega,by omega,hn,by exact atP,?_,rfl⟩
    rw [show (UInt64.ofNat L).toNat = L from by simp;omega]
    exact hR0
  case round =>
    clear hA0 hR0
    obtain ⟨t,r,dk,rfl,ht,hg1,hds,hA1,hR1,HR⟩:=hrel
    by_cases ht3 : t < 3
    · have hle : (a : Int) + (L : Int) / 4 * 2 - 1 + (t : Int) ≤ (a : Int) + (L : Int) / 4 * 2 + 1:=by omega
      obtain ⟨Q,hRr⟩ : ∃ Q : Nat,Q = r.toNat:=⟨_,rfl⟩
      have lR : Q < 18446744073709551616:=by rw [hRr];exact r.toNat_lt
      obtain ⟨Q',hR'⟩ : ∃ Q' : Nat,Q' = xorNextN Q:=⟨_,rfl⟩
      have lR' : Q' < 18446744073709551616:=by rw [hR'];exact xorNextN_lt Q lR
      obtain ⟨O,hO⟩ : ∃ O : Nat,O = Q' &&& (M - 1):=⟨_,rfl⟩
      have lO : O ≤ M - 1:=by rw [hO];exact Nat.and_le_right
      have eAnd : bits .and .u64 (Q' : Int) ((M : Int) - 1) = (O : Int):=by
        rw [show ((M : Int) - 1) = ((M - 1 : Nat) : Int) by omega,bits_and_u64_nat _ _ lR' (by omega),hO]
      rw [← hRr] at hR1
      have hNext:=xorNextS hR1 lR
      rw [← hR'] at hNext
      have HN : Hid (Q' = (xorNext r).toNat ∧ O = (xorNext r).toNat &&& (M - 1)):=by
        have e : Q' = (xorNext r).toNat:=by rw [hR',hRr,xorNext_toNat]
        exact ⟨e,by rw [hO,e]⟩
      clear hRr hR' hO hR1
      by_cases hLO : L ≤ O
      · have hLOz : (L : Int) ≤ (O : Int):=by omega
        obtain ⟨m,hm⟩ : ∃ m,m = a + (O - L):=⟨_,rfl⟩
        obtain ⟨i1,hi1⟩ : ∃ i1,i1 = a + L / 4 * 2 - 1 + t:=⟨_,rfl⟩
        have mn : m < n:=by omega
        have in1 : i1 < n:=by omega
        have wM:=wrk (z:=(a : Int) + ((O : Int) - (L : Int))) m (by omega) (by omega)
        have wI : (a : Int) + (L : Int) / 4 * 2 - 1 + (t : Int) = (i1 : Int):=by omega
        have hsw : ∀ w2,(row g rest).At w0 dk w2 → ∃ x y v',w2.cell? ⟨g,i1,none⟩ = some (.int .u64 x) ∧ w2.cell? ⟨g,m,none⟩ = some (.int .u64 y) ∧ (∀ o,w2.frozen? ⟨g,o,none⟩ = false) ∧ (w2.setCell ⟨g,i1,none⟩ (.int .u64 y)).cell? ⟨g,m,none⟩ = some v' ∧
            (row g rest).At w0 (swp dk i1 m) ((w2.setCell ⟨g,i1,none⟩ (.int .u64 y)).setCell ⟨g,m,none⟩ (.int .u64 x)):=fun w2 hA=>by
          obtain ⟨x,cx,hx⟩:=row_at hA hds in1
          obtain ⟨y,cy,hy⟩:=row_at hA hds mn
          obtain ⟨v',cw⟩:=row_st hA hds (i:=i1) mn (.int .u64 y)
          exact ⟨x,y,v',cx,cy,row_free hA,cw,row_sw hA hds in1 mn hx hy⟩
        have HM : Hid (m = a + (O - L) ∧ i1 = a + L / 4 * 2 - 1 + t):=⟨hm,hi1⟩
        have HI : Hid _:=wI
        clear hm hi1
        rw [wI]
        clear wI
        have hlei : (i1 : Int) ≤ (a : Int) + (L : Int) / 4 * 2 + 1:=by have:=HI.out;omega
        clear hle
        go_wp2_with (first
          | go_at_call 219;refine hNext.mono ?_;rintro e w2 ⟨rfl,hR2,hF2⟩;have hA2:=hA1.fr hF2 (by simp;exact hRo);obtain ⟨x,y,v',cx,cy,fx,cw,sw⟩:=hsw _ hA2;clear hsw
          | (refine wre 10 oSortU64e1 ?_)
          | (with_reducible refine wEI ?_;(first|(refine wEN ?_;skip)|(refine wEF rfl (fun K hK=>?_);go_simp)|(refine wEL rfl rfl (fun K hK=>?_);go_simp)|(refine wER rfl (fun K hK=>?_);go_simp)|(refine wEM rfl (fun K hK=>?_);go_simp;try refine ⟨_,_,⟨rfl,rfl⟩,?_⟩)|(refine wEG rfl (fun K hK=>?_);go_simp)|(refine wEA rfl (fun K hK=>?_);go_simp))))
        go_roundg (3 - (t + 1))
        case measure=>omega
        case rel =>
          obtain ⟨hm,hi1⟩:=HM.out
          refine ⟨t + 1,xorNext r,swp dk i1 m,by congr 1;push_cast;have:=HI.out;omega,by omega,Nat.le_refl _,by rw [size_swp];exact hds,by exact atP,?_,(show Hid _ from ?_)⟩
          · rw [← HN.out.1]
            have hgR : g ≠ R:=fun e=>hRo.1 (by rw [← e];simp [row])
            exact blkP
          · rw [← HR.out,bp_step a L M _ t r dk ((O - L)) ht3 (by rw [← HN.out.2,if_pos (by omega)]),hi1,hm]
            exact rfl
      · have hLOz : ¬ (L : Int) ≤ (O : Int):=by omega
        obtain ⟨m,hm⟩ : ∃ m,m = a + O:=⟨_,rfl⟩
        obtain ⟨i1,hi1⟩ : ∃ i1,i1 = a + L / 4 * 2 - 1 + t:=⟨_,rfl⟩
        have mn : m < n:=by omega
        have in1 : i1 < n:=by omega
        have wM:=wrk (z:=(a : Int) + (O : Int)) m (by omega) (by omega)
        have wI : (a : Int) + (L : Int) / 4 * 2 - 1 + (t : Int) = (i1 : Int):=by omega
        have hsw : ∀ w2,(row g rest).At w0 dk w2 → ∃ x y v',w2.cell? ⟨g,i1,none⟩ = some (.int .u64 x) ∧ w2.cell? ⟨g,m,none⟩ = some (.int .u64 y) ∧ (∀ o,w2.frozen? ⟨g,o,none⟩ = false) ∧ (w2.setCell ⟨g,i1,none⟩ (.int .u64 y)).cell? ⟨g,m,none⟩ = some v' ∧
            (row g rest).At w0 (swp dk i1 m) ((w2.setCell ⟨g,i1,none⟩ (.int .u64 y)).setCell ⟨g,m,none⟩ (.int .u64 x)):=fun w2 hA=>by
          obtain ⟨x,cx,hx⟩:=row_at hA hds in1
          obtain ⟨y,cy,hy⟩:=row_at hA hds mn
          obtain ⟨v',cw⟩:=row_st hA hds (i:=i1) mn (.int .u64 y)
          exact ⟨x,y,v',cx,cy,row_free hA,cw,row_sw hA hds in1 mn hx hy⟩
        have HM : Hid (m = a + O ∧ i1 = a + L / 4 * 2 - 1 + t):=⟨hm,hi1⟩
        have HI : Hid _:=wI
        clear hm hi1
        rw [wI]
        clear wI
        have hlei : (i1 : Int) ≤ (a : Int) + (L : Int) / 4 * 2 + 1:=by have:=HI.out;omega
        clear hle
        go_wp2_with (first
          | go_at_call 219;refine hNext.mono ?_;rintro e w2 ⟨rfl,hR2,hF2⟩;have hA2:=hA1.fr hF2 (by simp;exact hRo);obtain ⟨x,y,v',cx,cy,fx,cw,sw⟩:=hsw _ hA2;clear hsw
          | (refine wre 10 oSortU64e1 ?_)
          | (with_reducible refine wEI ?_;(first|(refine wEN ?_;skip)|(refine wEF rfl (fun K hK=>?_);go_simp)|(refine wEL rfl rfl (fun K hK=>?_);go_simp)|(refine wER rfl (fun K hK=>?_);go_simp)|(refine wEM rfl (fun K hK=>?_);go_simp;try refine ⟨_,_,⟨rfl,rfl⟩,?_⟩)|(refine wEG rfl (fun K hK=>?_);go_simp)|(refine wEA rfl (fun K hK=>?_);go_simp))))
        go_roundg (3 - (t + 1))
        case measure=>omega
        case rel =>
          obtain ⟨hm,hi1⟩:=HM.out
          refine ⟨t + 1,xorNext r,swp dk i1 m,by congr 1;push_cast;have:=HI.out;omega,by omega,Nat.le_refl _,by rw [size_swp];exact hds,by exact atP,?_,(show Hid _ from ?_)⟩
          · rw [← HN.out.1]
            have hgR : g ≠ R:=fun e=>hRo.1 (by rw [← e];simp [row])
            exact blkP
          · rw [← HR.out,bp_step a L M _ t r dk (O) ht3 (by rw [← HN.out.2,if_neg (by omega)]),hi1,hm]
            exact rfl
    · obtain rfl : t = 3:=by omega
      have hle : ¬ ((a : Int) + (L : Int) / 4 * 2 - 1 + ((3 : Nat) : Int) ≤ (a : Int) + (L : Int) / 4 * 2 + 1):=by omega
      go_wp2
      go_end0
      refine ⟨rfl,?_⟩
      rw [← HR.out]
      exact (by exact atP : (row g rest).At w0 dk _)
theorem breakP {a b : Nat} {w0 w : World} {d : Array Int} (hA : (row g rest).At w0 d w) (hn : d.size = n) (hab : a ≤ b) (hb : b ≤ n) (big : n < 400000) (hLen : LenC) :
    Calls Tryz.prog 320 #[.slice (some ⟨g,0,none⟩) n c,.int .i64 a,.int .i64 b] w fun e w'=>e = .returned (.tuple #[]) ∧ (row g rest).At w0 (breakPatterns d a b) w':=by
  obtain ⟨L,rfl⟩ : ∃ L,b = a + L:=⟨b - a,by omega⟩
  by_cases h8 : 8 ≤ L
  · exact breakGo hA hn hb h8 big hLen
  · have hv : breakPatterns d a (a + L) = d:=by unfold breakPatterns;simp only [Nat.add_sub_cancel_left];rw [if_neg h8]
    rw [hv]
    have hLz : ((a : Int) + (L : Int) - (a : Int)) = (L : Int):=by omega
    have h8z : ¬ (8 : Int) ≤ (L : Int):=by omega
    clear hv
    go_enter Tryz.func320,Tryz.ntmps320
    go_wp2
    go_end0
    exact ⟨rfl,by exact atP⟩
end Go.Proofs.Wx.U64

namespace Go.Proofs.Wx.U64
open Go Go.RowKit Go.Sort
abbrev oSortU64f0 : List (Nat × Cls):=[(0,.free),(1,.free),(2,.free),(3,.free),(4,.free),(5,.free),(6,.free),(7,.look),(8,.free),(9,.free),(10,.free),(11,.look),(12,.act),(13,.free),(14,.free)]
variable {g n c : Nat} {rest : List Value}
set_option maxHeartbeats 12800000 in
set_option maxRecDepth 1000000 in
theorem pdq (big : n < 400000) (hLen : LenC) {w0 : World} : ∀ (N a b limit : Nat) (d : Array Int) (w : World),b - a < N → (row g rest).At w0 d w → d.size = n → a ≤ b → b ≤ n → limit < 4611686018427387904 → Below ltInt a b d →
    Calls Tryz.prog 306 #[.slice (some ⟨g,0,none⟩) n c,.int .i64 a,.int .i64 b,.int .i64 limit] w fun e w'=>e = .returned (.tuple #[]) ∧ (row g rest).At w0 (Sort.pdq ltInt d a b limit true true) w':=by
  intro N
  induction N with
  | zero=>intro _ _ _ _ _ h;exact absurd h (Nat.not_lt_zero _)
  | succ N ih =>
    intro a b limit d w hN hA hn hab hb hlimit hBel0
    go_enter Tryz.func306,Tryz.ntmps306
    go_wp2
    go_loopg [1,2,3,8,9] (b - a) (fun k s1 s2 s3 s8 s9 wr=>∃ (a' b' lim : Nat) (wb wp : Bool) (dk : Array Int),s1 = .int .i64 a' ∧ s2 = .int .i64 b' ∧ s3 = .int .i64 lim ∧ s8 = .bool wb ∧ s9 = .bool wp ∧
      a' ≤ b' ∧ b' ≤ n ∧ b' - a' ≤ k ∧ k ≤ b - a ∧ lim ≤ limit ∧ dk.size = n ∧ Below ltInt a' b' dk ∧ (row g rest).At w0 dk wr ∧ Hid (Sort.pdq ltInt dk a' b' lim wb wp = Sort.pdq ltInt d a b limit true true))
    case atStart=>exact ⟨a,b,limit,true,true,d,rfl,rfl,rfl,rfl,rfl,hab,hb,Nat.le_refl _,Nat.le_refl _,Nat.le_refl _,hn,hBel0,hA,rfl⟩
    case round =>
      clear hA
      obtain ⟨a',b',lim,wb,wp,dk,rfl,rfl,rfl,rfl,rfl,hab',hb',hk,hkN,hlim,hds,hBel,hAt,A⟩:=hrel
      by_cases h12 : b' - a' ≤ 12
      · have h12z : (b' : Int) - (a' : Int) ≤ 12:=by omega
        have hc:=insSort (c:=c) hAt hds hab' hb' (by omega)
        go_wp2_with (first|(go_at_call 318;refine hc.mono ?_;rintro e w1 ⟨rfl,hA1⟩))
        (try simp only [Exit.inBlock,Exit.then]);refine bodyPost_ret (results_none rfl _ _ _) rfl ?_
        refine ⟨rfl,?_⟩
        rw [← A.out,pdq_small h12]
        exact (by exact atP : (row g rest).At w0 _ _)
      · have h12z : ¬ ((b' : Int) - (a' : Int) ≤ 12):=by omega
        by_cases hl0 : lim = 0
        · subst hl0
          have hc:=heapSort (c:=c) hAt hds hab' hb' big
          go_wp2_with (first|(go_at_call 319;refine hc.mono ?_;rintro e w1 ⟨rfl,hA1⟩))
          (try simp only [Exit.inBlock,Exit.then]);refine bodyPost_ret (results_none rfl _ _ _) rfl ?_
          refine ⟨rfl,?_⟩
          rw [← A.out,pdq_heap h12 rfl]
          exact (by exact atP : (row g rest).At w0 _ _)
        · have hl0z : ¬ ((lim : Int) = 0):=by omega
          obtain ⟨s1,B1,hc1,s2,B2,hpv,s3,B3⟩:=rd_facts (lt:=ltInt) (limit:=lim) (wb:=wb) (wp:=wp) swo_ltInt partialInsertionSort_holds reverseRange_holds (show a' < b' by omega) (show b' ≤ dk.size by omega) hBel
          go_upto_if 35 with fail
          go_cut [3] from 19 (fun s3 wc=>s3 = .int .i64 (rd ltInt dk a' b' lim wb wp).lim ∧ (row g rest).At w0 (rd ltInt dk a' b' lim wb wp).d1 wc)
          case first =>
            cases wb
            · have hc:=breakP (c:=c) hAt hds hab' hb' big hLen
              go_wp2_with (first|(go_at_call 320;refine hc.mono ?_;rintro e w1 ⟨rfl,hA1⟩))
              go_meet
              case rel =>
                refine ⟨?_,hA1⟩
                show Value.int .i64 ((lim : Int) - 1) = Value.int .i64 ((lim - 1 : Nat) : Int)
                congr 1
                omega
            · go_wp2_with fail
              go_meet
              case rel=>exact ⟨rfl,hAt⟩
          case rest =>
            obtain ⟨rfl,hAt1⟩:=hcut
            have hc17:=pivot (c:=c) (a:=a') (b:=b') hAt1 (s1.trans hds) (by omega) hb' big
            have hc17' : Calls Tryz.prog 321 #[.slice (some ⟨g,0,none⟩) n c,.int .i64 a',.int .i64 b'] wc fun e w'=>e = .returned (.tuple #[.int .i64 (rd ltInt dk a' b' lim wb wp).c.1,.int .i64 (hintCode (rd ltInt dk a' b' lim wb wp).c.2)]) ∧ (row g rest).At w0 (rd ltInt dk a' b' lim wb wp).d1 w':=hc17
            clear hc17
            go_upto_if 50 with (first|(go_at_call 321;refine hc17'.mono ?_;rintro e w2 ⟨rfl,hAt2⟩))
            clear hAt1 hAt
            go_cut [11,12] from 19 (fun s11 s12 wc=>s11 = .int .i64 (rd ltInt dk a' b' lim wb wp).pivot ∧ s12 = .int .i64 (hintCode (rd ltInt dk a' b' lim wb wp).hint) ∧ (row g rest).At w0 (rd ltInt dk a' b' lim wb wp).d2 wc)
            case first =>
              by_cases hh : (rd ltInt dk a' b' lim wb wp).c.2 = .decreasing
              · have hcode : hintCode (rd ltInt dk a' b' lim wb wp).c.2 = 2:=by rw [hh];rfl
                obtain ⟨e2,epv,eht⟩:=rd_dec hh
                have hc18:=reverse (c:=c) hAt2 (s1.trans hds) hab' hb' (by omega)
                go_wp2_with (first|(go_at_call 322;refine hc18.mono ?_;rintro e w3 ⟨rfl,hAt3⟩))
                go_meet
                case rel =>
                  refine ⟨?_,by rw [eht];rfl,by rw [e2];exact hAt3⟩
                  rw [epv]
                  congr 1
                  omega
              · have hcode : ¬ (hintCode (rd ltInt dk a' b' lim wb wp).c.2 = 2):=fun h=>hh (hintCode_two h)
                obtain ⟨e2,epv,eht⟩:=rd_not hh
                go_wp2_with fail
                go_meet
                case rel=>exact ⟨by rw [epv],by rw [eht],by rw [e2];exact hAt2⟩
            case rest =>
              clear hAt2
              obtain ⟨rfl,rfl,hAt3⟩:=hcut
              go_upto_region 15 with fail
              go_cut [12,68] from 19 (fun s12 s68 wx=>s12 = .int .i64 (hintCode (rd ltInt dk a' b' lim wb wp).hint) ∧ s68 = .bool (wb && wp && decide ((rd ltInt dk a' b' lim wb wp).hint = .increasing)) ∧ wx = wc)
              case first =>
                cases wb <;> cases wp <;> cases hh3 : (rd ltInt dk a' b' lim _ _).hint <;>
                  (have hcode3:=congrArg hintCode hh3
                   simp only [hintCode] at hcode3
                   go_wp2_with fail
                   go_meet
                   exact ⟨by simp [hh3,hintCode],by simp [hh3,hintCode],rfl⟩)
              case rest =>
                obtain ⟨rfl,rfl,rfl⟩:=hcut
                go_upto_if 68 with fail
                go_cut [] from 19 (fun wx=>(rd ltInt dk a' b' lim wb wp).pi.2 = false ∧ (row g rest).At w0 (rd ltInt dk a' b' lim wb wp).pi.1 wx)
                case first =>
                  cases h68 : (wb && wp && decide ((rd ltInt dk a' b' lim wb wp).hint = .increasing))
                  · have epi:=rd_pi_no h68
                    go_wp2_with fail
                    go_meet
                    case rel=>exact ⟨by rw [epi],by rw [epi];exact hAt3⟩
                  · have epi:=rd_pi_yes h68
                    have hc19:=partIns (c:=c) hAt3 (s2.trans hds) (a:=a') (b:=b') (by omega) hb' big
                    rw [← epi] at hc19
                    go_wp2_with (first|(go_at_call 323;refine hc19.mono ?_;rintro e w4 ⟨rfl,hA4⟩))
                    all_goals first
                      | (have hp2 : (rd ltInt dk a' b' lim wb wp).pi.2 = false:=by rw [epi];assumption
                         go_meet
                         exact ⟨hp2,hA4⟩)
                      | (have hp2 : (rd ltInt dk a' b' lim wb wp).pi.2 = true:=by rw [epi];assumption
                         (try simp only [Exit.inBlock,Exit.then]);refine bodyPost_ret (results_none rfl _ _ _) rfl ?_
                         refine ⟨rfl,?_⟩
                         rw [← A.out,pdq_done h12 hl0 hp2]
                         exact hA4)
                case rest =>
                  clear hAt3
                  obtain ⟨hp2,hAt5⟩:=hcut
                  go_upto_region 17 with fail
                  go_cut [87] from 19 (fun s87 wx=>s87 = .bool (decide (a' > 0) && !ltInt (rd ltInt dk a' b' lim wb wp).pi.1[a' - 1]! (rd ltInt dk a' b' lim wb wp).pi.1[(rd ltInt dk a' b' lim wb wp).pivot]!) ∧ (row g rest).At w0 (rd ltInt dk a' b' lim wb wp).pi.1 wx)
                  case first =>
                    rcases Nat.eq_zero_or_pos a' with ha0|ha0
                    · have ha0z : decide ((a' : Int) > 0) = false:=decide_eq_false (by omega)
                      have ha1 : ¬ (0 : Int) < (a' : Int):=by omega
                      have ha2 : ¬ 0 < a':=by omega
                      have HA0:=Lib.hid ha0
                      clear ha0
                      go_wp2_with (first
                        | go_at_call 324;(with_reducible refine (lessU _ _ _).mono ?_);rintro e w9 ⟨rfl,rfl⟩
                        | (refine wre 17 oSortU64f0 ?_)
                        | (with_reducible refine wEI ?_;(first|(refine wEN ?_;skip)|(refine wEF rfl (fun K hK=>?_);go_simp)|(refine wEL rfl rfl (fun K hK=>?_);go_simp)|(refine wER rfl (fun K hK=>?_);go_simp)|(refine wEM rfl (fun K hK=>?_);go_simp;try refine ⟨_,_,⟨rfl,rfl⟩,?_⟩)|(refine wEG rfl (fun K hK=>?_);go_simp)|(refine wEA rfl (fun K hK=>?_);go_simp))))
                      go_meet
                      case rel=>exact ⟨by simp [HA0.out],by exact atP⟩
                    · have ha0z : (a' : Int) > 0:=by omega
                      obtain ⟨pv,hpvE⟩ : ∃ pv,pv = (rd ltInt dk a' b' lim wb wp).pivot:=⟨_,rfl⟩
                      have pvn : pv < n:=by omega
                      have an1 : a' - 1 < n:=by omega
                      obtain ⟨x,cx,hx⟩:=row_at hAt5 (s3.trans hds) an1
                      obtain ⟨y,cy,hy⟩:=row_at hAt5 (s3.trans hds) pvn
                      have wj:=wrk (z:=(a' : Int) - 1) (a' - 1) (by omega) (by omega)
                      rw [← hpvE]
                      have HP : Hid (pv = (rd ltInt dk a' b' lim wb wp).pivot):=hpvE
                      clear hpvE
                      by_cases hlv : x < y
                      · have hl:=ltT hx hy hlv
                        go_wp2_with (first
                          | go_at_call 324;(with_reducible refine (lessU _ _ _).mono ?_);rintro e w9 ⟨rfl,rfl⟩
                          | (refine wre 17 oSortU64f0 ?_)
                          | (with_reducible refine wEI ?_;(first|(refine wEN ?_;skip)|(refine wEF rfl (fun K hK=>?_);go_simp)|(refine wEL rfl rfl (fun K hK=>?_);go_simp)|(refine wER rfl (fun K hK=>?_);go_simp)|(refine wEM rfl (fun K hK=>?_);go_simp;try refine ⟨_,_,⟨rfl,rfl⟩,?_⟩)|(refine wEG rfl (fun K hK=>?_);go_simp)|(refine wEA rfl (fun K hK=>?_);go_simp))))
                        have hpE:=HP.out
                        subst hpE
                        go_meet
                        exact ⟨by simp [ha0,hl],by exact atP⟩
                      · have hl:=ltF hx hy hlv
                        have dg:=decide_eq_false hlv
                        go_wp2_with (first
                          | go_at_call 324;(with_reducible refine (lessU _ _ _).mono ?_);rintro e w9 ⟨rfl,rfl⟩
                          | (refine wre 17 oSortU64f0 ?_)
                          | (with_reducible refine wEI ?_;(first|(refine wEN ?_;skip)|(refine wEF rfl (fun K hK=>?_);go_simp)|(refine wEL rfl rfl (fun K hK=>?_);go_simp)|(refine wER rfl (fun K hK=>?_);go_simp)|(refine wEM rfl (fun K hK=>?_);go_simp;try refine ⟨_,_,⟨rfl,rfl⟩,?_⟩)|(refine wEG rfl (fun K hK=>?_);go_simp)|(refine wEA rfl (fun K hK=>?_);go_simp))))
                        have hpE:=HP.out
                        subst hpE
                        go_meet
                        exact ⟨by simp [ha0,hl],by exact atP⟩
                  case rest =>
                    clear hAt5
                    obtain ⟨rfl,hAt6⟩:=hcut
                    cases h87 : (decide (a' > 0) && !ltInt (rd ltInt dk a' b' lim wb wp).pi.1[a' - 1]! (rd ltInt dk a' b' lim wb wp).pi.1[(rd ltInt dk a' b' lim wb wp).pivot]!)
                    · obtain ⟨mid,ap,d4,hx⟩ : ∃ mid ap d4,Sort.partition ltInt (rd ltInt dk a' b' lim wb wp).pi.1 a' b' (rd ltInt dk a' b' lim wb wp).pivot = (mid,ap,d4):=⟨(Sort.partition ltInt (rd ltInt dk a' b' lim wb wp).pi.1 a' b' (rd ltInt dk a' b' lim wb wp).pivot).1,(Sort.partition ltInt (rd ltInt dk a' b' lim wb wp).pi.1 a' b' (rd ltInt dk a' b' lim wb wp).pivot).2.1,(Sort.partition ltInt (rd ltInt dk a' b' lim wb wp).pi.1 a' b' (rd ltInt dk a' b' lim wb wp).pivot).2.2,rfl⟩
                      obtain ⟨r1,r2,r3,r4,r5,r6,r7⟩:=round_part swo_ltInt (partition_holds ltInt) hpv.1 hpv.2 (show b' ≤ (rd ltInt dk a' b' lim wb wp).pi.1.size by omega) B3 hx
                      have hc22:=part (c:=c) hAt6 (s3.trans hds) hpv.1 hpv.2 hb' big
                      rw [hx] at hc22
                      have X : Aside (Sort.partition ltInt (rd ltInt dk a' b' lim wb wp).pi.1 a' b' (rd ltInt dk a' b' lim wb wp).pivot = (mid,ap,d4)):=hx
                      clear hx
                      go_upto_if 113 with (first|(go_at_call 326;refine hc22.mono ?_;rintro e w7 ⟨rfl,hAt7⟩))
                      have hx:=X.out
                      have hs4 : d4.size = n:=r3.trans (s3.trans hds)
                      clear hAt6
                      by_cases h4 : mid - a' < b' - mid
                      · have h4z : (mid : Int) - (a' : Int) < (b' : Int) - (mid : Int):=by omega
                        have hih:=ih a' mid (rd ltInt dk a' b' lim wb wp).lim d4 w7 (by omega) hAt7 hs4 (by omega) (by omega) (Nat.lt_of_le_of_lt (Nat.le_trans rd_lim_le hlim) hlimit) r4
                        obtain ⟨pL,sL⟩:=pdq_sorts ltInt swo_ltInt d4 a' mid (rd ltInt dk a' b' lim wb wp).lim true true (by omega) (by omega) r4
                        go_wp2_with (first|(go_at_call 306;refine hih.mono ?_;rintro e w8 ⟨rfl,hAt8⟩))
                        go_roundg (b' - (mid + 1))
                        case measure=>omega
                        case rel =>
                          refine ⟨mid + 1,b',(rd ltInt dk a' b' lim wb wp).lim,decide (mid - a' ≥ (b' - a') / 8),ap,Sort.pdq ltInt d4 a' mid (rd ltInt dk a' b' lim wb wp).lim true true,by simp,rfl,rfl,?_,rfl,by omega,by omega,Nat.le_refl _,by omega,Nat.le_trans rd_lim_le hlim,by rw [pL.1,hs4],(r6 _ pL sL).1,hAt8,?_⟩
                          · exact congrArg Value.bool (eighth (by omega) (by omega))
                          · show _ = _
                            rw [← A.out,pdq_left h12 hl0 hp2 h87 (by rw [hx];exact ⟨r1,r2⟩) (by rw [hx];exact h4),hx]
                      · have h4z : ¬ ((mid : Int) - (a' : Int) < (b' : Int) - (mid : Int)):=by omega
                        have hih:=ih (mid + 1) b' (rd ltInt dk a' b' lim wb wp).lim d4 w7 (by omega) hAt7 hs4 (by omega) (by omega) (Nat.lt_of_le_of_lt (Nat.le_trans rd_lim_le hlim) hlimit) r5
                        rw [show ((mid + 1 : Nat) : Int) = (mid : Int) + 1 by omega] at hih
                        obtain ⟨pL,sL⟩:=pdq_sorts ltInt swo_ltInt d4 (mid + 1) b' (rd ltInt dk a' b' lim wb wp).lim true true (by omega) (by omega) r5
                        go_wp2_with (first|(go_at_call 306;refine hih.mono ?_;rintro e w8 ⟨rfl,hAt8⟩))
                        go_roundg (mid - a')
                        case measure=>omega
                        case rel =>
                          refine ⟨a',mid,(rd ltInt dk a' b' lim wb wp).lim,decide (b' - mid ≥ (b' - a') / 8),ap,Sort.pdq ltInt d4 (mid + 1) b' (rd ltInt dk a' b' lim wb wp).lim true true,rfl,rfl,rfl,?_,rfl,by omega,by omega,Nat.le_refl _,by omega,Nat.le_trans rd_lim_le hlim,by rw [pL.1,hs4],(r7 _ pL sL).1,hAt8,?_⟩
                          · exact congrArg Value.bool (eighth (by omega) (by omega))
                          · show _ = _
                            rw [← A.out,pdq_right h12 hl0 hp2 h87 (by rw [hx];exact ⟨r1,r2⟩) (by rw [hx];exact h4),hx]
                    · have h87':=h87
                      simp only [Bool.and_eq_true,decide_eq_true_eq,Bool.not_eq_true'] at h87'
                      obtain ⟨mid,d4,hx⟩ : ∃ mid d4,Sort.partitionEqual ltInt (rd ltInt dk a' b' lim wb wp).pi.1 a' b' (rd ltInt dk a' b' lim wb wp).pivot = (mid,d4):=⟨(Sort.partitionEqual ltInt (rd ltInt dk a' b' lim wb wp).pi.1 a' b' (rd ltInt dk a' b' lim wb wp).pivot).1,(Sort.partitionEqual ltInt (rd ltInt dk a' b' lim wb wp).pi.1 a' b' (rd ltInt dk a' b' lim wb wp).pivot).2,rfl⟩
                      obtain ⟨r1,r2,r3,r4,_⟩:=round_eq swo_ltInt (partitionEqual_holds ltInt) h87'.1 hpv.1 hpv.2 (show b' ≤ (rd ltInt dk a' b' lim wb wp).pi.1.size by omega) B3 h87'.2 hx
                      have hc21:=partEq (c:=c) hAt6 (s3.trans hds) hpv.1 hpv.2 hb' big
                      rw [hx] at hc21
                      have X : Aside (Sort.partitionEqual ltInt (rd ltInt dk a' b' lim wb wp).pi.1 a' b' (rd ltInt dk a' b' lim wb wp).pivot = (mid,d4)):=hx
                      clear hx
                      go_wp2_with (first|(go_at_call 325;refine hc21.mono ?_;rintro e w7 ⟨rfl,hAt7⟩))
                      go_roundg (b' - mid)
                      case measure=>omega
                      case rel =>
                        have hx:=X.out
                        exact ⟨mid,b',(rd ltInt dk a' b' lim wb wp).lim,wb,wp,d4,rfl,rfl,rfl,rfl,rfl,r2,hb',Nat.le_refl _,by omega,Nat.le_trans rd_lim_le hlim,by rw [r3,s3,hds],r4,hAt7,(show Hid _ from by rw [← A.out,pdq_eq h12 hl0 hp2 h87 (by rw [hx];exact ⟨r1,r2⟩),hx];exact rfl)⟩
set_option maxRecDepth 1000000 in
set_option maxHeartbeats 12800000 in
theorem sortU {w : World} {d : Array Int} (hLen : LenC) (hS : (row g rest).S d w) (hn : d.size = n) (big : n < 400000) :
    Calls Tryz.prog 298 #[.slice (some ⟨g,0,none⟩) n c] w fun e w'=>e = .returned (.tuple #[]) ∧ ∃ d',(row g rest).S d' w' ∧ Fr [g] w w' ∧ PermIn 0 n d d' ∧ SortedIn ltInt 0 n d':=by
  have wr : IntKind.u64.wrap (n : Int) = n:=by simp [IntKind.wrap,IntKind.bits,IntKind.signed];omega
  have hA:=St.At.start hS
  have hlim : bitsLen n < 4611686018427387904:=Nat.lt_of_le_of_lt ((bitsLen_le_iff n 62).2 (by omega)) (by omega)
  have hp : ∀ w1,(row g rest).At w d w1 → Calls Tryz.prog 306 #[.slice (some ⟨g,0,none⟩) n c,.int .i64 0,.int .i64 n,.int .i64 (bitsLen n : Nat)] w1 fun e w'=>e = .returned (.tuple #[]) ∧ (row g rest).At w (Sort.pdq ltInt d 0 n (bitsLen n) true true) w':=fun w1 h =>
    pdq big hLen (n + 1) 0 n (bitsLen n) d w1 (by omega) h hn (Nat.zero_le _) (Nat.le_refl _) hlim (Or.inl rfl)
  have hb:=fun w=>hLen n w (by omega)
  go_enter Tryz.func298,Tryz.ntmps298
  go_wp2_with (first
    | (go_at_call 143;refine (hb _).mono ?_;rintro e w2 ⟨rfl,rfl⟩)
    | (go_at_call 306;refine (hp _ (by exact atP)).mono ?_;rintro e w3 ⟨rfl,hA3⟩))
  go_end0
  obtain ⟨p1,p2⟩:=pdq_sorts ltInt swo_ltInt d 0 n (bitsLen n) true true (Nat.zero_le _) (by omega) (Or.inl rfl)
  exact ⟨rfl,_,hA3.1,hA3.2,p1,p2⟩
end Go.Proofs.Wx.U64
