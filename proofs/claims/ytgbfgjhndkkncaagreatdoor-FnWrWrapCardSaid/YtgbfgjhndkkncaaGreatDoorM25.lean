import Derived.Test.YtgbfgjhndkkncaaGreatDoorM20
import Derived.Test.YtgbfgjhndkkncaaGreatDoorM21
set_option maxRecDepth 100000
set_option maxHeartbeats 1000000
set_option linter.unusedVariables false
set_option linter.unusedSimpArgs false
set_option linter.deprecated false
namespace Go.Proofs.Wx
open Go Go.RowKit Go.Sort
abbrev oSortX0 : List (Nat × Cls) := [(0,.free),(1,.free),(2,.look),(3,.free),(4,.free),(5,.look),(6,.free),(7,.free),(8,.free),(9,.act)]
theorem xorNextS {rb X : Nat} {w : World} (hB : Blk w rb [.int .u64 X] 356 (0, 0)) (hX : X < 18446744073709551616) :
    Calls Tryz.prog 209 #[.pointer (some ⟨rb, 0, none⟩)] w fun e w' => e = .returned (.int .u64 (xorNextN X : Nat)) ∧ Blk w' rb [.int .u64 (xorNextN X : Nat)] 356 (0, 0) ∧ Fr [rb] w w' := by
  obtain ⟨A, hA⟩ : ∃ A : Nat, A = X ^^^ (X * 8192 % 18446744073709551616) := ⟨_, rfl⟩
  obtain ⟨B, hBB⟩ : ∃ B : Nat, B = A ^^^ (A / 128) := ⟨_, rfl⟩
  obtain ⟨C, hC⟩ : ∃ C : Nat, C = B ^^^ (B * 131072 % 18446744073709551616) := ⟨_, rfl⟩
  have lA : A < 18446744073709551616 := by rw [hA]; exact Nat.xor_lt_two_pow (n := 64) (by omega) (by omega)
  have lB : B < 18446744073709551616 := by rw [hBB]; exact Nat.xor_lt_two_pow (n := 64) (by omega) (by omega)
  have e1 : bits .xor .u64 (X : Int) (IntKind.u64.wrap ((X : Int) * 8192)) = (A : Int) := by
    rw [IntKind.wrap_u64, show ((X : Int) * 8192 % 18446744073709551616) = ((X * 8192 % 18446744073709551616 : Nat) : Int) by omega, bits_xor_u64_nat _ _ hX (by omega), hA]
  have e2 : bits .xor .u64 (A : Int) ((A : Int) / 128) = (B : Int) := by
    rw [show ((A : Int) / 128) = ((A / 128 : Nat) : Int) by omega, bits_xor_u64_nat _ _ lA (by omega), hBB]
  have e3 : bits .xor .u64 (B : Int) (IntKind.u64.wrap ((B : Int) * 131072)) = (C : Int) := by
    rw [IntKind.wrap_u64, show ((B : Int) * 131072 % 18446744073709551616) = ((B * 131072 % 18446744073709551616 : Nat) : Int) by omega, bits_xor_u64_nat _ _ lB (by omega), hC]
  have hv : xorNextN X = C := by unfold xorNextN; simp only []; rw [← hA, ← hBB, ← hC]
  rw [hv]
  clear hA hBB hC hv
  have hc := hB.cell 0
  have hf := hB.free
  have hss : ∀ v v', (w.setCell ⟨rb, 0, none⟩ v).setCell ⟨rb, 0, none⟩ v' = w.setCell ⟨rb, 0, none⟩ v' := setCell_setCell w rb 0
  go_enter Tryz.func209, Tryz.ntmps209
  go_wp2_with (first
    | (refine wre 1 oSortX0 ?_)
    | (refine wre 2 oSortX0 ?_)
    | (refine wre 3 oSortX0 ?_)
    | (with_reducible refine wEI ?_; (first | (refine wEN ?_; skip) | (refine wEF rfl (fun K hK => ?_); go_simp) | (refine wEL rfl rfl (fun K hK => ?_); go_simp) | (refine wER rfl (fun K hK => ?_); go_simp) | (refine wEM rfl (fun K hK => ?_); go_simp; try refine ⟨_, _, ⟨rfl, rfl⟩, ?_⟩) | (refine wEG rfl (fun K hK => ?_); go_simp) | (refine wEA rfl (fun K hK => ?_); go_simp))))
  go_ret
  refine ⟨rfl, ?_, by exact frP⟩
  exact blkP
theorem nextPowS {m : Nat} (hm : m < 4611686018427387904) (w : World)
    (hLen : ∀ w, Calls Tryz.prog 119 #[.int .u64 (m : Int)] w fun e w' => e = .returned (.int .i64 (bitsLen m : Nat)) ∧ w' = w) :
    Calls Tryz.prog 208 #[.int .i64 m] w fun e w' => e = .returned (.int .u64 ((1 <<< bitsLen m : Nat) : Int)) ∧ w' = w := by
  have hk : bitsLen m ≤ 62 := (bitsLen_le_iff m 62).2 (by omega)
  have hp := wrap_two_pow (bitsLen m) hk
  have wr : IntKind.u64.wrap (m : Int) = m := by simp [IntKind.wrap, IntKind.bits, IntKind.signed]; omega
  go_enter Tryz.func208, Tryz.ntmps208
  go_wp2_with (first | (go_at_call 119; refine (hLen _).mono ?_; rintro e w' ⟨rfl, rfl⟩))
  go_ret
  exact ⟨rfl, rfl⟩
end Go.Proofs.Wx

namespace Go.Proofs.Wx.U64
open Go Go.RowKit Go.Sort
abbrev oSortU64e0 : List (Nat × Cls) := [(0,.free),(1,.free),(2,.free),(3,.look),(4,.free),(5,.free),(6,.free),(7,.look),(8,.act)]
abbrev oSortU64e1 : List (Nat × Cls) := [(0,.free),(1,.free),(2,.free),(3,.free),(4,.free),(5,.free),(6,.free),(7,.free),(8,.free),(9,.free),(10,.free),(11,.look),(12,.free),(13,.free),(14,.free),(15,.look),(16,.free),(17,.act),(18,.free),(19,.act)]
variable {g n c : Nat} {rest : List Value}
theorem order2 {a b cb k : Nat} {w0 w : World} {d : Array Int} (hA : (row g rest).At w0 d w) (hn : d.size = n) (ha : a < n) (hb : b < n) (hC : Cnt (row g rest) w0 w cb k) (hc : k < 4611686018427387904) (big : n < 400000) :
    Calls Tryz.prog 325 #[.slice (some ⟨g, 0, none⟩) n c, .int .i64 a, .int .i64 b, .pointer (some ⟨cb, 0, none⟩)] w fun e w' => e = .returned (.tuple #[.int .i64 (Sort.order2 ltInt d a b k).1, .int .i64 (Sort.order2 ltInt d a b k).2.1]) ∧ (row g rest).At w0 d w' ∧ Cnt (row g rest) w0 w' cb (Sort.order2 ltInt d a b k).2.2 := by
  obtain ⟨hC1, hC2, hC3⟩ := hC
  have hC9 := hC1.cell 0
  have cf9 := hC1.free
  obtain ⟨xa, cxa, hxa⟩ := row_at hA hn ha
  obtain ⟨xb, cxb, hxb⟩ := row_at hA hn hb
  by_cases hlv : xb < xa
  · have e2 : Sort.order2 ltInt d a b k = (b, a, k + 1) := by simp [Sort.order2, ltT hxb hxa hlv]
    rw [e2]
    go_enter Tryz.func325, Tryz.ntmps325
    go_wp2_with (first
      | go_at_call 304; (with_reducible refine (lessU _ _ _).mono ?_); rintro e w9 ⟨rfl, rfl⟩
      | (refine wre 1 oSortU64e0 ?_)
      | (with_reducible refine wEI ?_; (first | (refine wEN ?_; skip) | (refine wEF rfl (fun K hK => ?_); go_simp) | (refine wEL rfl rfl (fun K hK => ?_); go_simp) | (refine wER rfl (fun K hK => ?_); go_simp) | (refine wEM rfl (fun K hK => ?_); go_simp; try refine ⟨_, _, ⟨rfl, rfl⟩, ?_⟩) | (refine wEG rfl (fun K hK => ?_); go_simp) | (refine wEA rfl (fun K hK => ?_); go_simp))))
    go_ret2
    refine ⟨rfl, hA.fr (X := [cb]) (by exact frP) (by simp; exact ⟨hC2, hC3⟩), ?_, hC2, hC3⟩
    exact blkP
  · have e2 : Sort.order2 ltInt d a b k = (a, b, k) := by simp [Sort.order2, ltF hxb hxa hlv]
    have dg := decide_eq_false hlv
    rw [e2]
    go_enter Tryz.func325, Tryz.ntmps325
    go_wp2_with (first
      | go_at_call 304; (with_reducible refine (lessU _ _ _).mono ?_); rintro e w9 ⟨rfl, rfl⟩
      | (refine wre 1 oSortU64e0 ?_)
      | (with_reducible refine wEI ?_; (first | (refine wEN ?_; skip) | (refine wEF rfl (fun K hK => ?_); go_simp) | (refine wEL rfl rfl (fun K hK => ?_); go_simp) | (refine wER rfl (fun K hK => ?_); go_simp) | (refine wEM rfl (fun K hK => ?_); go_simp; try refine ⟨_, _, ⟨rfl, rfl⟩, ?_⟩) | (refine wEG rfl (fun K hK => ?_); go_simp) | (refine wEA rfl (fun K hK => ?_); go_simp))))
    go_ret2
    refine ⟨rfl, by exact atP, ?_, hC2, hC3⟩
    exact blkP
theorem median {a b m cb k : Nat} {w0 w : World} {d : Array Int} (hA : (row g rest).At w0 d w) (hn : d.size = n) (ha : a < n) (hb : b < n) (hm : m < n) (hC : Cnt (row g rest) w0 w cb k) (hc : k < 1000) (big : n < 400000) :
    Calls Tryz.prog 313 #[.slice (some ⟨g, 0, none⟩) n c, .int .i64 a, .int .i64 b, .int .i64 m, .pointer (some ⟨cb, 0, none⟩)] w fun e w' => e = .returned (.int .i64 (Sort.median ltInt d a b m k).1) ∧ (row g rest).At w0 d w' ∧ Cnt (row g rest) w0 w' cb (Sort.median ltInt d a b m k).2 := by
  have l1 := order2_lt2 ltInt d k ha hb
  have s1 := order2_sw ltInt d a b k
  have l2 := order2_lt2 ltInt d (Sort.order2 ltInt d a b k).2.2 l1.2 hm
  have s2 := order2_sw ltInt d (Sort.order2 ltInt d a b k).2.1 m (Sort.order2 ltInt d a b k).2.2
  have h1 := order2 (c := c) hA hn ha hb hC (by omega) big
  have h2 := fun (w' : World) (hA : (row g rest).At w0 d w') (hC : Cnt (row g rest) w0 w' cb _) => order2 (w := w') (c := c) hA hn l1.2 hm hC (k := (Sort.order2 ltInt d a b k).2.2) (by omega) big
  have h3 := fun (w' : World) (hA : (row g rest).At w0 d w') (hC : Cnt (row g rest) w0 w' cb _) => order2 (w := w') (c := c) hA hn l1.1 l2.1 hC (k := (Sort.order2 ltInt d (Sort.order2 ltInt d a b k).2.1 m (Sort.order2 ltInt d a b k).2.2).2.2) (by omega) big
  clear l1 s1 l2 s2
  show Calls _ _ _ _ fun e w' => e = .returned (.int .i64 ((Sort.order2 ltInt d (Sort.order2 ltInt d a b k).1 (Sort.order2 ltInt d (Sort.order2 ltInt d a b k).2.1 m (Sort.order2 ltInt d a b k).2.2).1 (Sort.order2 ltInt d (Sort.order2 ltInt d a b k).2.1 m (Sort.order2 ltInt d a b k).2.2).2.2).2.1 : Nat)) ∧ (row g rest).At w0 d w' ∧ Cnt (row g rest) w0 w' cb (Sort.order2 ltInt d (Sort.order2 ltInt d a b k).1 (Sort.order2 ltInt d (Sort.order2 ltInt d a b k).2.1 m (Sort.order2 ltInt d a b k).2.2).1 (Sort.order2 ltInt d (Sort.order2 ltInt d a b k).2.1 m (Sort.order2 ltInt d a b k).2.2).2.2).2.2
  generalize Sort.order2 ltInt d a b k = r1 at *
  obtain ⟨r1a, r1b, r1s⟩ := r1
  simp only at *
  generalize Sort.order2 ltInt d r1b m r1s = r2 at *
  obtain ⟨r2a, r2b, r2s⟩ := r2
  simp only at *
  generalize Sort.order2 ltInt d r1a r2a r2s = r3 at *
  obtain ⟨r3a, r3b, r3s⟩ := r3
  simp only at *
  clear hA hC
  go_enter Tryz.func313, Tryz.ntmps313
  go_wp2_with (first
    | (go_at_call 325; (with_reducible refine h1.mono ?_); rintro e w1 ⟨rfl, hA1, hC1⟩)
    | (go_at_call 325; (with_reducible refine (h2 _ (by exact atP) (by (repeat (first | (with_reducible assumption) | (with_reducible refine Cnt.drew ?_) | (with_reducible refine Cnt.drewN ?_))))).mono ?_); rintro e w2 ⟨rfl, hA2, hC2⟩)
    | (go_at_call 325; (with_reducible refine (h3 _ (by exact atP) (by (repeat (first | (with_reducible assumption) | (with_reducible refine Cnt.drew ?_) | (with_reducible refine Cnt.drewN ?_))))).mono ?_); rintro e w3 ⟨rfl, hA3, hC3⟩))
  go_ret
  exact ⟨rfl, hA3, hC3⟩
theorem medAdj {a cb k : Nat} {w0 w : World} {d : Array Int} (hA : (row g rest).At w0 d w) (hn : d.size = n) (ha : 1 ≤ a) (ha2 : a + 1 < n) (hC : Cnt (row g rest) w0 w cb k) (hc : k < 1000) (big : n < 400000) :
    Calls Tryz.prog 312 #[.slice (some ⟨g, 0, none⟩) n c, .int .i64 a, .pointer (some ⟨cb, 0, none⟩)] w fun e w' => e = .returned (.int .i64 (medianAdjacent ltInt d a k).1) ∧ (row g rest).At w0 d w' ∧ Cnt (row g rest) w0 w' cb (medianAdjacent ltInt d a k).2 := by
  have hm := median (c := c) hA hn (a := a - 1) (b := a) (m := a + 1) (by omega) (by omega) ha2 hC hc big
  rw [show ((a - 1 : Nat) : Int) = (a : Int) - 1 by omega, show ((a + 1 : Nat) : Int) = (a : Int) + 1 by omega] at hm
  clear hA hC
  go_enter Tryz.func312, Tryz.ntmps312
  go_wp2_with (first | (go_at_call 313; refine hm.mono ?_; rintro e w1 ⟨rfl, hA1, hC1⟩))
  go_ret
  exact ⟨rfl, hA1, hC1⟩
set_option maxRecDepth 1000000 in
set_option maxHeartbeats 12800000 in
theorem pivot {a b : Nat} {w0 w : World} {d : Array Int} (hA : (row g rest).At w0 d w) (hn : d.size = n) (hab : a < b) (hb : b ≤ n) (big : n < 400000) :
    Calls Tryz.prog 301 #[.slice (some ⟨g, 0, none⟩) n c, .int .i64 a, .int .i64 b] w fun e w' => e = .returned (.tuple #[.int .i64 (choosePivot ltInt d a b).1, .int .i64 (hintCode (choosePivot ltInt d a b).2)]) ∧ (row g rest).At w0 d w' := by
  obtain ⟨hA0, hC0⟩ := Cnt.start hA
  have MA := fun (x k : Nat) (h1 : 1 ≤ x) (h2 : x + 1 < n) (hc : k < 1000) (w' : World) (hA : (row g rest).At w0 d w') (hC : Cnt (row g rest) w0 w' w.heap.size k) => medAdj (w0 := w0) (w := w') (d := d) (c := c) (cb := w.heap.size) hA hn h1 h2 hC hc big
  have MD := fun (x y z k : Nat) (hx : x < n) (hy : y < n) (hz : z < n) (hc : k < 1000) (w' : World) (hA : (row g rest).At w0 d w') (hC : Cnt (row g rest) w0 w' w.heap.size k) => median (w0 := w0) (w := w') (d := d) (c := c) (cb := w.heap.size) hA hn hx hy hz hC hc big
  rw [choosePivot_eq]
  obtain ⟨I, hI⟩ : ∃ I : Nat, I = a + (b - a) / 4 * 1 := ⟨_, rfl⟩
  obtain ⟨J, hJ⟩ : ∃ J : Nat, J = a + (b - a) / 4 * 2 := ⟨_, rfl⟩
  obtain ⟨K, hK⟩ : ∃ K : Nat, K = a + (b - a) / 4 * 3 := ⟨_, rfl⟩
  have eI : ((a : Int) + ((b : Int) - (a : Int)) / 4) = (I : Int) := by omega
  have eJ : ((a : Int) + ((b : Int) - (a : Int)) / 4 * 2) = (J : Int) := by omega
  have eK : ((a : Int) + ((b : Int) - (a : Int)) / 4 * 3) = (K : Int) := by omega
  by_cases h8 : b - a ≥ 8
  · by_cases h50 : b - a ≥ 50
    · obtain ⟨i1, s1, h1⟩ : ∃ i1 s1, medianAdjacent ltInt d I 0 = (i1, s1) := ⟨_, _, rfl⟩
      obtain ⟨j1, s2, h2⟩ : ∃ j1 s2, medianAdjacent ltInt d J s1 = (j1, s2) := ⟨_, _, rfl⟩
      obtain ⟨k1, s3, h3⟩ : ∃ k1 s3, medianAdjacent ltInt d K s2 = (k1, s3) := ⟨_, _, rfl⟩
      obtain ⟨p, q, h4⟩ : ∃ p q, Sort.median ltInt d i1 j1 k1 s3 = (p, q) := ⟨_, _, rfl⟩
      have hraw : rawPivot ltInt d a b = (p, q) := by simp only [rawPivot, if_pos h8, if_pos h50, ← hI, ← hJ, ← hK, h1, h2, h3, h4]
      have m1 := medianAdjacent_mem ltInt d I 0; rw [h1] at m1
      have m2 := medianAdjacent_mem ltInt d J s1; rw [h2] at m2
      have m3 := medianAdjacent_mem ltInt d K s2; rw [h3] at m3
      have n1 := medianAdjacent_count ltInt d I 0; rw [h1] at n1
      have n2 := medianAdjacent_count ltInt d J s1; rw [h2] at n2
      have n3 := medianAdjacent_count ltInt d K s2; rw [h3] at n3
      simp only [] at m1 m2 m3 n1 n2 n3
      have c1 := MA I 0 (by omega) (by omega) (by omega)
      have c2 := MA J s1 (by omega) (by omega) (by omega)
      have c3 := MA K s2 (by omega) (by omega) (by omega)
      have c4 := MD i1 j1 k1 s3 (by omega) (by omega) (by omega) (by omega)
      simp only [h1] at c1
      simp only [h2] at c2
      simp only [h3] at c3
      simp only [h4] at c4
      rw [hraw]
      obtain ⟨Hc, hHc⟩ : ∃ Hc : Int, Hc = hintCode (hintOf q) := ⟨_, rfl⟩
      have hh0 : q = 0 → Hc = 1 := fun h => by rw [hHc, h]; rfl
      have hh12 : q = 12 → Hc = 2 := fun h => by rw [hHc, h]; rfl
      have hhx : q ≠ 0 → q ≠ 12 → Hc = 0 := fun h1 h2 => by rw [hHc]; unfold hintOf; rw [if_neg h1, if_neg h2]; rfl
      show Calls _ _ _ w fun e w' => e = .returned (.tuple #[.int .i64 (p : Int), .int .i64 (hintCode (hintOf q))]) ∧ (row g rest).At w0 d w'
      rw [← hHc]
      clear hHc hraw
      clear h1 h2 h3 h4 MA MD hI hJ hK m1 m2 m3 hA
      go_enter Tryz.func301, Tryz.ntmps301
      go_wp2_with (first
        | (go_at_call 312; (with_reducible refine (c1 _ (by exact atP) (by (repeat (first | (with_reducible assumption) | (with_reducible refine Cnt.drew ?_) | (with_reducible refine Cnt.drewN ?_))))).mono ?_); rintro e w1 ⟨rfl, hA1, hC1⟩; have cc1 := hC1.1.cells)
        | (go_at_call 312; (with_reducible refine (c2 _ (by exact atP) (by (repeat (first | (with_reducible assumption) | (with_reducible refine Cnt.drew ?_) | (with_reducible refine Cnt.drewN ?_))))).mono ?_); rintro e w2 ⟨rfl, hA2, hC2⟩; have cc2 := hC2.1.cells)
        | (go_at_call 312; (with_reducible refine (c3 _ (by exact atP) (by (repeat (first | (with_reducible assumption) | (with_reducible refine Cnt.drew ?_) | (with_reducible refine Cnt.drewN ?_))))).mono ?_); rintro e w3 ⟨rfl, hA3, hC3⟩; have cc3 := hC3.1.cells)
        | (go_at_call 313; (with_reducible refine (c4 _ (by exact atP) (by (repeat (first | (with_reducible assumption) | (with_reducible refine Cnt.drew ?_) | (with_reducible refine Cnt.drewN ?_))))).mono ?_); rintro e w4 ⟨rfl, hA4, hC4⟩; have cc4 := hC4.1.cells))
      all_goals
        go_ret2
        refine ⟨?_, by exact atP⟩
        first
          | (have e0 : (q : Int) = 0 := of_beqZ (by assumption)
             rw [hh0 (by omega)]; rfl)
          | (have e1 : (q : Int) = 12 := of_beqZ (by assumption)
             rw [hh12 (by omega)]; rfl)
          | (have e0 : (q : Int) ≠ 0 := of_bneZ (by assumption)
             have e1 : (q : Int) ≠ 12 := of_bneZ (by assumption)
             rw [hhx (by omega) (by omega)]; rfl)
          | (rw [hh0 (by omega)]; rfl)
    · obtain ⟨p, q, h4⟩ : ∃ p q, Sort.median ltInt d I J K 0 = (p, q) := ⟨_, _, rfl⟩
      have hraw : rawPivot ltInt d a b = (p, q) := by simp only [rawPivot, if_pos h8, if_neg h50, ← hI, ← hJ, ← hK, h4]
      have c4 := MD I J K 0 (by omega) (by omega) (by omega) (by omega)
      simp only [h4] at c4
      rw [hraw]
      obtain ⟨Hc, hHc⟩ : ∃ Hc : Int, Hc = hintCode (hintOf q) := ⟨_, rfl⟩
      have hh0 : q = 0 → Hc = 1 := fun h => by rw [hHc, h]; rfl
      have hh12 : q = 12 → Hc = 2 := fun h => by rw [hHc, h]; rfl
      have hhx : q ≠ 0 → q ≠ 12 → Hc = 0 := fun h1 h2 => by rw [hHc]; unfold hintOf; rw [if_neg h1, if_neg h2]; rfl
      show Calls _ _ _ w fun e w' => e = .returned (.tuple #[.int .i64 (p : Int), .int .i64 (hintCode (hintOf q))]) ∧ (row g rest).At w0 d w'
      rw [← hHc]
      clear hHc hraw
      clear h4 MA MD hI hJ hK hA
      go_enter Tryz.func301, Tryz.ntmps301
      go_wp2_with (first | (go_at_call 313; (with_reducible refine (c4 _ (by exact atP) (by (repeat (first | (with_reducible assumption) | (with_reducible refine Cnt.drew ?_) | (with_reducible refine Cnt.drewN ?_))))).mono ?_); rintro e w4 ⟨rfl, hA4, hC4⟩; have cc4 := hC4.1.cells))
      all_goals
        go_ret2
        refine ⟨?_, by exact atP⟩
        first
          | (have e0 : (q : Int) = 0 := of_beqZ (by assumption)
             rw [hh0 (by omega)]; rfl)
          | (have e1 : (q : Int) = 12 := of_beqZ (by assumption)
             rw [hh12 (by omega)]; rfl)
          | (have e0 : (q : Int) ≠ 0 := of_bneZ (by assumption)
             have e1 : (q : Int) ≠ 12 := of_bneZ (by assumption)
             rw [hhx (by omega) (by omega)]; rfl)
          | (rw [hh0 (by omega)]; rfl)
  · obtain ⟨p, hp⟩ : ∃ p : Nat, p = J := ⟨_, rfl⟩
    obtain ⟨q, hs⟩ : ∃ q : Nat, q = 0 := ⟨_, rfl⟩
    have hraw : rawPivot ltInt d a b = (p, q) := by simp only [rawPivot, if_neg h8, ← hJ, hp, hs]
    rw [hraw]
    obtain ⟨Hc, hHc⟩ : ∃ Hc : Int, Hc = hintCode (hintOf q) := ⟨_, rfl⟩
    have hh0 : q = 0 → Hc = 1 := fun h => by rw [hHc, h]; rfl
    have hh12 : q = 12 → Hc = 2 := fun h => by rw [hHc, h]; rfl
    have hhx : q ≠ 0 → q ≠ 12 → Hc = 0 := fun h1 h2 => by rw [hHc]; unfold hintOf; rw [if_neg h1, if_neg h2]; rfl
    show Calls _ _ _ w fun e w' => e = .returned (.tuple #[.int .i64 (p : Int), .int .i64 (hintCode (hintOf q))]) ∧ (row g rest).At w0 d w'
    rw [← hHc]
    clear hHc hraw
    subst hp
    clear MA MD hI hJ hK hA hC0
    subst hs
    go_enter Tryz.func301, Tryz.ntmps301
    go_wp2
    all_goals
      go_ret2
      refine ⟨?_, by exact atP⟩
      first
        | rfl
        | (rw [hh0 (by trivial)]; rfl)
set_option maxRecDepth 1000000 in
set_option maxHeartbeats 12800000 in
theorem breakGo {a L : Nat} {w0 w : World} {d : Array Int} (hA : (row g rest).At w0 d w) (hn : d.size = n) (hb : a + L ≤ n) (h8 : 8 ≤ L) (big : n < 400000) (hLen : LenC) :
    Calls Tryz.prog 300 #[.slice (some ⟨g, 0, none⟩) n c, .int .i64 a, .int .i64 ((a + L : Nat) : Int)] w fun e w' => e = .returned (.tuple #[]) ∧ (row g rest).At w0 (breakPatterns d a (a + L)) w' := by
  rw [breakPatterns_eq d a L h8]
  obtain ⟨M, hM⟩ : ∃ M : Nat, M = 1 <<< bitsLen L := ⟨_, rfl⟩
  have hM1 : 1 ≤ M := by rw [hM, Nat.one_shiftLeft]; exact Nat.two_pow_pos _
  have hM2 : M ≤ 2 * L := by rw [hM, Nat.one_shiftLeft]; exact two_pow_bitsLen_le (by omega)
  have hNP : ∀ w, Calls Tryz.prog 208 #[.int .i64 (L : Int)] w fun e w' => e = .returned (.int .u64 (M : Int)) ∧ w' = w := by rw [hM]; exact fun w => nextPowS (by omega) w fun w => hLen L w (by omega)
  rw [← hM]
  clear hM
  have hLz : ((a : Int) + (L : Int) - (a : Int)) = (L : Int) := by omega
  have h8z : (8 : Int) ≤ (L : Int) := by omega
  have wrL : IntKind.u64.wrap (L : Int) = L := by simp [IntKind.wrap, IntKind.bits, IntKind.signed]; omega
  go_enter Tryz.func300, Tryz.ntmps300
  go_wp2_with (first | (go_at_call 208; refine (hNP _).mono ?_; rintro e w' ⟨rfl, rfl⟩))
  have hRo : w.heap.size ∉ (row g rest).own ∧ w0.heap.size ≤ w.heap.size := ⟨fun hm => Nat.lt_irrefl _ ((row g rest).lt hA.1 _ hm), hA.size⟩
  have hR0 : Blk (w.alloc (.cells #[.int .u64 (L : Int)] 356)) w.heap.size [.int .u64 (L : Int)] 356 (0, 0) := Blk.new (cs := [.int .u64 (L : Int)])
  have hA0 := hA.alloc (o := .cells #[.int .u64 (L : Int)] 356)
  clear hA
  generalize w.alloc (.cells #[.int .u64 (L : Int)] 356) = w1 at *
  generalize w.heap.size = R at *
  go_loopg [9] 3 (fun g1 vi wr => ∃ (t : Nat) (r : UInt64) (dk : Array Int), vi = .int .i64 ((a : Int) + (L : Int) / 4 * 2 - 1 + (t : Int)) ∧ t ≤ 3 ∧ 3 - t ≤ g1 ∧ dk.size = n ∧ (row g rest).At w0 dk wr ∧
      Blk wr R [.int .u64 (r.toNat : Int)] 356 (0, 0) ∧
      Hid (bpRest a L M (a + L / 4 * 2 - 1) (3 - t) t (r, dk) = bpRest a L M (a + L / 4 * 2 - 1) 3 0 (UInt64.ofNat L, d)))
  case atStart =>
    refine ⟨0, UInt64.ofNat L, d, by simp, by omega, by omega, hn, by exact atP, ?_, rfl⟩
    rw [show (UInt64.ofNat L).toNat = L from by simp; omega]
    exact hR0
  case round =>
    clear hA0 hR0
    obtain ⟨t, r, dk, rfl, ht, hg1, hds, hA1, hR1, HR⟩ := hrel
    by_cases ht3 : t < 3
    · have hle : (a : Int) + (L : Int) / 4 * 2 - 1 + (t : Int) ≤ (a : Int) + (L : Int) / 4 * 2 + 1 := by omega
      obtain ⟨Q, hRr⟩ : ∃ Q : Nat, Q = r.toNat := ⟨_, rfl⟩
      have lR : Q < 18446744073709551616 := by rw [hRr]; exact r.toNat_lt
      obtain ⟨Q', hR'⟩ : ∃ Q' : Nat, Q' = xorNextN Q := ⟨_, rfl⟩
      have lR' : Q' < 18446744073709551616 := by rw [hR']; exact xorNextN_lt Q lR
      obtain ⟨O, hO⟩ : ∃ O : Nat, O = Q' &&& (M - 1) := ⟨_, rfl⟩
      have lO : O ≤ M - 1 := by rw [hO]; exact Nat.and_le_right
      have eAnd : bits .and .u64 (Q' : Int) ((M : Int) - 1) = (O : Int) := by
        rw [show ((M : Int) - 1) = ((M - 1 : Nat) : Int) by omega, bits_and_u64_nat _ _ lR' (by omega), hO]
      rw [← hRr] at hR1
      have hNext := xorNextS hR1 lR
      rw [← hR'] at hNext
      have HN : Hid (Q' = (xorNext r).toNat ∧ O = (xorNext r).toNat &&& (M - 1)) := by
        have e : Q' = (xorNext r).toNat := by rw [hR', hRr, xorNext_toNat]
        exact ⟨e, by rw [hO, e]⟩
      clear hRr hR' hO hR1
      by_cases hLO : L ≤ O
      · have hLOz : (L : Int) ≤ (O : Int) := by omega
        obtain ⟨m, hm⟩ : ∃ m, m = a + (O - L) := ⟨_, rfl⟩
        obtain ⟨i1, hi1⟩ : ∃ i1, i1 = a + L / 4 * 2 - 1 + t := ⟨_, rfl⟩
        have mn : m < n := by omega
        have in1 : i1 < n := by omega
        have wM := wrk (z := (a : Int) + ((O : Int) - (L : Int))) m (by omega) (by omega)
        have wI : (a : Int) + (L : Int) / 4 * 2 - 1 + (t : Int) = (i1 : Int) := by omega
        have hsw : ∀ w2, (row g rest).At w0 dk w2 → ∃ x y v', w2.cell? ⟨g, i1, none⟩ = some (.int .u64 x) ∧ w2.cell? ⟨g, m, none⟩ = some (.int .u64 y) ∧ (∀ o, w2.frozen? ⟨g, o, none⟩ = false) ∧ (w2.setCell ⟨g, i1, none⟩ (.int .u64 y)).cell? ⟨g, m, none⟩ = some v' ∧
            (row g rest).At w0 (swp dk i1 m) ((w2.setCell ⟨g, i1, none⟩ (.int .u64 y)).setCell ⟨g, m, none⟩ (.int .u64 x)) := fun w2 hA => by
          obtain ⟨x, cx, hx⟩ := row_at hA hds in1
          obtain ⟨y, cy, hy⟩ := row_at hA hds mn
          obtain ⟨v', cw⟩ := row_st hA hds (i := i1) mn (.int .u64 y)
          exact ⟨x, y, v', cx, cy, row_free hA, cw, row_sw hA hds in1 mn hx hy⟩
        have HM : Hid (m = a + (O - L) ∧ i1 = a + L / 4 * 2 - 1 + t) := ⟨hm, hi1⟩
        have HI : Hid _ := wI
        clear hm hi1
        rw [wI]
        clear wI
        have hlei : (i1 : Int) ≤ (a : Int) + (L : Int) / 4 * 2 + 1 := by have := HI.out; omega
        clear hle
        go_wp2_with (first
          | go_at_call 209; refine hNext.mono ?_; rintro e w2 ⟨rfl, hR2, hF2⟩; have hA2 := hA1.fr hF2 (by simp; exact hRo); obtain ⟨x, y, v', cx, cy, fx, cw, sw⟩ := hsw _ hA2; clear hsw
          | (refine wre 10 oSortU64e1 ?_)
          | (with_reducible refine wEI ?_; (first | (refine wEN ?_; skip) | (refine wEF rfl (fun K hK => ?_); go_simp) | (refine wEL rfl rfl (fun K hK => ?_); go_simp) | (refine wER rfl (fun K hK => ?_); go_simp) | (refine wEM rfl (fun K hK => ?_); go_simp; try refine ⟨_, _, ⟨rfl, rfl⟩, ?_⟩) | (refine wEG rfl (fun K hK => ?_); go_simp) | (refine wEA rfl (fun K hK => ?_); go_simp))))
        go_roundg (3 - (t + 1))
        case measure => omega
        case rel =>
          obtain ⟨hm, hi1⟩ := HM.out
          refine ⟨t + 1, xorNext r, swp dk i1 m, by congr 1; push_cast; have := HI.out; omega, by omega, Nat.le_refl _, by rw [size_swp]; exact hds, by exact atP, ?_, (show Hid _ from ?_)⟩
          · rw [← HN.out.1]
            have hgR : g ≠ R := fun e => hRo.1 (by rw [← e]; simp [row])
            exact blkP
          · rw [← HR.out, bp_step a L M _ t r dk ((O - L)) ht3 (by rw [← HN.out.2, if_pos (by omega)]), hi1, hm]
            exact rfl
      · have hLOz : ¬ (L : Int) ≤ (O : Int) := by omega
        obtain ⟨m, hm⟩ : ∃ m, m = a + O := ⟨_, rfl⟩
        obtain ⟨i1, hi1⟩ : ∃ i1, i1 = a + L / 4 * 2 - 1 + t := ⟨_, rfl⟩
        have mn : m < n := by omega
        have in1 : i1 < n := by omega
        have wM := wrk (z := (a : Int) + (O : Int)) m (by omega) (by omega)
        have wI : (a : Int) + (L : Int) / 4 * 2 - 1 + (t : Int) = (i1 : Int) := by omega
        have hsw : ∀ w2, (row g rest).At w0 dk w2 → ∃ x y v', w2.cell? ⟨g, i1, none⟩ = some (.int .u64 x) ∧ w2.cell? ⟨g, m, none⟩ = some (.int .u64 y) ∧ (∀ o, w2.frozen? ⟨g, o, none⟩ = false) ∧ (w2.setCell ⟨g, i1, none⟩ (.int .u64 y)).cell? ⟨g, m, none⟩ = some v' ∧
            (row g rest).At w0 (swp dk i1 m) ((w2.setCell ⟨g, i1, none⟩ (.int .u64 y)).setCell ⟨g, m, none⟩ (.int .u64 x)) := fun w2 hA => by
          obtain ⟨x, cx, hx⟩ := row_at hA hds in1
          obtain ⟨y, cy, hy⟩ := row_at hA hds mn
          obtain ⟨v', cw⟩ := row_st hA hds (i := i1) mn (.int .u64 y)
          exact ⟨x, y, v', cx, cy, row_free hA, cw, row_sw hA hds in1 mn hx hy⟩
        have HM : Hid (m = a + O ∧ i1 = a + L / 4 * 2 - 1 + t) := ⟨hm, hi1⟩
        have HI : Hid _ := wI
        clear hm hi1
        rw [wI]
        clear wI
        have hlei : (i1 : Int) ≤ (a : Int) + (L : Int) / 4 * 2 + 1 := by have := HI.out; omega
        clear hle
        go_wp2_with (first
          | go_at_call 209; refine hNext.mono ?_; rintro e w2 ⟨rfl, hR2, hF2⟩; have hA2 := hA1.fr hF2 (by simp; exact hRo); obtain ⟨x, y, v', cx, cy, fx, cw, sw⟩ := hsw _ hA2; clear hsw
          | (refine wre 10 oSortU64e1 ?_)
          | (with_reducible refine wEI ?_; (first | (refine wEN ?_; skip) | (refine wEF rfl (fun K hK => ?_); go_simp) | (refine wEL rfl rfl (fun K hK => ?_); go_simp) | (refine wER rfl (fun K hK => ?_); go_simp) | (refine wEM rfl (fun K hK => ?_); go_simp; try refine ⟨_, _, ⟨rfl, rfl⟩, ?_⟩) | (refine wEG rfl (fun K hK => ?_); go_simp) | (refine wEA rfl (fun K hK => ?_); go_simp))))
        go_roundg (3 - (t + 1))
        case measure => omega
        case rel =>
          obtain ⟨hm, hi1⟩ := HM.out
          refine ⟨t + 1, xorNext r, swp dk i1 m, by congr 1; push_cast; have := HI.out; omega, by omega, Nat.le_refl _, by rw [size_swp]; exact hds, by exact atP, ?_, (show Hid _ from ?_)⟩
          · rw [← HN.out.1]
            have hgR : g ≠ R := fun e => hRo.1 (by rw [← e]; simp [row])
            exact blkP
          · rw [← HR.out, bp_step a L M _ t r dk (O) ht3 (by rw [← HN.out.2, if_neg (by omega)]), hi1, hm]
            exact rfl
    · obtain rfl : t = 3 := by omega
      have hle : ¬ ((a : Int) + (L : Int) / 4 * 2 - 1 + ((3 : Nat) : Int) ≤ (a : Int) + (L : Int) / 4 * 2 + 1) := by omega
      go_wp2
      go_end0
      refine ⟨rfl, ?_⟩
      rw [← HR.out]
      exact (by exact atP : (row g rest).At w0 dk _)
theorem breakP {a b : Nat} {w0 w : World} {d : Array Int} (hA : (row g rest).At w0 d w) (hn : d.size = n) (hab : a ≤ b) (hb : b ≤ n) (big : n < 400000) (hLen : LenC) :
    Calls Tryz.prog 300 #[.slice (some ⟨g, 0, none⟩) n c, .int .i64 a, .int .i64 b] w fun e w' => e = .returned (.tuple #[]) ∧ (row g rest).At w0 (breakPatterns d a b) w' := by
  obtain ⟨L, rfl⟩ : ∃ L, b = a + L := ⟨b - a, by omega⟩
  by_cases h8 : 8 ≤ L
  · exact breakGo hA hn hb h8 big hLen
  · have hv : breakPatterns d a (a + L) = d := by unfold breakPatterns; simp only [Nat.add_sub_cancel_left]; rw [if_neg h8]
    rw [hv]
    have hLz : ((a : Int) + (L : Int) - (a : Int)) = (L : Int) := by omega
    have h8z : ¬ (8 : Int) ≤ (L : Int) := by omega
    clear hv
    go_enter Tryz.func300, Tryz.ntmps300
    go_wp2
    go_end0
    exact ⟨rfl, by exact atP⟩
end Go.Proofs.Wx.U64
