import Derived.Test.YtgbfgjhndkkncaaGreatDoorM16
import Derived.Test.YtgbfgjhndkkncaaGreatDoorM23
import Derived.Test.YtgbfgjhndkkncaaGreatDoorM24
import Derived.Test.YtgbfgjhndkkncaaGreatDoorM25
set_option maxRecDepth 100000
set_option maxHeartbeats 1000000
set_option linter.unusedVariables false
set_option linter.unusedSimpArgs false
set_option linter.deprecated false
namespace Go.Proofs.Wx.U64
open Go Go.RowKit Go.Sort
abbrev oSortU64f0 : List (Nat × Cls) := [(0,.free),(1,.free),(2,.free),(3,.free),(4,.free),(5,.free),(6,.free),(7,.look),(8,.free),(9,.free),(10,.free),(11,.look),(12,.act),(13,.free),(14,.free)]
variable {g n c : Nat} {rest : List Value}
set_option maxHeartbeats 12800000 in
set_option maxRecDepth 1000000 in
theorem pdq (big : n < 400000) (hLen : LenC) {w0 : World} : ∀ (N a b limit : Nat) (d : Array Int) (w : World), b - a < N → (row g rest).At w0 d w → d.size = n → a ≤ b → b ≤ n → limit < 4611686018427387904 → Below ltInt a b d →
    Calls Tryz.prog 287 #[.slice (some ⟨g, 0, none⟩) n c, .int .i64 a, .int .i64 b, .int .i64 limit] w fun e w' => e = .returned (.tuple #[]) ∧ (row g rest).At w0 (Sort.pdq ltInt d a b limit true true) w' := by
  intro N
  induction N with
  | zero => intro _ _ _ _ _ h; exact absurd h (Nat.not_lt_zero _)
  | succ N ih =>
    intro a b limit d w hN hA hn hab hb hlimit hBel0
    go_enter Tryz.func287, Tryz.ntmps287
    go_wp2
    go_loopg [1, 2, 3, 8, 9] (b - a) (fun k s1 s2 s3 s8 s9 wr => ∃ (a' b' lim : Nat) (wb wp : Bool) (dk : Array Int), s1 = .int .i64 a' ∧ s2 = .int .i64 b' ∧ s3 = .int .i64 lim ∧ s8 = .bool wb ∧ s9 = .bool wp ∧
      a' ≤ b' ∧ b' ≤ n ∧ b' - a' ≤ k ∧ k ≤ b - a ∧ lim ≤ limit ∧ dk.size = n ∧ Below ltInt a' b' dk ∧ (row g rest).At w0 dk wr ∧ Hid (Sort.pdq ltInt dk a' b' lim wb wp = Sort.pdq ltInt d a b limit true true))
    case atStart => exact ⟨a, b, limit, true, true, d, rfl, rfl, rfl, rfl, rfl, hab, hb, Nat.le_refl _, Nat.le_refl _, Nat.le_refl _, hn, hBel0, hA, rfl⟩
    case round =>
      clear hA
      obtain ⟨a', b', lim, wb, wp, dk, rfl, rfl, rfl, rfl, rfl, hab', hb', hk, hkN, hlim, hds, hBel, hAt, A⟩ := hrel
      by_cases h12 : b' - a' ≤ 12
      · have h12z : (b' : Int) - (a' : Int) ≤ 12 := by omega
        have hc := insSort (c := c) hAt hds hab' hb' (by omega)
        go_wp2_with (first | (go_at_call 298; refine hc.mono ?_; rintro e w1 ⟨rfl, hA1⟩))
        (try simp only [Exit.inBlock, Exit.then]); refine bodyPost_ret (results_none rfl _ _ _) rfl ?_
        refine ⟨rfl, ?_⟩
        rw [← A.out, pdq_small h12]
        exact (by exact atP : (row g rest).At w0 _ _)
      · have h12z : ¬ ((b' : Int) - (a' : Int) ≤ 12) := by omega
        by_cases hl0 : lim = 0
        · subst hl0
          have hc := heapSort (c := c) hAt hds hab' hb' big
          go_wp2_with (first | (go_at_call 299; refine hc.mono ?_; rintro e w1 ⟨rfl, hA1⟩))
          (try simp only [Exit.inBlock, Exit.then]); refine bodyPost_ret (results_none rfl _ _ _) rfl ?_
          refine ⟨rfl, ?_⟩
          rw [← A.out, pdq_heap h12 rfl]
          exact (by exact atP : (row g rest).At w0 _ _)
        · have hl0z : ¬ ((lim : Int) = 0) := by omega
          obtain ⟨s1, B1, hc1, s2, B2, hpv, s3, B3⟩ := rd_facts (lt := ltInt) (limit := lim) (wb := wb) (wp := wp) swo_ltInt partialInsertionSort_holds reverseRange_holds (show a' < b' by omega) (show b' ≤ dk.size by omega) hBel
          go_upto_if 35 with fail
          go_cut [3] from 19 (fun s3 wc => s3 = .int .i64 (rd ltInt dk a' b' lim wb wp).lim ∧ (row g rest).At w0 (rd ltInt dk a' b' lim wb wp).d1 wc)
          case first =>
            cases wb
            · have hc := breakP (c := c) hAt hds hab' hb' big hLen
              go_wp2_with (first | (go_at_call 300; refine hc.mono ?_; rintro e w1 ⟨rfl, hA1⟩))
              go_meet
              case rel =>
                refine ⟨?_, hA1⟩
                show Value.int .i64 ((lim : Int) - 1) = Value.int .i64 ((lim - 1 : Nat) : Int)
                congr 1
                omega
            · go_wp2_with fail
              go_meet
              case rel => exact ⟨rfl, hAt⟩
          case rest =>
            obtain ⟨rfl, hAt1⟩ := hcut
            have hc17 := pivot (c := c) (a := a') (b := b') hAt1 (s1.trans hds) (by omega) hb' big
            have hc17' : Calls Tryz.prog 301 #[.slice (some ⟨g, 0, none⟩) n c, .int .i64 a', .int .i64 b'] wc fun e w' => e = .returned (.tuple #[.int .i64 (rd ltInt dk a' b' lim wb wp).c.1, .int .i64 (hintCode (rd ltInt dk a' b' lim wb wp).c.2)]) ∧ (row g rest).At w0 (rd ltInt dk a' b' lim wb wp).d1 w' := hc17
            clear hc17
            go_upto_if 50 with (first | (go_at_call 301; refine hc17'.mono ?_; rintro e w2 ⟨rfl, hAt2⟩))
            clear hAt1 hAt
            go_cut [11, 12] from 19 (fun s11 s12 wc => s11 = .int .i64 (rd ltInt dk a' b' lim wb wp).pivot ∧ s12 = .int .i64 (hintCode (rd ltInt dk a' b' lim wb wp).hint) ∧ (row g rest).At w0 (rd ltInt dk a' b' lim wb wp).d2 wc)
            case first =>
              by_cases hh : (rd ltInt dk a' b' lim wb wp).c.2 = .decreasing
              · have hcode : hintCode (rd ltInt dk a' b' lim wb wp).c.2 = 2 := by rw [hh]; rfl
                obtain ⟨e2, epv, eht⟩ := rd_dec hh
                have hc18 := reverse (c := c) hAt2 (s1.trans hds) hab' hb' (by omega)
                go_wp2_with (first | (go_at_call 302; refine hc18.mono ?_; rintro e w3 ⟨rfl, hAt3⟩))
                go_meet
                case rel =>
                  refine ⟨?_, by rw [eht]; rfl, by rw [e2]; exact hAt3⟩
                  rw [epv]
                  congr 1
                  omega
              · have hcode : ¬ (hintCode (rd ltInt dk a' b' lim wb wp).c.2 = 2) := fun h => hh (hintCode_two h)
                obtain ⟨e2, epv, eht⟩ := rd_not hh
                go_wp2_with fail
                go_meet
                case rel => exact ⟨by rw [epv], by rw [eht], by rw [e2]; exact hAt2⟩
            case rest =>
              clear hAt2
              obtain ⟨rfl, rfl, hAt3⟩ := hcut
              go_upto_region 15 with fail
              go_cut [12, 68] from 19 (fun s12 s68 wx => s12 = .int .i64 (hintCode (rd ltInt dk a' b' lim wb wp).hint) ∧ s68 = .bool (wb && wp && decide ((rd ltInt dk a' b' lim wb wp).hint = .increasing)) ∧ wx = wc)
              case first =>
                cases wb <;> cases wp <;> cases hh3 : (rd ltInt dk a' b' lim _ _).hint <;>
                  (have hcode3 := congrArg hintCode hh3
                   simp only [hintCode] at hcode3
                   go_wp2_with fail
                   go_meet
                   exact ⟨by simp [hh3, hintCode], by simp [hh3, hintCode], rfl⟩)
              case rest =>
                obtain ⟨rfl, rfl, rfl⟩ := hcut
                go_upto_if 68 with fail
                go_cut [] from 19 (fun wx => (rd ltInt dk a' b' lim wb wp).pi.2 = false ∧ (row g rest).At w0 (rd ltInt dk a' b' lim wb wp).pi.1 wx)
                case first =>
                  cases h68 : (wb && wp && decide ((rd ltInt dk a' b' lim wb wp).hint = .increasing))
                  · have epi := rd_pi_no h68
                    go_wp2_with fail
                    go_meet
                    case rel => exact ⟨by rw [epi], by rw [epi]; exact hAt3⟩
                  · have epi := rd_pi_yes h68
                    have hc19 := partIns (c := c) hAt3 (s2.trans hds) (a := a') (b := b') (by omega) hb' big
                    rw [← epi] at hc19
                    go_wp2_with (first | (go_at_call 303; refine hc19.mono ?_; rintro e w4 ⟨rfl, hA4⟩))
                    all_goals first
                      | (have hp2 : (rd ltInt dk a' b' lim wb wp).pi.2 = false := by rw [epi]; assumption
                         go_meet
                         exact ⟨hp2, hA4⟩)
                      | (have hp2 : (rd ltInt dk a' b' lim wb wp).pi.2 = true := by rw [epi]; assumption
                         (try simp only [Exit.inBlock, Exit.then]); refine bodyPost_ret (results_none rfl _ _ _) rfl ?_
                         refine ⟨rfl, ?_⟩
                         rw [← A.out, pdq_done h12 hl0 hp2]
                         exact hA4)
                case rest =>
                  clear hAt3
                  obtain ⟨hp2, hAt5⟩ := hcut
                  go_upto_region 17 with fail
                  go_cut [87] from 19 (fun s87 wx => s87 = .bool (decide (a' > 0) && !ltInt (rd ltInt dk a' b' lim wb wp).pi.1[a' - 1]! (rd ltInt dk a' b' lim wb wp).pi.1[(rd ltInt dk a' b' lim wb wp).pivot]!) ∧ (row g rest).At w0 (rd ltInt dk a' b' lim wb wp).pi.1 wx)
                  case first =>
                    rcases Nat.eq_zero_or_pos a' with ha0 | ha0
                    · have ha0z : decide ((a' : Int) > 0) = false := decide_eq_false (by omega)
                      have ha1 : ¬ (0 : Int) < (a' : Int) := by omega
                      have ha2 : ¬ 0 < a' := by omega
                      have HA0 := Lib.hid ha0
                      clear ha0
                      go_wp2_with (first
                        | go_at_call 304; (with_reducible refine (lessU _ _ _).mono ?_); rintro e w9 ⟨rfl, rfl⟩
                        | (refine wre 17 oSortU64f0 ?_)
                        | (with_reducible refine wEI ?_; (first | (refine wEN ?_; skip) | (refine wEF rfl (fun K hK => ?_); go_simp) | (refine wEL rfl rfl (fun K hK => ?_); go_simp) | (refine wER rfl (fun K hK => ?_); go_simp) | (refine wEM rfl (fun K hK => ?_); go_simp; try refine ⟨_, _, ⟨rfl, rfl⟩, ?_⟩) | (refine wEG rfl (fun K hK => ?_); go_simp) | (refine wEA rfl (fun K hK => ?_); go_simp))))
                      go_meet
                      case rel => exact ⟨by simp [HA0.out], by exact atP⟩
                    · have ha0z : (a' : Int) > 0 := by omega
                      obtain ⟨pv, hpvE⟩ : ∃ pv, pv = (rd ltInt dk a' b' lim wb wp).pivot := ⟨_, rfl⟩
                      have pvn : pv < n := by omega
                      have an1 : a' - 1 < n := by omega
                      obtain ⟨x, cx, hx⟩ := row_at hAt5 (s3.trans hds) an1
                      obtain ⟨y, cy, hy⟩ := row_at hAt5 (s3.trans hds) pvn
                      have wj := wrk (z := (a' : Int) - 1) (a' - 1) (by omega) (by omega)
                      rw [← hpvE]
                      have HP : Hid (pv = (rd ltInt dk a' b' lim wb wp).pivot) := hpvE
                      clear hpvE
                      by_cases hlv : x < y
                      · have hl := ltT hx hy hlv
                        go_wp2_with (first
                          | go_at_call 304; (with_reducible refine (lessU _ _ _).mono ?_); rintro e w9 ⟨rfl, rfl⟩
                          | (refine wre 17 oSortU64f0 ?_)
                          | (with_reducible refine wEI ?_; (first | (refine wEN ?_; skip) | (refine wEF rfl (fun K hK => ?_); go_simp) | (refine wEL rfl rfl (fun K hK => ?_); go_simp) | (refine wER rfl (fun K hK => ?_); go_simp) | (refine wEM rfl (fun K hK => ?_); go_simp; try refine ⟨_, _, ⟨rfl, rfl⟩, ?_⟩) | (refine wEG rfl (fun K hK => ?_); go_simp) | (refine wEA rfl (fun K hK => ?_); go_simp))))
                        have hpE := HP.out
                        subst hpE
                        go_meet
                        exact ⟨by simp [ha0, hl], by exact atP⟩
                      · have hl := ltF hx hy hlv
                        have dg := decide_eq_false hlv
                        go_wp2_with (first
                          | go_at_call 304; (with_reducible refine (lessU _ _ _).mono ?_); rintro e w9 ⟨rfl, rfl⟩
                          | (refine wre 17 oSortU64f0 ?_)
                          | (with_reducible refine wEI ?_; (first | (refine wEN ?_; skip) | (refine wEF rfl (fun K hK => ?_); go_simp) | (refine wEL rfl rfl (fun K hK => ?_); go_simp) | (refine wER rfl (fun K hK => ?_); go_simp) | (refine wEM rfl (fun K hK => ?_); go_simp; try refine ⟨_, _, ⟨rfl, rfl⟩, ?_⟩) | (refine wEG rfl (fun K hK => ?_); go_simp) | (refine wEA rfl (fun K hK => ?_); go_simp))))
                        have hpE := HP.out
                        subst hpE
                        go_meet
                        exact ⟨by simp [ha0, hl], by exact atP⟩
                  case rest =>
                    clear hAt5
                    obtain ⟨rfl, hAt6⟩ := hcut
                    cases h87 : (decide (a' > 0) && !ltInt (rd ltInt dk a' b' lim wb wp).pi.1[a' - 1]! (rd ltInt dk a' b' lim wb wp).pi.1[(rd ltInt dk a' b' lim wb wp).pivot]!)
                    · obtain ⟨mid, ap, d4, hx⟩ : ∃ mid ap d4, Sort.partition ltInt (rd ltInt dk a' b' lim wb wp).pi.1 a' b' (rd ltInt dk a' b' lim wb wp).pivot = (mid, ap, d4) := ⟨(Sort.partition ltInt (rd ltInt dk a' b' lim wb wp).pi.1 a' b' (rd ltInt dk a' b' lim wb wp).pivot).1, (Sort.partition ltInt (rd ltInt dk a' b' lim wb wp).pi.1 a' b' (rd ltInt dk a' b' lim wb wp).pivot).2.1, (Sort.partition ltInt (rd ltInt dk a' b' lim wb wp).pi.1 a' b' (rd ltInt dk a' b' lim wb wp).pivot).2.2, rfl⟩
                      obtain ⟨r1, r2, r3, r4, r5, r6, r7⟩ := round_part swo_ltInt (partition_holds ltInt) hpv.1 hpv.2 (show b' ≤ (rd ltInt dk a' b' lim wb wp).pi.1.size by omega) B3 hx
                      have hc22 := part (c := c) hAt6 (s3.trans hds) hpv.1 hpv.2 hb' big
                      rw [hx] at hc22
                      have X : Aside (Sort.partition ltInt (rd ltInt dk a' b' lim wb wp).pi.1 a' b' (rd ltInt dk a' b' lim wb wp).pivot = (mid, ap, d4)) := hx
                      clear hx
                      go_upto_if 113 with (first | (go_at_call 306; refine hc22.mono ?_; rintro e w7 ⟨rfl, hAt7⟩))
                      have hx := X.out
                      have hs4 : d4.size = n := r3.trans (s3.trans hds)
                      clear hAt6
                      by_cases h4 : mid - a' < b' - mid
                      · have h4z : (mid : Int) - (a' : Int) < (b' : Int) - (mid : Int) := by omega
                        have hih := ih a' mid (rd ltInt dk a' b' lim wb wp).lim d4 w7 (by omega) hAt7 hs4 (by omega) (by omega) (Nat.lt_of_le_of_lt (Nat.le_trans rd_lim_le hlim) hlimit) r4
                        obtain ⟨pL, sL⟩ := pdq_sorts ltInt swo_ltInt d4 a' mid (rd ltInt dk a' b' lim wb wp).lim true true (by omega) (by omega) r4
                        go_wp2_with (first | (go_at_call 287; refine hih.mono ?_; rintro e w8 ⟨rfl, hAt8⟩))
                        go_roundg (b' - (mid + 1))
                        case measure => omega
                        case rel =>
                          refine ⟨mid + 1, b', (rd ltInt dk a' b' lim wb wp).lim, decide (mid - a' ≥ (b' - a') / 8), ap, Sort.pdq ltInt d4 a' mid (rd ltInt dk a' b' lim wb wp).lim true true, by simp, rfl, rfl, ?_, rfl, by omega, by omega, Nat.le_refl _, by omega, Nat.le_trans rd_lim_le hlim, by rw [pL.1, hs4], (r6 _ pL sL).1, hAt8, ?_⟩
                          · exact congrArg Value.bool (eighth (by omega) (by omega))
                          · show _ = _
                            rw [← A.out, pdq_left h12 hl0 hp2 h87 (by rw [hx]; exact ⟨r1, r2⟩) (by rw [hx]; exact h4), hx]
                      · have h4z : ¬ ((mid : Int) - (a' : Int) < (b' : Int) - (mid : Int)) := by omega
                        have hih := ih (mid + 1) b' (rd ltInt dk a' b' lim wb wp).lim d4 w7 (by omega) hAt7 hs4 (by omega) (by omega) (Nat.lt_of_le_of_lt (Nat.le_trans rd_lim_le hlim) hlimit) r5
                        rw [show ((mid + 1 : Nat) : Int) = (mid : Int) + 1 by omega] at hih
                        obtain ⟨pL, sL⟩ := pdq_sorts ltInt swo_ltInt d4 (mid + 1) b' (rd ltInt dk a' b' lim wb wp).lim true true (by omega) (by omega) r5
                        go_wp2_with (first | (go_at_call 287; refine hih.mono ?_; rintro e w8 ⟨rfl, hAt8⟩))
                        go_roundg (mid - a')
                        case measure => omega
                        case rel =>
                          refine ⟨a', mid, (rd ltInt dk a' b' lim wb wp).lim, decide (b' - mid ≥ (b' - a') / 8), ap, Sort.pdq ltInt d4 (mid + 1) b' (rd ltInt dk a' b' lim wb wp).lim true true, rfl, rfl, rfl, ?_, rfl, by omega, by omega, Nat.le_refl _, by omega, Nat.le_trans rd_lim_le hlim, by rw [pL.1, hs4], (r7 _ pL sL).1, hAt8, ?_⟩
                          · exact congrArg Value.bool (eighth (by omega) (by omega))
                          · show _ = _
                            rw [← A.out, pdq_right h12 hl0 hp2 h87 (by rw [hx]; exact ⟨r1, r2⟩) (by rw [hx]; exact h4), hx]
                    · have h87' := h87
                      simp only [Bool.and_eq_true, decide_eq_true_eq, Bool.not_eq_true'] at h87'
                      obtain ⟨mid, d4, hx⟩ : ∃ mid d4, Sort.partitionEqual ltInt (rd ltInt dk a' b' lim wb wp).pi.1 a' b' (rd ltInt dk a' b' lim wb wp).pivot = (mid, d4) := ⟨(Sort.partitionEqual ltInt (rd ltInt dk a' b' lim wb wp).pi.1 a' b' (rd ltInt dk a' b' lim wb wp).pivot).1, (Sort.partitionEqual ltInt (rd ltInt dk a' b' lim wb wp).pi.1 a' b' (rd ltInt dk a' b' lim wb wp).pivot).2, rfl⟩
                      obtain ⟨r1, r2, r3, r4, _⟩ := round_eq swo_ltInt (partitionEqual_holds ltInt) h87'.1 hpv.1 hpv.2 (show b' ≤ (rd ltInt dk a' b' lim wb wp).pi.1.size by omega) B3 h87'.2 hx
                      have hc21 := partEq (c := c) hAt6 (s3.trans hds) hpv.1 hpv.2 hb' big
                      rw [hx] at hc21
                      have X : Aside (Sort.partitionEqual ltInt (rd ltInt dk a' b' lim wb wp).pi.1 a' b' (rd ltInt dk a' b' lim wb wp).pivot = (mid, d4)) := hx
                      clear hx
                      go_wp2_with (first | (go_at_call 305; refine hc21.mono ?_; rintro e w7 ⟨rfl, hAt7⟩))
                      go_roundg (b' - mid)
                      case measure => omega
                      case rel =>
                        have hx := X.out
                        exact ⟨mid, b', (rd ltInt dk a' b' lim wb wp).lim, wb, wp, d4, rfl, rfl, rfl, rfl, rfl, r2, hb', Nat.le_refl _, by omega, Nat.le_trans rd_lim_le hlim, by rw [r3, s3, hds], r4, hAt7, (show Hid _ from by rw [← A.out, pdq_eq h12 hl0 hp2 h87 (by rw [hx]; exact ⟨r1, r2⟩), hx]; exact rfl)⟩
set_option maxRecDepth 1000000 in
set_option maxHeartbeats 12800000 in
theorem sortU {w : World} {d : Array Int} (hLen : LenC) (hS : (row g rest).S d w) (hn : d.size = n) (big : n < 400000) :
    Calls Tryz.prog 282 #[.slice (some ⟨g, 0, none⟩) n c] w fun e w' => e = .returned (.tuple #[]) ∧ ∃ d', (row g rest).S d' w' ∧ Fr [g] w w' ∧ PermIn 0 n d d' ∧ SortedIn ltInt 0 n d' := by
  have wr : IntKind.u64.wrap (n : Int) = n := by simp [IntKind.wrap, IntKind.bits, IntKind.signed]; omega
  have hA := St.At.start hS
  have hlim : bitsLen n < 4611686018427387904 := Nat.lt_of_le_of_lt ((bitsLen_le_iff n 62).2 (by omega)) (by omega)
  have hp : ∀ w1, (row g rest).At w d w1 → Calls Tryz.prog 287 #[.slice (some ⟨g, 0, none⟩) n c, .int .i64 0, .int .i64 n, .int .i64 (bitsLen n : Nat)] w1 fun e w' => e = .returned (.tuple #[]) ∧ (row g rest).At w (Sort.pdq ltInt d 0 n (bitsLen n) true true) w' := fun w1 h =>
    pdq big hLen (n + 1) 0 n (bitsLen n) d w1 (by omega) h hn (Nat.zero_le _) (Nat.le_refl _) hlim (Or.inl rfl)
  have hb := fun w => hLen n w (by omega)
  go_enter Tryz.func282, Tryz.ntmps282
  go_wp2_with (first
    | (go_at_call 119; refine (hb _).mono ?_; rintro e w2 ⟨rfl, rfl⟩)
    | (go_at_call 287; refine (hp _ (by exact atP)).mono ?_; rintro e w3 ⟨rfl, hA3⟩))
  go_end0
  obtain ⟨p1, p2⟩ := pdq_sorts ltInt swo_ltInt d 0 n (bitsLen n) true true (Nat.zero_le _) (by omega) (Or.inl rfl)
  exact ⟨rfl, _, hA3.1, hA3.2, p1, p2⟩
end Go.Proofs.Wx.U64

namespace Go.Proofs.Wx.U32
open Go Go.RowKit Go.Sort
abbrev oSortU320 : List (Nat × Cls) := [(0,.free),(1,.free),(2,.free),(3,.free),(4,.free),(5,.free),(6,.free),(7,.look),(8,.free),(9,.free),(10,.free),(11,.free),(12,.look),(13,.act),(14,.free)]
abbrev oSortU321 : List (Nat × Cls) := [(0,.free),(1,.free),(2,.free),(3,.free),(4,.free),(5,.free),(6,.free),(7,.free),(8,.free),(9,.look),(10,.free),(11,.free),(12,.free),(13,.look),(14,.free),(15,.act),(16,.free),(17,.act)]
/-- The row at block g: numbers, and what lies behind them. -/
def row (g : Nat) (rest : List Value) : St Int where
  S d w := Blk w g (d.toList.map (Value.int .u32) ++ rest) 176 (0, 0)
  own := [g]
  fr := fun h hf hX => hf.blk h fun hm => hX _ hm (by simp)
  lt := fun h k hk => by simp at hk; subst hk; exact h.lt
section
variable {g n : Nat} {rest : List Value} {d : Array Int} {w0 w : World} {x y : Int}
theorem row_at (h : (row g rest).At w0 d w) (hn : d.size = n) {i : Nat} (hi : i < n) : ∃ x, w.cell? ⟨g, i, none⟩ = some (.int .u32 x) ∧ Hid (x = d[i]!) := by
  have h1 := Blk.cells h.1 i
  refine ⟨d[i]!, ?_, rfl⟩
  rw [h1, List.getElem?_append_left (by simp; omega)]
  have : i < d.size := by omega
  simp [this]
theorem row_free (h : (row g rest).At w0 d w) (i : Nat) : w.frozen? ⟨g, i, none⟩ = false := Blk.free h.1 i
theorem row_sw (h : (row g rest).At w0 d w) (hn : d.size = n) {i j : Nat} (hi : i < n) (hj : j < n) (hx : Hid (x = d[i]!)) (hy : Hid (y = d[j]!)) :
    (row g rest).At w0 (swp d i j) ((w.setCell ⟨g, i, none⟩ (.int .u32 y)).setCell ⟨g, j, none⟩ (.int .u32 x)) := by
  rw [hx.out, hy.out]
  refine h.swap ?_ (Fr.setCell (.inl (by simp [row])) (Fr.setCell (.inl (by simp [row])) Fr.refl))
  refine Blk.conv (Blk.set (Blk.set h.1)) ?_
  unfold swp
  rw [List.set_append_left _ _ (by simp; omega), List.set_append_left _ _ (by simp; omega)]
  congr 1
  simp [List.map_set]
theorem row_st (h : (row g rest).At w0 d w) (hn : d.size = n) {i j : Nat} (hj : j < n) (u : Value) : ∃ v, (w.setCell ⟨g, i, none⟩ u).cell? ⟨g, j, none⟩ = some v := by
  obtain ⟨x, hx, _⟩ := row_at h hn hj
  exact cell?_setCell_some hx
theorem ltT {a b : Int} (hx : Hid (x = a)) (hy : Hid (y = b)) (h : x < y) : ltInt a b = true := by rw [← hx.out, ← hy.out]; exact decide_eq_true h
theorem ltF {a b : Int} (hx : Hid (x = a)) (hy : Hid (y = b)) (h : ¬ x < y) : ltInt a b = false := by rw [← hx.out, ← hy.out]; exact decide_eq_false h
theorem wrk {z : Int} (k : Nat) (hz : z = (k : Int)) (hk : k < 1000000) : IntKind.i64.wrap z = (k : Int) := by rw [IntWalk.i64_in _ (by omega)]; exact hz
end
theorem lessU (x y : Int) (w : World) : Calls Tryz.prog 321 #[.int .u32 x, .int .u32 y] w fun e w' => e = .returned (.bool (decide (x < y))) ∧ w' = w := by
  have hN : ∀ z w, Calls Tryz.prog 329 #[.int .u32 z] w fun e w' => e = .returned (.bool false) ∧ w' = w := fun z w => by
    go_enter Tryz.func329, Tryz.ntmps329
    go_wp2
    go_ret
    exact ⟨by simp, rfl⟩
  go_enter Tryz.func321, Tryz.ntmps321
  go_wp2_with (first | (go_at_call 329; refine (hN _ _).mono ?_; rintro e w' ⟨rfl, rfl⟩))
  go_ret
  exact ⟨rfl, rfl⟩
variable {g n c : Nat} {rest : List Value}
theorem insSort {a b : Nat} {w0 w : World} {d : Array Int} (hA : (row g rest).At w0 d w) (hn : d.size = n) (hab : a ≤ b) (hb : b ≤ n) (big : n < 1000000) :
    Calls Tryz.prog 315 #[.slice (some ⟨g, 0, none⟩) n c, .int .i64 a, .int .i64 b] w fun e w' => e = .returned (.tuple #[]) ∧ (row g rest).At w0 (Sort.insertionSort ltInt d a b) w' := by
  go_enter Tryz.func315, Tryz.ntmps315
  go_wp2
  go_loopw [6] (fun vi wr => ∃ (i : Nat) (dk : Array Int), vi = .int .i64 i ∧ a < i ∧ i ≤ b + 1 ∧ dk.size = n ∧ (row g rest).At w0 dk wr ∧ Hid (insOuter ltInt a b i dk = insOuter ltInt a b (a + 1) d)) (fun vi _ => b + 1 - (intOf vi).toNat)
  case atStart => exact ⟨a + 1, d, by go_num, by omega, by omega, hn, hA, rfl⟩
  case round =>
    obtain ⟨i, dk, rfl, hai, hib, hsk, hA1, HO⟩ := hrel
    by_cases hlt : i < b
    · go_wp2
      go_loopw [7] (fun vj wr2 => ∃ (j : Nat) (dj : Array Int), vj = .int .i64 j ∧ a ≤ j ∧ j ≤ i ∧ dj.size = n ∧ (row g rest).At w0 dj wr2 ∧ Hid (insInner ltInt a j dj = insInner ltInt a i dk)) (fun vj _ => (intOf vj).toNat)
      case atStart => exact ⟨i, dk, rfl, by omega, Nat.le_refl _, hsk, hA1, rfl⟩
      case round =>
        clear hA1
        obtain ⟨j, dj, rfl, haj, hji, hsj, hA2, HI⟩ := hrel
        by_cases hja : a < j
        · obtain ⟨x, cx, hx⟩ := row_at hA2 hsj (i := j) (by omega)
          obtain ⟨y, cy, hy⟩ := row_at hA2 hsj (i := j - 1) (by omega)
          have fx := row_free hA2
          have j1 : j < n := by omega
          have j2 : j - 1 < n := by omega
          have wj := wrk (z := (j : Int) - 1) (j - 1) (by omega) (by omega)
          have sw := row_sw hA2 hsj (i := j) (j := j - 1) (by omega) (by omega) hx hy
          by_cases hlv : x < y
          · have hl := Lib.hid (ltT hx hy hlv)
            go_wp2_with (first
              | go_at_call 321; with_reducible refine (lessU _ _ _).mono ?_; rintro e w9 ⟨rfl, rfl⟩
              | (refine wre 4 oSortU320 ?_)
              | (refine wre 6 oSortU321 ?_)
              | (with_reducible refine wEI ?_; (first | (refine wEN ?_; skip) | (refine wEF rfl (fun K hK => ?_); go_simp) | (refine wEL rfl rfl (fun K hK => ?_); go_simp) | (refine wER rfl (fun K hK => ?_); go_simp) | (refine wEM rfl (fun K hK => ?_); go_simp; try refine ⟨_, _, ⟨rfl, rfl⟩, ?_⟩) | (refine wEG rfl (fun K hK => ?_); go_simp) | (refine wEA rfl (fun K hK => ?_); go_simp))))
            go_roundw
            case rel => exact ⟨j - 1, swp dj j (j - 1), rfl, by omega, by omega, by rw [size_swp]; exact hsj, by exact atP, (show Hid _ from by rw [← HI.out, insInner_go ltInt a j dj hja hl.out]; exact rfl)⟩
            case measure => simp [intOf]; omega
          · have hl := Lib.hid (ltF hx hy hlv)
            clear sw
            go_wp2_with (first
              | go_at_call 321; with_reducible refine (lessU _ _ _).mono ?_; rintro e w9 ⟨rfl, rfl⟩
              | (refine wre 4 oSortU320 ?_)
              | (refine wre 6 oSortU321 ?_)
              | (with_reducible refine wEI ?_; (first | (refine wEN ?_; skip) | (refine wEF rfl (fun K hK => ?_); go_simp) | (refine wEL rfl rfl (fun K hK => ?_); go_simp) | (refine wER rfl (fun K hK => ?_); go_simp) | (refine wEM rfl (fun K hK => ?_); go_simp; try refine ⟨_, _, ⟨rfl, rfl⟩, ?_⟩) | (refine wEG rfl (fun K hK => ?_); go_simp) | (refine wEA rfl (fun K hK => ?_); go_simp))))
            go_roundw
            case rel => exact ⟨i + 1, dj, by go_num, by omega, by omega, hsj, by exact atP, (show Hid _ from by rw [← HO.out, insOuter_go _ _ _ _ _ hlt, ← HI.out, insInner_stop _ _ _ _ (Or.inr hl.out)]; exact rfl)⟩
            case measure => simp [intOf]; omega
        · go_wp2_with (first
            | go_at_call 321; with_reducible refine (lessU _ _ _).mono ?_; rintro e w9 ⟨rfl, rfl⟩
            | (refine wre 4 oSortU320 ?_)
            | (refine wre 6 oSortU321 ?_)
            | (with_reducible refine wEI ?_; (first | (refine wEN ?_; skip) | (refine wEF rfl (fun K hK => ?_); go_simp) | (refine wEL rfl rfl (fun K hK => ?_); go_simp) | (refine wER rfl (fun K hK => ?_); go_simp) | (refine wEM rfl (fun K hK => ?_); go_simp; try refine ⟨_, _, ⟨rfl, rfl⟩, ?_⟩) | (refine wEG rfl (fun K hK => ?_); go_simp) | (refine wEA rfl (fun K hK => ?_); go_simp))))
          go_roundw
          case rel => exact ⟨i + 1, dj, by go_num, by omega, by omega, hsj, by exact atP, (show Hid _ from by rw [← HO.out, insOuter_go _ _ _ _ _ hlt, ← HI.out, insInner_stop _ _ _ _ (Or.inl (by omega))]; exact rfl)⟩
          case measure => simp [intOf]; omega
    · go_wp2
      go_end0
      exact ⟨rfl, by unfold Sort.insertionSort; rw [← HO.out, insOuter_stop _ _ _ _ _ hlt]; exact atP⟩
theorem rev_go {i j : Nat} {d : Array Int} (h : i < j) : reverseLoop i j d = reverseLoop (i + 1) (j - 1) (swp d i j) := by rw [reverseLoop, if_pos h]
theorem reverse {a b : Nat} {w0 w : World} {d : Array Int} (hA : (row g rest).At w0 d w) (hn : d.size = n) (hab : a ≤ b) (hb : b ≤ n) (big : n < 1000000) :
    Calls Tryz.prog 319 #[.slice (some ⟨g, 0, none⟩) n c, .int .i64 a, .int .i64 b] w fun e w' => e = .returned (.tuple #[]) ∧ (row g rest).At w0 (reverseRange d a b) w' := by
  go_enter Tryz.func319, Tryz.ntmps319
  go_wp2
  go_loopg [6, 7] (b - a) (fun k s6 s7 wr => ∃ (i jn : Nat) (jz : Int) (dk : Array Int), s6 = .int .i64 i ∧ s7 = .int .i64 jz ∧ ((i : Int) < jz → jz = jn ∧ jn < n) ∧ (¬ (i : Int) < jz → ¬ i < jn) ∧ jn - i ≤ k ∧
    dk.size = n ∧ (row g rest).At w0 dk wr ∧ Hid (reverseLoop i jn dk = reverseLoop a (b - 1) d))
  case atStart => exact ⟨a, b - 1, (b : Int) - 1, d, rfl, rfl, fun h => ⟨by omega, by omega⟩, fun h => by omega, by omega, hn, hA, rfl⟩
  case round =>
    obtain ⟨i, jn, jz, dk, rfl, rfl, h1, h2, hk, hds, hA1, HE⟩ := hrel
    by_cases hlt : (i : Int) < jz
    · obtain ⟨rfl, hjn⟩ := h1 hlt
      have hij : i < jn := by omega
      have hin : i < n := by omega
      obtain ⟨x, cx, hx⟩ := row_at hA1 hds hin
      obtain ⟨y, cy, hy⟩ := row_at hA1 hds hjn
      have fx := row_free hA1
      have sw := row_sw hA1 hds hin hjn hx hy
      clear h1 h2
      go_wp2_with (first
        | go_at_call 321; with_reducible refine (lessU _ _ _).mono ?_; rintro e w9 ⟨rfl, rfl⟩
        | (refine wre 3 [(0,.free),(1,.free),(2,.free),(3,.free),(4,.free),(5,.free),(6,.free),(7,.look),(8,.free),(9,.free),(10,.free),(11,.look),(12,.free),(13,.act),(14,.free),(15,.act)] ?_)
        | (with_reducible refine wEI ?_; (first | (refine wEN ?_; skip) | (refine wEF rfl (fun K hK => ?_); go_simp) | (refine wEL rfl rfl (fun K hK => ?_); go_simp) | (refine wER rfl (fun K hK => ?_); go_simp) | (refine wEM rfl (fun K hK => ?_); go_simp; try refine ⟨_, _, ⟨rfl, rfl⟩, ?_⟩) | (refine wEG rfl (fun K hK => ?_); go_simp) | (refine wEA rfl (fun K hK => ?_); go_simp))))
      go_roundg (jn - 1 - (i + 1))
      case measure => omega
      case rel => exact ⟨i + 1, jn - 1, (jn : Int) - 1, swp dk i jn, by simp, rfl, fun h => ⟨by omega, by omega⟩, fun h => by omega, Nat.le_refl _, by rw [size_swp]; exact hds, by exact atP, (show Hid _ from by rw [← HE.out, rev_go hij]; exact rfl)⟩
    · have hnot := h2 hlt
      go_wp2
      go_end0
      refine ⟨rfl, ?_⟩
      rw [reverseRange, ← HE.out, reverseLoop, if_neg hnot]
      exact atP
end Go.Proofs.Wx.U32
