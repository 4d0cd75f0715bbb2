import Derived.Test.YtgbfgjhndkkncaaGreatDoorM37
import Derived.Shelf.Abstract
import Derived.Deep.Cut
set_option maxRecDepth 100000
set_option maxHeartbeats 1000000
set_option linter.unusedVariables false
set_option linter.unusedSimpArgs false
set_option linter.deprecated false
set_option linter.all false
set_option linter.unusedSectionVars false
namespace Go.Proofs.Wx
open Go Go.RowKit Go.Sort
variable {α : Type} [Inhabited α] {s : St α} {lt : α → α → Bool} {n g sf : Nat} {lb sb : Array Value}
/-- symMerge of fewer than N elements does what it should. -/
def SymOk (s : St α) (lt : α → α → Bool) (n g sf : Nat) (lb sb : Array Value) (N : Nat) : Prop :=
  ∀ (w0 w : World) (d : Array α) (a m b : Nat), b - a < N → s.At w0 d w → d.size = n → a < m → m < b → b ≤ n → SortedIn lt a m d → SortedIn lt m b d →
    Calls Tryz.prog 172 #[FnV g lb sf sb, .int .i64 a, .int .i64 m, .int .i64 b] w fun e w' => e = .returned (.tuple #[]) ∧ ∃ d' : Array α, s.At w0 d' w' ∧ PermIn a b d d' ∧ SortedIn lt a b d'
theorem symC {w0 w : World} {d : Array α} {a m b N : Nat} (hO : SWO lt) (D : FnS g lb sf sb s lt n) (IH : SymOk s lt n g sf lb sb N) (hN : b - a ≤ N) (hA : s.At w0 d w) (hn : d.size = n) (ham : a + 1 < m) (hmb : m + 1 < b) (hb : b ≤ n) (s1 : SortedIn lt a m d) (s2 : SortedIn lt m b d) :
    Calls Tryz.prog 172 #[FnV g lb sf sb, .int .i64 a, .int .i64 m, .int .i64 b] w fun e w' => e = .returned (.tuple #[]) ∧ ∃ d' : Array α, s.At w0 d' w' ∧ PermIn a b d d' ∧ SortedIn lt a b d' := by
  have hsm := D.small
  have eg := D.enters
  obtain ⟨W1, hW1⟩ : ∃ W1, Hid (W1 = w.alloc (.cells #[.func (.func g) #[] lb, .func (.func sf) #[] sb] 242)) := ⟨_, Lib.hid rfl⟩
  have hF1 : Fr [] w W1 := by rw [hW1.out]; exact Fr.alloc Fr.refl
  have hT1 : Blk W1 w.heap.size [.func (.func g) #[] lb, .func (.func sf) #[] sb] 242 (0, 0) := by rw [hW1.out]; exact Blk.new
  have hA1 : s.At W1 d W1 := St.At.start (s.fr hA.1 hF1 (by simp))
  have hTo : w.heap.size ∉ s.own := fun hm => by have := s.lt hA.1 _ hm; omega
  have HD := Lib.hid D
  have HS := Lib.hid (And.intro s1 s2)
  have HH := Lib.hid hA
  have HI := Lib.hid IH
  clear D s1 s2 hA IH
  unfold SymOk FnV at HI
  unfold FnV
  obtain ⟨mid, hmid⟩ : ∃ mid, Hid (mid = (a + b) / 2) := ⟨_, rfl⟩
  have z1 : ((m : Int) - (a : Int) == 1) = false := by simp; omega
  have z2 : ¬ (m : Int) - (a : Int) = 1 := by omega
  have z3 : ((b : Int) - (m : Int) == 1) = false := by simp; omega
  have z4 : ¬ (b : Int) - (m : Int) = 1 := by omega
  go_enter Tryz.func172, Tryz.ntmps172
  go_upto_if 106 with fail
  rw [← hW1.out]
  go_cut [16, 17, 18, 19] from 23 (fun s16 s17 s18 s19 wr => ∃ st0 r0 : Nat, s16 = .int .i64 mid ∧ s17 = .int .i64 ((mid + m : Nat) : Int) ∧ s18 = .int .i64 st0 ∧ s19 = .int .i64 r0 ∧ Hid (Sy0 a m b mid st0 r0) ∧ s.At W1 d wr)
  case first =>
    have hmz : ((mid : Nat) : Int) = ((a : Int) + (b : Int)) / 2 := by rw [hmid.out]; omega
    have hmb2 : mid < b := by rw [hmid.out]; omega
    have HZ := Lib.hid hmz
    by_cases hc : mid < m
    · have hq : ((a : Int) + (b : Int)) / 2 < (m : Int) := by omega
      have hq2 : (0 : Int) ≤ ((a : Int) + (b : Int)) / 2 := by omega
      have hst : ((mid + m - b : Nat) : Int) = ((a : Int) + (b : Int)) / 2 + (m : Int) - (b : Int) := by have := hmid.out; omega
      have HT := Lib.hid hst
      clear hst hmz
      go_wp2
      go_meet
      case rel => exact ⟨mid + m - b, mid, by rw [HZ.out], by rw [Int.natCast_add, HZ.out], by rw [HT.out], by rw [HZ.out], Lib.hid (.inl ⟨hc, rfl, rfl⟩), hA1⟩
    · have hq : ¬ ((a : Int) + (b : Int)) / 2 < (m : Int) := by omega
      have hq2 : (0 : Int) ≤ ((a : Int) + (b : Int)) / 2 := by omega
      clear hmz
      go_wp2
      go_meet
      case rel => exact ⟨a, m, by rw [HZ.out], by rw [Int.natCast_add, HZ.out], rfl, rfl, Lib.hid (.inr ⟨by omega, rfl, rfl⟩), hA1⟩
  case rest =>
    obtain ⟨st0, r0, rfl, rfl, rfl, rfl, H0, hA2⟩ := hcut
    have hle := H0.out.le (by omega) (by omega) hmid.out
    obtain ⟨M, hM⟩ : ∃ M, Hid (M = mid + m) := ⟨_, rfl⟩
    rw [← hM.out]
    have hM2 := hM.out
    have HL := Lib.hid hle
    have hMz : (M : Int) ≤ 2000000 := by omega
    have hM1 : (1 : Int) ≤ (M : Int) := by omega
    clear hle hM2
    go_wp2
    go_loopw [18, 19] (fun vi vj wr => ∃ (st r : Nat), vi = .int .i64 st ∧ vj = .int .i64 r ∧ Hid (Sy lt a m b mid st0 r0 st r d) ∧ s.At W1 d wr) (fun vi vj _ => (intOf vj).toNat - (intOf vi).toNat)
    case atStart => exact ⟨st0, r0, rfl, rfl, Lib.hid ⟨Nat.le_refl _, by have := HL.out; omega, Nat.le_refl _, .inl rfl, .inl rfl⟩, hA2⟩
    case round =>
      obtain ⟨st, r, rfl, rfl, HC, hAi⟩ := hrel
      have c0 := (hAi.2.blk hT1 hTo).cell 0
      have hb1 := HC.out.le1
      have hb2 := HC.out.le2
      have hb3 := HC.out.le3
      by_cases hij : st < r
      · have hz : (st : Int) < (r : Int) := by omega
        obtain ⟨c, hh⟩ : ∃ c, Hid (c = (st + r) / 2) := ⟨_, rfl⟩
        have hhz : ((c : Nat) : Int) = ((st : Int) + (r : Int)) / 2 := by rw [hh.out]; omega
        have hhi : st ≤ c ∧ c < r := by rw [hh.out]; omega
        have hl := HD.out.less (mid + m - 1 - c) c hAi hn (by have := HL.out; omega) (by have := HL.out; omega)
        rw [show ((mid + m - 1 - c : Nat) : Int) = (M : Int) - 1 - (c : Int) by have := HL.out; rw [hM.out]; omega, hhz] at hl
        have hbd : (0 : Int) ≤ ((st : Int) + (r : Int)) / 2 ∧ ((st : Int) + (r : Int)) / 2 ≤ 1000000 := by have := HL.out; omega
        have hbd1 := hbd.1
        have hbd2 := hbd.2
        cases hlv : lt d[mid + m - 1 - c]! d[c]! with
        | false =>
          rw [hlv] at hl
          have HV := Lib.hid hlv
          have HZ := Lib.hid hhz
          clear hlv hhz hbd
          go_wp2_with (go_at_fn g; refine hl.mono ?_; rintro e w' ⟨rfl, hA3⟩)
          go_roundw
          case rel => exact ⟨c + 1, r, by congr 1; have := HZ.out; omega, rfl, Lib.hid (HC.out.up hhi.1 hhi.2 HV.out), hA3⟩
          case measure => simp [intOf]; have := HZ.out; omega
        | true =>
          rw [hlv] at hl
          have HV := Lib.hid hlv
          have HZ := Lib.hid hhz
          clear hlv hhz hbd
          go_wp2_with (go_at_fn g; refine hl.mono ?_; rintro e w' ⟨rfl, hA3⟩)
          go_roundw
          case rel => exact ⟨st, c, rfl, by congr 1; have := HZ.out; omega, Lib.hid (HC.out.down hhi.1 hhi.2 HV.out), hA3⟩
          case measure => simp [intOf]; have := HZ.out; omega
      · have hz : ¬ (st : Int) < (r : Int) := by omega
        have hji : r = st := by omega
        subst hji
        clear hij hb2 hb3
        obtain ⟨f1, f2, f3, f4, f5, f6, f7⟩ := HC.out.fin hO H0.out (by omega) (by omega) hmid.out
        obtain ⟨en, hen⟩ : ∃ en, Hid (en = mid + m - r) := ⟨_, rfl⟩
        rw [← hen.out] at f4 f5 f6 f7
        have hez : (M : Int) - (r : Int) = ((en : Nat) : Int) := by rw [hen.out, hM.out]; omega
        have hsum : Hid (r + en = mid + m) := Lib.hid (by rw [hen.out]; omega)
        have FF := Lib.hid (And.intro f6 f7)
        have hamid := HL.out.2.2.2.2.2
        have HL2 := Lib.hid hamid
        clear f6 f7 c0 hb1 hMz hM1 hamid
        go_upto_region 40 with fail
        have HE := Lib.hid hez
        go_cut [22, 145] from 23 (fun s22 s145 wr => ∃ B : Bool, s22 = .int .i64 en ∧ s145 = .bool B ∧ Hid (B = true ↔ r < m ∧ m < en) ∧ s.At W1 d wr)
        case first =>
          by_cases h1 : r < m
          · have h1z : (r : Int) < (m : Int) := by omega
            by_cases h2 : m < en
            · have h2z : (m : Int) < (en : Int) := by omega
              go_wp2
              go_meet
              case rel => exact ⟨true, rfl, rfl, Lib.hid ⟨fun _ => ⟨h1, h2⟩, fun _ => rfl⟩, hAi⟩
            · have h2z : ¬ (m : Int) < (en : Int) := by omega
              go_wp2
              go_meet
              case rel => exact ⟨false, rfl, rfl, Lib.hid ⟨fun h => (by cases h), fun h => absurd h.2 h2⟩, hAi⟩
          · have h1z : ¬ (r : Int) < (m : Int) := by omega
            go_wp2
            go_meet
            case rel => exact ⟨false, rfl, rfl, Lib.hid ⟨fun h => (by cases h), fun h => absurd h.1 h1⟩, hAi⟩
        case rest =>
        obtain ⟨B, rfl, rfl, HB, hAi⟩ := hcut
        go_upto_if 145 with fail
        go_cut [22] from 23 (fun s22 wr => ∃ d1 : Array α, s22 = .int .i64 en ∧ Hid (Turned d r m en d1) ∧ s.At W1 d1 wr)
        case first =>
          have c0 := (hAi.2.blk hT1 hTo).cell 0
          have c1 := (hAi.2.blk hT1 hTo).cell 1
          cases B with
          | true =>
            obtain ⟨h1, h2⟩ := HB.out.1 rfl
            have hrot : Rot m n (m - r) (en - m) (seg d 0 r ++ seg d m en ++ seg d r m ++ seg d en d.size) d :=
              ⟨seg d 0 r, seg d r m, seg d m en, seg d en d.size, by rw [seg_append (by omega) (by omega), seg_append (by omega) (by omega), seg_append (by omega) (by omega)]; simp only [seg, List.drop_zero, Nat.sub_zero, ← Array.length_toList, List.take_length],
                by rw [seg_length (by omega)]; omega, seg_length (by omega), seg_length (by omega), rfl, hn⟩
            have hcall := rotateF HD.out hAi h1 h2 hrot
            unfold FnV at hcall
            clear hrot
            go_wp2_with (go_at_call 193; (refine hcall.mono ?_); rintro e w5 ⟨rfl, d5, hA5, hT5, hs5⟩)
            go_meet
            case rel => exact ⟨d5, rfl, Lib.hid hT5, hA5⟩
          | false =>
            go_wp2
            go_meet
            case rel => exact ⟨d, rfl, Lib.hid (Turned.same (by
              by_cases h1 : r < m
              · by_cases h2 : m < en
                · have e := HB.out.2 ⟨h1, h2⟩; cases e
                · exact .inr (by omega)
              · exact .inl (by omega)) f2 f4 (by omega)), hAi⟩
        case rest =>
          obtain ⟨d1, rfl, HT, hA5⟩ := hcut
          have hs1 := HT.out.size f2 f4 (by omega)
          have hsr := HT.out.sorted f1 f2 f4 f5 (by omega) hsum.out HS.out.1 HS.out.2
          obtain ⟨t1, t2, t3⟩ := hsr
          have HT3 := Lib.hid t3
          have HT1 := Lib.hid (And.intro t1 t2)
          clear t1 t2 t3 hAi
          have hs1' : d1.size = n := by omega
          have HS1 := Lib.hid hs1'
          clear hs1 hs1'
          go_upto_region 42 with fail
          go_cut [22, 158] from 23 (fun s22 s145 wr => ∃ B : Bool, s22 = .int .i64 en ∧ s145 = .bool B ∧ Hid (B = true ↔ a < r ∧ r < mid) ∧ s.At W1 d1 wr)
          case first =>
            by_cases h1 : a < r
            · have h1z : (a : Int) < (r : Int) := by omega
              by_cases h2 : r < mid
              · have h2z : (r : Int) < (mid : Int) := by omega
                go_wp2
                go_meet
                case rel => exact ⟨true, rfl, rfl, Lib.hid ⟨fun _ => ⟨h1, h2⟩, fun _ => rfl⟩, hA5⟩
              · have h2z : ¬ (r : Int) < (mid : Int) := by omega
                go_wp2
                go_meet
                case rel => exact ⟨false, rfl, rfl, Lib.hid ⟨fun h => (by cases h), fun h => absurd h.2 h2⟩, hA5⟩
            · have h1z : ¬ (a : Int) < (r : Int) := by omega
              go_wp2
              go_meet
              case rel => exact ⟨false, rfl, rfl, Lib.hid ⟨fun h => (by cases h), fun h => absurd h.1 h1⟩, hA5⟩
          case rest =>
          obtain ⟨B, rfl, rfl, HB, hA5⟩ := hcut
          go_upto_if 158 with fail
          go_cut [22] from 23 (fun s22 wr => ∃ d2 : Array α, s22 = .int .i64 en ∧ Hid (PermIn a mid d1 d2 ∧ SortedIn lt a mid d2) ∧ s.At W1 d2 wr)
          case first =>
            have c0 := (hA5.2.blk hT1 hTo).cell 0
            have c1 := (hA5.2.blk hT1 hTo).cell 1
            cases B with
            | true =>
              obtain ⟨h1, h2⟩ := HB.out.1 rfl
              have hcall := HI.out W1 wc d1 a r mid (by have := HL2.out; omega) hA5 HS1.out h1 h2 (by have := HL2.out; omega) HT1.out.1 HT1.out.2
              go_wp2_with (go_at_call 172; (refine hcall.mono ?_); rintro e w5 ⟨rfl, d5, hA6, hp5, hs5⟩)
              go_meet
              case rel => exact ⟨d5, rfl, Lib.hid ⟨hp5, hs5⟩, hA6⟩
            | false =>
              go_wp2
              go_meet
              case rel => exact ⟨d1, rfl, Lib.hid ⟨permIn_refl _ _ _, by
                by_cases h1 : a < r
                · by_cases h2 : r < mid
                  · have e := HB.out.2 ⟨h1, h2⟩; cases e
                  · have e := HT1.out.1; rw [show r = mid by omega] at e; exact e
                · have e := HT1.out.2; rw [show r = a by omega] at e; exact e⟩, hA5⟩
          case rest =>
            obtain ⟨d2, rfl, HP, hA6⟩ := hcut
            have hs2 : Hid (d2.size = n) := Lib.hid (by rw [HP.out.1.1]; exact HS1.out)
            have hso := Lib.hid (HT3.out d2 HP.out.1)
            have fin : ∀ (d3 : Array α) (w5 : World), s.At W1 d3 w5 → PermIn mid b d2 d3 → SortedIn lt mid b d3 → ∃ d' : Array α, s.At w0 d' w5 ∧ PermIn a b d d' ∧ SortedIn lt a b d' := fun d3 w5 hA7 hp3 ht3 => by
              obtain ⟨k1, k2⟩ := merge_step hO f1 f2 f4 f5 (by omega) hsum.out HS.out.1 HS.out.2 FF.out.1 FF.out.2 HT.out HP.out.1 HP.out.2 hp3 ht3
              exact ⟨d3, HH.out.swap hA7.1 ((hF1.mono (by simp)).trans hA7.2 (fun k hk _ => hk)), k1, k2⟩
            have HF := Lib.hid fin
            clear fin
            go_upto_region 44 with fail
            go_cut [22, 171] from 23 (fun s22 s145 wr => ∃ B : Bool, s22 = .int .i64 en ∧ s145 = .bool B ∧ Hid (B = true ↔ mid < en ∧ en < b) ∧ s.At W1 d2 wr)
            case first =>
              by_cases h1 : mid < en
              · have h1z : (mid : Int) < (en : Int) := by omega
                by_cases h2 : en < b
                · have h2z : (en : Int) < (b : Int) := by omega
                  go_wp2
                  go_meet
                  case rel => exact ⟨true, rfl, rfl, Lib.hid ⟨fun _ => ⟨h1, h2⟩, fun _ => rfl⟩, hA6⟩
                · have h2z : ¬ (en : Int) < (b : Int) := by omega
                  go_wp2
                  go_meet
                  case rel => exact ⟨false, rfl, rfl, Lib.hid ⟨fun h => (by cases h), fun h => absurd h.2 h2⟩, hA6⟩
              · have h1z : ¬ (mid : Int) < (en : Int) := by omega
                go_wp2
                go_meet
                case rel => exact ⟨false, rfl, rfl, Lib.hid ⟨fun h => (by cases h), fun h => absurd h.1 h1⟩, hA6⟩
            case rest =>
            obtain ⟨B, rfl, rfl, HB, hA6⟩ := hcut
            have c0 := (hA6.2.blk hT1 hTo).cell 0
            have c1 := (hA6.2.blk hT1 hTo).cell 1
            cases B with
            | true =>
              obtain ⟨h1, h2⟩ := HB.out.1 rfl
              have hcall := HI.out W1 wc d2 mid en b (by have := HL2.out; omega) hA6 hs2.out h1 h2 hb hso.out.1 hso.out.2
              go_wp2_with (go_at_call 172; (refine hcall.mono ?_); rintro e w5 ⟨rfl, d5, hA7, hp5, hs5⟩)
              go_end0
              exact ⟨rfl, HF.out d5 _ hA7 hp5 hs5⟩
            | false =>
              go_wp2
              go_end0
              exact ⟨rfl, HF.out d2 _ hA6 (permIn_refl _ _ _) (by
                by_cases h1 : mid < en
                · by_cases h2 : en < b
                  · have e := HB.out.2 ⟨h1, h2⟩; cases e
                  · have e := hso.out.1; rw [show en = b by omega] at e; exact e
                · have e := hso.out.2; rw [show en = mid by have := hsum.out; omega] at e; exact e)⟩
theorem symMergeF (hO : SWO lt) (D : FnS g lb sf sb s lt n) : ∀ N : Nat, SymOk s lt n g sf lb sb N
  | 0 => fun _ _ _ _ _ _ h => absurd h (by omega)
  | N + 1 => fun w0 w d a m b hN hA hn ham hmb hb s1 s2 => by
    by_cases h1 : m = a + 1
    · subst h1; exact symA hO D hA hn hmb hb s2
    · by_cases h2 : b = m + 1
      · subst h2; exact symB hO D hA hn (by omega) hb s1
      · exact symC hO D (symMergeF hO D N) (by omega) hA hn (by omega) (by omega) hb s1 s2
end Go.Proofs.Wx
