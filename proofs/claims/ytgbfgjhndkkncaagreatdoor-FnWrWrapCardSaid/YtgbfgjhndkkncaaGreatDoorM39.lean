import Derived.Test.YtgbfgjhndkkncaaGreatDoorM15
import Derived.Test.YtgbfgjhndkkncaaGreatDoorM37
import Derived.Test.YtgbfgjhndkkncaaGreatDoorM38
import Derived.Shelf.Abstract
import Derived.Deep.Cut
import Derived.Deep.CutRange
import Derived.Deep.DeepCutAuto
set_option maxRecDepth 100000
set_option maxHeartbeats 1000000
set_option linter.unusedVariables false
set_option linter.unusedSimpArgs false
set_option linter.deprecated false
set_option linter.all false
set_option linter.unusedSectionVars false
namespace Go.Proofs.Wx
open Go.Sort
variable {α : Type} [Inhabited α] {lt : α → α → Bool}
theorem sin_out {a b x y : Nat} {d d' : Array α} (h : SortedIn lt x y d) (hp : PermIn a b d d') (ho : y ≤ a ∨ b ≤ x) : SortedIn lt x y d' := fun i j hi hij hj => by
  rw [hp.2.1 i (by omega), hp.2.1 j (by omega)]; exact h i j hi hij hj
def Runs (lt : α → α → Bool) (K n : Nat) (d : Array α) : Prop := ∀ p, SortedIn lt (p * K) (min (p * K + K) n) d
def Firsts (lt : α → α → Bool) (K q : Nat) (d : Array α) : Prop := ∀ p, p < q → SortedIn lt (p * K) (p * K + K) d
theorem le_mul {p q K : Nat} (h : p < q) : p * K + K ≤ q * K := by
  have := Nat.mul_le_mul_right K (show p + 1 ≤ q from h); rwa [Nat.add_mul, Nat.one_mul] at this
theorem Firsts.step {K q : Nat} {d d' : Array α} (h : Firsts lt K q d) (hp : PermIn (q * K) (q * K + K) d d') (hs : SortedIn lt (q * K) (q * K + K) d') : Firsts lt K (q + 1) d' := fun p hpq => by
  by_cases e : p = q
  · subst e; exact hs
  · exact sin_out (h p (by omega)) hp (.inl (le_mul (by omega)))
theorem Firsts.fin {K q n : Nat} {d d' : Array α} (h : Firsts lt K q d) (hA : q * K ≤ n) (hn : n < q * K + K) (hp : PermIn (q * K) n d d') (hs : SortedIn lt (q * K) n d') : Runs lt K n d' := fun p => by
  rcases Nat.lt_trichotomy p q with e | e | e
  · have h1 := le_mul (K := K) e
    exact sin_sub (sin_out (h p e) hp (.inl h1)) (Nat.le_refl _) (by omega)
  · subst e; exact sin_sub hs (Nat.le_refl _) (by omega)
  · have h1 := le_mul (K := K) e
    exact sorted_nil (by omega)
theorem two_mul' (q K : Nat) : 2 * q * K = q * (2 * K) := by rw [Nat.mul_comm 2 q, Nat.mul_assoc]
structure Half (lt : α → α → Bool) (K n q : Nat) (d : Array α) : Prop where
  fst : Firsts lt (2 * K) q d
  snd : ∀ p, 2 * q ≤ p → SortedIn lt (p * K) (min (p * K + K) n) d
theorem Half.start {K n : Nat} {d : Array α} (h : Runs lt K n d) : Half lt K n 0 d := ⟨fun p hp => absurd hp (by omega), fun p _ => h p⟩
theorem Half.one {K n q : Nat} {d : Array α} (h : Half lt K n q d) : SortedIn lt (q * (2 * K)) (min (q * (2 * K) + K) n) d := by
  have := h.snd (2 * q) (Nat.le_refl _)
  rwa [two_mul'] at this
theorem Half.two {K n q : Nat} {d : Array α} (h : Half lt K n q d) : SortedIn lt (q * (2 * K) + K) (min (q * (2 * K) + K + K) n) d := by
  have := h.snd (2 * q + 1) (by omega)
  rwa [Nat.add_mul, two_mul', Nat.one_mul] at this
theorem Half.step {K n q : Nat} {d d' : Array α} (h : Half lt K n q d) (hp : PermIn (q * (2 * K)) (q * (2 * K) + 2 * K) d d') (hs : SortedIn lt (q * (2 * K)) (q * (2 * K) + 2 * K) d') : Half lt K n (q + 1) d' :=
  ⟨h.fst.step hp hs, fun p hpq => by
    have h1 := Nat.mul_le_mul_right K hpq
    rw [two_mul', Nat.add_mul, Nat.one_mul] at h1
    exact sin_out (h.snd p (by omega)) hp (.inr h1)⟩
theorem Half.fin {K n q : Nat} {d d' : Array α} (h : Half lt K n q d) (hA : q * (2 * K) ≤ n) (hn : n < q * (2 * K) + 2 * K) (hp : PermIn (q * (2 * K)) n d d') (hs : SortedIn lt (q * (2 * K)) n d') : Runs lt (2 * K) n d' := h.fst.fin hA hn hp hs
theorem Runs.all {K n : Nat} {d : Array α} (h : Runs lt K n d) (hK : n ≤ K) : SortedIn lt 0 n d := by
  have := h 0
  rwa [Nat.zero_mul, Nat.zero_add, Nat.min_eq_right hK] at this
end Go.Proofs.Wx

namespace Go.Proofs.Wx
open Go Go.RowKit Go.Sort
variable {α : Type} [Inhabited α] {s : St α} {lt : α → α → Bool} {n g sf : Nat} {lb sb : Array Value}
theorem stableF {w0 w : World} {d : Array α} (hO : SWO lt) (D : FnS g lb sf sb s lt n) (hA : s.At w0 d w) (hn : d.size = n) :
    Calls Tryz.prog 136 #[FnV g lb sf sb, .int .i64 n] w fun e w' => e = .returned (.tuple #[]) ∧ ∃ d' : Array α, s.At w0 d' w' ∧ PermIn 0 n d d' ∧ SortedIn lt 0 n d' := by
  have hsm := D.small
  obtain ⟨W1, hW1⟩ : ∃ W1, Hid (W1 = w.alloc (.cells #[.func (.func g) #[] lb, .func (.func sf) #[] sb] 242)) := ⟨_, Lib.hid rfl⟩
  have hF1 : Fr [] w W1 := by rw [hW1.out]; exact Fr.alloc Fr.refl
  have hT1 : Blk W1 w.heap.size [.func (.func g) #[] lb, .func (.func sf) #[] sb] 242 (0, 0) := by rw [hW1.out]; exact Blk.new
  have hA1 : s.At W1 d W1 := St.At.start (s.fr hA.1 hF1 (by simp))
  have hTo : w.heap.size ∉ s.own := fun hm => by have := s.lt hA.1 _ hm; omega
  have HH := Lib.hid hA
  have ins : ∀ (a b : Nat) (dk : Array α) (W : World), s.At W1 dk W → dk.size = n → a ≤ b → b ≤ n → Calls Tryz.prog 148 #[.agg #[.func (.func g) #[] lb, .func (.func sf) #[] sb], .int .i64 a, .int .i64 b] W fun e w' => e = .returned (.tuple #[]) ∧ ∃ d' : Array α, s.At W1 d' w' ∧ PermIn a b dk d' ∧ SortedIn lt a b d' :=
    fun a b dk W h1 h2 h3 h4 => (insSortF D h1 h2 h3 h4).mono fun e w' ⟨k1, k2⟩ => by
      have k3 := insertionSort_holds hO dk a b h3 (by omega)
      exact ⟨k1, _, k2, k3.1, k3.2⟩
  have mrg : ∀ (a m b : Nat) (dk : Array α) (W : World), s.At W1 dk W → dk.size = n → a < m → m < b → b ≤ n → SortedIn lt a m dk → SortedIn lt m b dk → Calls Tryz.prog 172 #[.agg #[.func (.func g) #[] lb, .func (.func sf) #[] sb], .int .i64 a, .int .i64 m, .int .i64 b] W fun e w' => e = .returned (.tuple #[]) ∧ ∃ d' : Array α, s.At W1 d' w' ∧ PermIn a b dk d' ∧ SortedIn lt a b d' :=
    fun a m b dk W h1 h2 h3 h4 h5 h6 h7 => symMergeF hO D (b - a + 1) W1 W dk a m b (by omega) h1 h2 h3 h4 h5 h6 h7
  have HI := Lib.hid ins
  have HM := Lib.hid mrg
  clear ins mrg D hA
  unfold FnV
  go_enter Tryz.func136, Tryz.ntmps136
  go_wp2
  rw [← hW1.out]
  go_loopw [5, 6] (fun vi vj wr => ∃ (A B q : Nat) (dk : Array α), vi = .int .i64 A ∧ vj = .int .i64 B ∧ Hid (A = q * 20) ∧ Hid (B = A + 20) ∧ A ≤ n ∧ Hid (Firsts lt 20 q dk) ∧ Hid (PermIn 0 n d dk) ∧ s.At W1 dk wr) (fun vi _ _ => n + 20 - (intOf vi).toNat)
  case atStart => exact ⟨0, 20, 0, d, rfl, rfl, Lib.hid rfl, Lib.hid rfl, by omega, Lib.hid (fun p hp => absurd hp (by omega)), Lib.hid (permIn_refl _ _ _), hA1⟩
  case round =>
    obtain ⟨A, B, q, dk, rfl, rfl, HA, HB, hAn, HF, HP, hAk⟩ := hrel
    have hsk : Hid (dk.size = n) := Lib.hid (by rw [HP.out.1]; exact hn)
    have c0 := (hAk.2.blk hT1 hTo).cell 0
    have c1 := (hAk.2.blk hT1 hTo).cell 1
    have hBn : (B : Int) ≤ (n : Int) + 20 := by rw [HB.out]; omega
    by_cases hb : B ≤ n
    · have hz : (B : Int) ≤ (n : Int) := by omega
      have hcall := HI.out A B dk wr hAk hsk.out (by rw [HB.out]; omega) hb
      go_wp2_with (go_at_call 148; (refine hcall.mono ?_); rintro e w5 ⟨rfl, d5, hA5, hp5, hs5⟩)
      go_roundw
      case rel =>
        refine ⟨B, B + 20, q + 1, d5, rfl, by congr 1, Lib.hid (by rw [HB.out, HA.out]; omega), Lib.hid rfl, hb, Lib.hid (HF.out.step ?_ ?_), Lib.hid (permIn_trans _ _ _ _ _ HP.out (permIn_mono _ _ _ _ _ _ (Nat.zero_le _) hb (by rw [hsk.out]; omega) hp5)), hA5⟩
        · rw [← HA.out, ← HB.out]; exact hp5
        · rw [← HA.out, ← HB.out]; exact hs5
      case measure => simp [intOf]; have := HB.out; omega
    · have hz : ¬ (B : Int) ≤ (n : Int) := by omega
      have hcall := HI.out A n dk wr hAk hsk.out hAn (Nat.le_refl _)
      have HBn := Lib.hid hb
      clear hb
      go_wp2_with (go_at_call 148; (refine hcall.mono ?_); rintro e w5 ⟨rfl, d5, hA5, hp5, hs5⟩)
      have HR : Hid (Runs lt 20 n d5) := Lib.hid (HF.out.fin (by rw [← HA.out]; exact hAn) (by rw [← HA.out]; have := HBn.out; have := HB.out; omega) (by rw [← HA.out]; exact hp5) (by rw [← HA.out]; exact hs5))
      have HP5 : Hid (PermIn 0 n d d5) := Lib.hid (permIn_trans _ _ _ _ _ HP.out (permIn_mono _ _ _ _ _ _ (Nat.zero_le _) (Nat.le_refl _) (by rw [hsk.out]; omega) hp5))
      clear hcall hp5 hs5 HP HF HA HB hBn hz hsk c0 c1 hAk hAn
      go_loopw [4] (fun v4 wr => ∃ (K : Nat) (dk : Array α), v4 = .int .i64 K ∧ 0 < K ∧ K ≤ 2 * n + 20 ∧ Hid (Runs lt K n dk) ∧ Hid (PermIn 0 n d dk) ∧ s.At W1 dk wr) (fun v4 _ => 2 * n + 20 - (intOf v4).toNat)
      case atStart => exact ⟨20, d5, rfl, by omega, by omega, HR, HP5, hA5⟩
      case round =>
        obtain ⟨K, dm, rfl, hK0, hK1, HR2, HP2, hAm⟩ := hrel
        by_cases hK : K < n
        · have hzK : (K : Int) < (n : Int) := by omega
          go_wp2
          go_loopw [5, 6] (fun vi vj wr2 => ∃ (A B q : Nat) (dj : Array α), vi = .int .i64 A ∧ vj = .int .i64 B ∧ Hid (A = q * (2 * K)) ∧ Hid (B = A + 2 * K) ∧ A ≤ n ∧ Hid (Half lt K n q dj) ∧ Hid (PermIn 0 n d dj) ∧ s.At W1 dj wr2) (fun vi _ _ => n - (intOf vi).toNat)
          case atStart => exact ⟨0, 2 * K, 0, dm, rfl, by congr 1, Lib.hid (by omega), Lib.hid (by omega), by omega, Lib.hid (Half.start HR2.out), HP2, hAm⟩
          case round =>
            obtain ⟨A, B, q, dk, rfl, rfl, HA, HB, hAn, HF, HP, hAk⟩ := hrel
            have hsk : Hid (dk.size = n) := Lib.hid (by rw [HP.out.1]; exact hn)
            have c0 := (hAk.2.blk hT1 hTo).cell 0
            have c1 := (hAk.2.blk hT1 hTo).cell 1
            have hBn : (B : Int) ≤ 3 * (n : Int) + 20 := by rw [HB.out]; omega
            have o1 := HF.out.one
            have o2 := HF.out.two
            rw [← HA.out] at o1 o2
            by_cases hb : B ≤ n
            · have hz : (B : Int) ≤ (n : Int) := by omega
              rw [Nat.min_eq_left (by have := HB.out; omega)] at o1 o2
              rw [show A + K + K = B by rw [HB.out]; omega] at o2
              have hcall := HM.out A (A + K) B dk wr hAk hsk.out (by omega) (by rw [HB.out]; omega) hb o1 o2
              rw [Int.natCast_add] at hcall
              clear o1 o2
              go_wp2_with (go_at_call 172; (refine hcall.mono ?_); rintro e w5 ⟨rfl, d6, hA6, hp6, hs6⟩)
              go_roundw
              case rel =>
                refine ⟨B, B + 2 * K, q + 1, d6, rfl, by congr 1, Lib.hid (by rw [HB.out, HA.out, Nat.add_mul, Nat.one_mul]), Lib.hid rfl, hb, Lib.hid (HF.out.step ?_ ?_), Lib.hid (permIn_trans _ _ _ _ _ HP.out (permIn_mono _ _ _ _ _ _ (Nat.zero_le _) hb (by rw [hsk.out]; omega) hp6)), hA6⟩
                · rw [← HA.out, ← HB.out]; exact hp6
                · rw [← HA.out, ← HB.out]; exact hs6
              case measure => simp [intOf]; have := HB.out; omega
            · have hz : ¬ (B : Int) ≤ (n : Int) := by omega
              have HBn := Lib.hid hb
              have fin : ∀ (d6 : Array α) (w5 : World), s.At W1 d6 w5 → PermIn A n dk d6 → SortedIn lt A n d6 → Hid (Runs lt (2 * K) n d6) ∧ Hid (PermIn 0 n d d6) ∧ s.At W1 d6 w5 := fun d6 w5 h1 h2 h3 =>
                ⟨Lib.hid (HF.out.fin (by rw [← HA.out]; exact hAn) (by rw [← HA.out]; have := HBn.out; have := HB.out; omega) (by rw [← HA.out]; exact h2) (by rw [← HA.out]; exact h3)), Lib.hid (permIn_trans _ _ _ _ _ HP.out (permIn_mono _ _ _ _ _ _ (Nat.zero_le _) (Nat.le_refl _) (by rw [hsk.out]; omega) h2)), h1⟩
              have HFin := Lib.hid fin
              clear fin hb
              by_cases hm : A + K < n
              · have hmz : (A : Int) + (K : Int) < (n : Int) := by omega
                rw [Nat.min_eq_left (by omega)] at o1
                rw [Nat.min_eq_right (by have := HBn.out; have := HB.out; omega)] at o2
                have hcall := HM.out A (A + K) n dk wr hAk hsk.out (by omega) hm (Nat.le_refl _) o1 o2
                rw [Int.natCast_add] at hcall
                clear o1 o2
                go_wp2_with (go_at_call 172; (refine hcall.mono ?_); rintro e w5 ⟨rfl, d6, hA6, hp6, hs6⟩)
                go_roundw
                case rel => exact ⟨2 * K, d6, by congr 1; omega, by omega, by omega, HFin.out d6 _ hA6 hp6 hs6⟩
                case measure => simp [intOf]; omega
              · have hmz : ¬ (A : Int) + (K : Int) < (n : Int) := by omega
                rw [Nat.min_eq_right (by omega)] at o1
                have HO1 := Lib.hid o1
                clear o1 o2
                go_wp2
                go_roundw
                case rel => exact ⟨2 * K, dk, by congr 1; omega, by omega, by omega, HFin.out dk _ hAk (permIn_refl _ _ _) HO1.out⟩
                case measure => simp [intOf]; omega
        · have hzK : ¬ (K : Int) < (n : Int) := by omega
          go_wp2
          go_end0
          exact ⟨rfl, dm, HH.out.swap hAm.1 ((hF1.mono (by simp)).trans hAm.2 (fun k hk _ => hk)), HP2.out, HR2.out.all (by omega)⟩
end Go.Proofs.Wx

namespace Go.Proofs.Wx
open Go Go.RowKit
/-- The call answers a bool of which this holds. -/
def IsB (p : Bool → Prop) (e : Ending) : Prop := ∃ b, e = .returned (.bool b) ∧ p b
set_option maxRecDepth 1000000 in
set_option maxHeartbeats 12800000 in
theorem spTidy {w : World} {c : CidM} :
    Calls Tryz.prog 16 #[cidA c] w fun e w' => IsB (fun b => b = true → c.dig.length ≤ 200 → c.Ok) e ∧ Fr [] w w' := by
  by_cases h0 : c.v = 0
  · have z0 : (c.v : Int) = 0 := by omega
    by_cases h1 : c.codec = 112
    · have z1 : (c.codec : Int) = 112 := by omega
      by_cases h2 : c.code = 18
      · have z2 : (c.code : Int) = 18 := by omega
        have HH := Lib.hid (And.intro h0 (And.intro h1 h2))
        clear h0 h1 h2
        unfold cidA
        go_enter Tryz.func16, Tryz.ntmps16
        go_wp2
        go_ret
        exact ⟨⟨_, rfl, (by intro h hl; simp at h; exact ⟨hl, .inl ⟨HH.out.1, HH.out.2.1, HH.out.2.2, by omega⟩⟩)⟩, by exact frP⟩
      · have z2 : ¬ (c.code : Int) = 18 := by omega
        clear h0 h1 h2
        unfold cidA
        go_enter Tryz.func16, Tryz.ntmps16
        go_wp2
        go_ret
        exact ⟨⟨_, rfl, (by intro h; cases h)⟩, by exact frP⟩
    · have z1 : ¬ (c.codec : Int) = 112 := by omega
      clear h0 h1
      unfold cidA
      go_enter Tryz.func16, Tryz.ntmps16
      go_wp2
      go_ret
      exact ⟨⟨_, rfl, (by intro h; cases h)⟩, by exact frP⟩
  · have z0 : ¬ (c.v : Int) = 0 := by omega
    by_cases h1 : c.v = 1
    · have z1 : (c.v : Int) = 1 := by omega
      by_cases h2 : c.codec < 9223372036854775808
      · have z2 : (c.codec : Int) < 9223372036854775808 := by omega
        have HH := Lib.hid (And.intro h1 h2)
        clear h0 h1 h2
        unfold cidA
        go_enter Tryz.func16, Tryz.ntmps16
        go_wp2
        go_ret
        exact ⟨⟨_, rfl, (by intro h hl; simp at h; exact ⟨hl, .inr ⟨HH.out.1, HH.out.2, by omega⟩⟩)⟩, by exact frP⟩
      · have z2 : ¬ (c.codec : Int) < 9223372036854775808 := by omega
        clear h0 h1 h2
        unfold cidA
        go_enter Tryz.func16, Tryz.ntmps16
        go_wp2
        go_ret
        exact ⟨⟨_, rfl, (by intro h; cases h)⟩, by exact frP⟩
    · have z1 : ¬ (c.v : Int) = 1 := by omega
      clear h0 h1
      unfold cidA
      go_enter Tryz.func16, Tryz.ntmps16
      go_wp2
      go_ret
      exact ⟨⟨_, rfl, (by intro h; cases h)⟩, by exact frP⟩
theorem zzFits1 {w : World} {c : CidM} : Calls Tryz.prog 30 #[cidA c] w fun e w' => IsB (fun _ => True) e ∧ Fr [] w w' := by
  unfold cidA
  by_cases h : (c.dig.length : Int) > 2147483647
  · go_enter Tryz.func30, Tryz.ntmps30
    go_wp2
    go_ret
    exact ⟨⟨_, rfl, trivial⟩, by exact frP⟩
  · go_enter Tryz.func30, Tryz.ntmps30
    go_wp2
    go_ret
    exact ⟨⟨_, rfl, trivial⟩, by exact frP⟩
theorem zzFits6 {w : World} {b : BlkM} : Calls Tryz.prog 31 #[blkA b] w fun e w' => IsB (fun _ => True) e ∧ Fr [] w w' := by
  unfold blkA
  have h1 := fun w => zzFits1 (w := w) (c := b.cid)
  unfold cidA at h1
  by_cases h : (b.data.length : Int) > 2147483647
  · go_enter Tryz.func31, Tryz.ntmps31
    go_wp2_with (first
      | go_at_call 30; (with_reducible refine (h1 _).mono ?_); rintro e w1 ⟨⟨b1, rfl, _⟩, hF1⟩; have hT := hF1.blk (b := w.heap.size) (Blk.newAt rfl) (by simp); have tc := hT.cells; have hF : Fr [] w w1 := Fr.trans (S := []) (by exact frP) hF1 (by simp); (cases b1))
    all_goals (go_ret; exact ⟨⟨_, rfl, trivial⟩, by first | exact hF | exact frP⟩)
  · go_enter Tryz.func31, Tryz.ntmps31
    go_wp2_with (first
      | go_at_call 30; (with_reducible refine (h1 _).mono ?_); rintro e w1 ⟨⟨b1, rfl, _⟩, hF1⟩; have hT := hF1.blk (b := w.heap.size) (Blk.newAt rfl) (by simp); have tc := hT.cells; have hF : Fr [] w w1 := Fr.trans (S := []) (by exact frP) hF1 (by simp); (cases b1))
    all_goals (go_ret; exact ⟨⟨_, rfl, trivial⟩, by first | exact hF | exact frP⟩)
def fitRel {α : Type} (w : World) (l : List α) (k : Nat) (s : Value) (wr : World) : Prop :=
  ∃ l1 l2, l = l1 ++ l2 ∧ l2.length = k ∧ s = .int .i64 l1.length ∧ Fr [] w wr
set_option maxRecDepth 1000000 in
set_option maxHeartbeats 12800000 in
theorem zzFits2 {w : World} {ad : Option Addr} {cap : Nat} {l : List CidM} (h : CidsAt w ad l) : Calls Tryz.prog 14 #[.slice ad l.length cap] w fun e w' => IsB (fun _ => True) e ∧ Fr [] w w' := by
  have h1 := fun w c => zzFits1 (w := w) (c := c)
  by_cases hb : (l.length : Int) > 2147483647
  · go_enter Tryz.func14, Tryz.ntmps14
    go_wp2
    go_ret
    exact ⟨⟨_, rfl, trivial⟩, by exact frP⟩
  · have hb2 : (l.length : Int) ≤ 2147483647 := by omega
    go_enter Tryz.func14, Tryz.ntmps14
    go_wp2
    go_loopg [10] l.length (fun k s wr => fitRel w l k s wr)
    case atStart => exact ⟨[], l, rfl, rfl, rfl, Fr.refl⟩
    case round =>
      obtain ⟨l1, l2, hll, hk, rfl, hFr⟩ := hrel
      cases l2 with
      | nil =>
        have hz : ¬ (l1.length : Int) < (l.length : Int) := by rw [hll]; simp
        clear hll hk
        go_wp2
        go_ret
        exact ⟨⟨_, rfl, trivial⟩, hFr⟩
      | cons x l2 =>
        have hz : (l1.length : Int) < (l.length : Int) := by rw [hll]; simp; omega
        have hgc : l[l1.length]? = some x := by rw [hll]; simp
        obtain ⟨b, o, rfl, x1, x2, x3, x4⟩ := (h.ext (Fr.ext hFr)) _ _ hgc
        have hl9 : l1.length + 1 ≤ l.length := by rw [hll]; simp
        have HQ := Lib.hid (And.intro hll hk)
        clear hll hk hgc
        have h2 := fun w => h1 w x
        unfold cidA at h2
        go_wp2_with (first
          | go_at_call 30; (with_reducible refine (h2 _).mono ?_); rintro e w4 ⟨⟨b1, rfl, _⟩, hF4⟩; have hF := hFr.trans (Fr.trans (S := []) (by exact frP) hF4 (by simp)) (by simp); (cases b1))
        · go_ret
          exact ⟨⟨_, rfl, trivial⟩, hF⟩
        · go_roundg l2.length
          case measure => have := HQ.out.2; simp at this; omega
          case rel => exact ⟨l1 ++ [x], l2, by rw [HQ.out.1]; simp, rfl, by first | (rw [wrap64_1 (by omega)]; simp; done) | (simp; done), hF⟩
set_option maxRecDepth 1000000 in
set_option maxHeartbeats 12800000 in
theorem zzFits5 {w : World} {ad : Option Addr} {cap : Nat} {l : List BlkM} (h : BlksAt w ad l) : Calls Tryz.prog 15 #[.slice ad l.length cap] w fun e w' => IsB (fun _ => True) e ∧ Fr [] w w' := by
  have h1 := fun w c => zzFits6 (w := w) (b := c)
  by_cases hb : (l.length : Int) > 2147483647
  · go_enter Tryz.func15, Tryz.ntmps15
    go_wp2
    go_ret
    exact ⟨⟨_, rfl, trivial⟩, by exact frP⟩
  · have hb2 : (l.length : Int) ≤ 2147483647 := by omega
    go_enter Tryz.func15, Tryz.ntmps15
    go_wp2
    go_loopg [10] l.length (fun k s wr => fitRel w l k s wr)
    case atStart => exact ⟨[], l, rfl, rfl, rfl, Fr.refl⟩
    case round =>
      obtain ⟨l1, l2, hll, hk, rfl, hFr⟩ := hrel
      cases l2 with
      | nil =>
        have hz : ¬ (l1.length : Int) < (l.length : Int) := by rw [hll]; simp
        clear hll hk
        go_wp2
        go_ret
        exact ⟨⟨_, rfl, trivial⟩, hFr⟩
      | cons x l2 =>
        have hz : (l1.length : Int) < (l.length : Int) := by rw [hll]; simp; omega
        have hgc : l[l1.length]? = some x := by rw [hll]; simp
        obtain ⟨b, o, rfl, x1, x2, x3, x4, x5⟩ := (h.ext (Fr.ext hFr)) _ _ hgc
        have hl9 : l1.length + 1 ≤ l.length := by rw [hll]; simp
        have HQ := Lib.hid (And.intro hll hk)
        clear hll hk hgc
        have h2 := fun w => h1 w x
        unfold blkA at h2
        go_wp2_with (first
          | go_at_call 31; (with_reducible refine (h2 _).mono ?_); rintro e w4 ⟨⟨b1, rfl, _⟩, hF4⟩; have hF := hFr.trans (Fr.trans (S := []) (by exact frP) hF4 (by simp)) (by simp); (cases b1))
        · go_ret
          exact ⟨⟨_, rfl, trivial⟩, hF⟩
        · go_roundg l2.length
          case measure => have := HQ.out.2; simp at this; omega
          case rel => exact ⟨l1 ++ [x], l2, by rw [HQ.out.1]; simp, rfl, by first | (rw [wrap64_1 (by omega)]; simp; done) | (simp; done), hF⟩
set_option maxRecDepth 1000000 in
set_option maxHeartbeats 12800000 in
theorem zzFits4 {w : World} {ra ba : Option Addr} {rc bc : Nat} {c : CarM} (h : CarAt w ra ba c) : Calls Tryz.prog 4 #[carA ra ba rc bc c] w fun e w' => IsB (fun _ => True) e ∧ Fr [] w w' := by
  have h1 := fun (w' : World) (he : w.Ext w') => zzFits2 (cap := rc) (h.roots.ext he)
  have h2 := fun (w' : World) (he : w.Ext w') => zzFits5 (cap := bc) (h.blocks.ext he)
  unfold carA
  clear h
  go_enter Tryz.func4, Tryz.ntmps4
  go_wp2_with (first
    | go_at_call 14; refine (h1 _ (World.Ext.alloc _ _)).mono ?_; rintro e w1 ⟨⟨b1, rfl, _⟩, hF1⟩; have hT := hF1.blk (b := w.heap.size) (Blk.newAt rfl) (by simp); have tc := hT.cells; have hF : Fr [] w w1 := Fr.trans (S := []) (by exact frP) hF1 (by simp); (cases b1)
    | go_at_call 15; refine (h2 _ (Fr.ext hF)).mono ?_; rintro e w2 ⟨⟨b2, rfl, _⟩, hF2⟩; replace hF := hF.trans hF2 (by simp); (cases b2))
  all_goals (go_ret; exact ⟨⟨_, rfl, trivial⟩, hF⟩)
def wg1Rel (w : World) (l : List CidM) (k : Nat) (s : Value) (wr : World) : Prop :=
  ∃ l1 l2, l = l1 ++ l2 ∧ l2.length = k ∧ s = .int .i64 l1.length ∧ (∀ x ∈ l1, x.Ok) ∧ Fr [] w wr
def wg2Rel (w : World) (l : List BlkM) (k : Nat) (s : Value) (wr : World) : Prop :=
  ∃ l1 l2, l = l1 ++ l2 ∧ l2.length = k ∧ s = .int .i64 l1.length ∧ (∀ x ∈ l1, x.cid.Ok ∧ x.data.length ≤ 32768) ∧ Fr [] w wr
set_option maxRecDepth 1000000 in
set_option maxHeartbeats 12800000 in
theorem spGood {w : World} {ra ba : Option Addr} {rc bc : Nat} {c : CarM} (h : CarAt w ra ba c) : Calls Tryz.prog 5 #[carA ra ba rc bc c] w fun e w' => IsB (fun b => b = true → c.Ok) e ∧ Fr [] w w' := by
  unfold carA
  have hTi := fun w c => spTidy (w := w) (c := c)
  have HC := Lib.hid h
  clear h
  by_cases hb1 : (c.roots.length : Int) > 50
  · go_enter Tryz.func5, Tryz.ntmps5
    go_wp2
    go_ret
    exact ⟨⟨_, rfl, by intro h; cases h⟩, by exact frP⟩
  by_cases hb2 : (c.blocks.length : Int) > 50
  · go_enter Tryz.func5, Tryz.ntmps5
    go_wp2
    go_ret
    exact ⟨⟨_, rfl, by intro h; cases h⟩, by exact frP⟩
  have hb3 : (c.roots.length : Int) ≤ 50 := by omega
  have hb4 : (c.blocks.length : Int) ≤ 50 := by omega
  have hT0 : Blk (w.alloc (.cells #[.slice ra c.roots.length rc, .slice ba c.blocks.length bc] 25)) w.heap.size [.slice ra c.roots.length rc, .slice ba c.blocks.length bc] 25 (0, 0) := Blk.newAt rfl
  have hF0 : Fr [] w (w.alloc (.cells #[.slice ra c.roots.length rc, .slice ba c.blocks.length bc] 25)) := Fr.alloc Fr.refl
  go_enter Tryz.func5, Tryz.ntmps5
  go_wp2
  generalize w.alloc (.cells #[.slice ra c.roots.length rc, .slice ba c.blocks.length bc] 25) = w1 at *
  go_loopg [20] c.roots.length (fun k s wr => wg1Rel w1 c.roots k s wr)
  case atStart => exact ⟨[], c.roots, rfl, rfl, rfl, by simp, Fr.refl⟩
  case round =>
    obtain ⟨l1, l2, hll, hk, rfl, hg, hFr⟩ := hrel
    have hTr := hFr.blk hT0 (by simp)
    have hFw := hF0.trans hFr (by simp)
    cases l2 with
    | nil =>
      have hz : ¬ (l1.length : Int) < (c.roots.length : Int) := by rw [hll]; simp
      have e1 : c.roots = l1 := by simpa using hll
      have HE := Lib.hid (And.intro e1 hg)
      have tc := hTr.cells
      clear hll hk e1 hg hT0 hF0
      go_wp2
      go_loopg [37] c.blocks.length (fun k s w2 => wg2Rel wr c.blocks k s w2)
      case atStart => exact ⟨[], c.blocks, rfl, rfl, rfl, by simp, Fr.refl⟩
      case round =>
        rename World => w3
        rename_i hold
        obtain ⟨l3, l4, hll, hk, rfl, hg2, hF3⟩ := hrel
        have hFx := hFw.trans hF3 (by simp)
        cases l4 with
        | nil =>
          have hz2 : ¬ (l3.length : Int) < (c.blocks.length : Int) := by rw [hll]; simp
          have e2 : c.blocks = l3 := by simpa using hll
          have HG := Lib.hid (And.intro e2 hg2)
          clear hll hk e2 hg2
          go_wp2
          go_ret
          refine ⟨⟨_, rfl, fun _ => ⟨by omega, by omega, ?_, ?_, ?_⟩⟩, hFx⟩
          · rw [HE.out.1]; exact HE.out.2
          · rw [HG.out.1]; exact fun b hb => (HG.out.2 b hb).1
          · rw [HG.out.1]; exact fun b hb => (HG.out.2 b hb).2
        | cons x l4 =>
          have hz2 : (l3.length : Int) < (c.blocks.length : Int) := by rw [hll]; simp; omega
          have hgc : c.blocks[l3.length]? = some x := by rw [hll]; simp
          obtain ⟨b, o, rfl, x1, x2, x3, x4, x5⟩ := (HC.out.blocks.ext (Fr.ext hFx)) _ _ hgc
          have hl9 : l3.length + 1 ≤ c.blocks.length := by rw [hll]; simp
          have HQ := Lib.hid (And.intro hll (And.intro hk hg2))
          clear hll hk hgc hg2
          by_cases hd : (x.cid.dig.length : Int) > 200
          · go_wp2
            go_ret
            exact ⟨⟨_, rfl, by intro h; cases h⟩, Fr.trans (S := []) (S' := []) hFx (by exact frP) (by simp)⟩
          by_cases hd2 : (x.data.length : Int) > 32768
          · go_wp2
            go_ret
            exact ⟨⟨_, rfl, by intro h; cases h⟩, Fr.trans (S := []) (S' := []) hFx (by exact frP) (by simp)⟩
          have hd3 : (x.cid.dig.length : Int) ≤ 200 := by omega
          have hd4 : (x.data.length : Int) ≤ 32768 := by omega
          have h2 := fun w => hTi w x.cid
          unfold cidA at h2
          go_wp2_with (first
            | go_at_call 16; (with_reducible refine (h2 _).mono ?_); rintro e w4 ⟨⟨b1, rfl, hb⟩, hF4⟩; have hF := hF3.trans (Fr.trans (S := []) (by exact frP) hF4 (by simp)) (by simp); (cases b1))
          · go_ret
            exact ⟨⟨_, rfl, by intro h; cases h⟩, hFw.trans hF (by simp)⟩
          · go_roundg l4.length
            case measure => have := HQ.out.2.1; simp at this; omega
            case rel =>
              refine ⟨l3 ++ [x], l4, by rw [HQ.out.1]; simp, rfl, by first | (rw [wrap64_1 (by omega)]; simp; done) | (simp; done), ?_, hF⟩
              intro y hy
              rcases List.mem_append.1 hy with hy | hy
              · exact HQ.out.2.2 y hy
              · simp at hy; subst hy; exact ⟨hb (by trivial) (by omega), by omega⟩
    | cons x l2 =>
      have hz : (l1.length : Int) < (c.roots.length : Int) := by rw [hll]; simp; omega
      have hgc : c.roots[l1.length]? = some x := by rw [hll]; simp
      obtain ⟨b, o, rfl, x1, x2, x3, x4⟩ := (HC.out.roots.ext (Fr.ext hFw)) _ _ hgc
      have hl9 : l1.length + 1 ≤ c.roots.length := by rw [hll]; simp
      have HQ := Lib.hid (And.intro hll (And.intro hk hg))
      clear hll hk hgc hg hT0
      by_cases hd : (x.dig.length : Int) > 200
      · go_wp2
        go_ret
        exact ⟨⟨_, rfl, by intro h; cases h⟩, Fr.trans (S := []) (S' := []) hFw (by exact frP) (by simp)⟩
      have hd3 : (x.dig.length : Int) ≤ 200 := by omega
      have h2 := fun w => hTi w x
      unfold cidA at h2
      go_wp2_with (first
        | go_at_call 16; (with_reducible refine (h2 _).mono ?_); rintro e w4 ⟨⟨b1, rfl, hb⟩, hF4⟩; have hF := hFr.trans (Fr.trans (S := []) (by exact frP) hF4 (by simp)) (by simp); (cases b1))
      · go_ret
        exact ⟨⟨_, rfl, by intro h; cases h⟩, hF0.trans hF (by simp)⟩
      · go_roundg l2.length
        case measure => have := HQ.out.2.1; simp at this; omega
        case rel =>
          refine ⟨l1 ++ [x], l2, by rw [HQ.out.1]; simp, rfl, by first | (rw [wrap64_1 (by omega)]; simp; done) | (simp; done), ?_, hF⟩
          intro y hy
          rcases List.mem_append.1 hy with hy | hy
          · exact HQ.out.2.2 y hy
          · simp at hy; subst hy; exact hb (by trivial) (by omega)
end Go.Proofs.Wx
