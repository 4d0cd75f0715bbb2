import Derived.Test.YtgbfgjhndkkncaaGreatDoorM36
import Derived.Shelf.Abstract
set_option maxRecDepth 100000
set_option maxHeartbeats 1000000
set_option linter.unusedVariables false
set_option linter.unusedSimpArgs false
set_option linter.deprecated false
set_option linter.all false
set_option linter.unusedSectionVars false
namespace Go.Proofs.Wx
open Go Go.RowKit Go.Sort
variable {α : Type} [Inhabited α] {s : St α} {lt : α → α → Bool} {n g sf : Nat} {lb sb : Array Value}
/-- The part L X Y R of a row, with i cells of X and j of Y, on the way to L Y X R = T. -/
def Rot (m n i j : Nat) (T : List α) (d : Array α) : Prop := ∃ L X Y R : List α, d.toList = L ++ X ++ Y ++ R ∧ L.length + i = m ∧ X.length = i ∧ Y.length = j ∧ L ++ Y ++ X ++ R = T ∧ d.size = n
theorem Rot.left {m n i j : Nat} {T : List α} {d : Array α} (h : Rot m n i j T d) (hij : j < i) : Rot m n (i - j) j T (swapN (m - i) m j d) := by
  obtain ⟨L, X, Y, R, h1, h2, h3, h4, h5, h6⟩ := h
  have e1 := swapN_list j (d := d) (L := L) (X := X.take j) (M := X.drop j) (Y := Y) (R := R) (a := m - i) (b := m) (by rw [h1]; simp) (by omega) (by simp; omega) h4 (by simp; omega)
  exact ⟨L ++ Y, X.drop j, X.take j, R, by rw [e1], by simp; omega, by simp; omega, by simp; omega, by rw [← h5]; simp, by rw [size_swapN]; exact h6⟩
theorem Rot.right {m n i j : Nat} {T : List α} {d : Array α} (h : Rot m n i j T d) (hij : i < j) : Rot m n i (j - i) T (swapN (m - i) (m + j - i) i d) := by
  obtain ⟨L, X, Y, R, h1, h2, h3, h4, h5, h6⟩ := h
  have e1 := swapN_list i (d := d) (L := L) (X := X) (M := Y.take (j - i)) (Y := Y.drop (j - i)) (R := R) (a := m - i) (b := m + j - i) (by rw [h1]; simp) (by omega) h3 (by simp; omega) (by simp; omega)
  exact ⟨L, Y.drop (j - i), Y.take (j - i), X ++ R, by rw [e1]; simp, by omega, by simp; omega, by simp; omega, by rw [← h5]; simp, by rw [size_swapN]; exact h6⟩
theorem Rot.done {m n i : Nat} {T : List α} {d : Array α} (h : Rot m n i i T d) : (swapN (m - i) m i d).toList = T ∧ (swapN (m - i) m i d).size = n := by
  obtain ⟨L, X, Y, R, h1, h2, h3, h4, h5, h6⟩ := h
  have e1 := swapN_list i (d := d) (L := L) (X := X) (M := []) (Y := Y) (R := R) (a := m - i) (b := m) (by rw [h1]; simp) (by omega) h3 h4 (by simp; omega)
  exact ⟨by rw [e1, ← h5]; simp, by rw [size_swapN]; exact h6⟩
theorem Rot.bound {m n i j : Nat} {T : List α} {d : Array α} (h : Rot m n i j T d) : i ≤ m ∧ m + j ≤ n := by
  obtain ⟨L, X, Y, R, h1, h2, h3, h4, h5, h6⟩ := h
  have := size_of h1; simp at this; omega
theorem rotateF {w0 w : World} {d : Array α} {a m b : Nat} {T : List α} (D : FnS g lb sf sb s lt n) (hA : s.At w0 d w) (ham : a < m) (hmb : m < b) (hR : Rot m n (m - a) (b - m) T d) :
    Calls Tryz.prog 193 #[FnV g lb sf sb, .int .i64 a, .int .i64 m, .int .i64 b] w fun e w' => e = .returned (.tuple #[]) ∧ ∃ d' : Array α, s.At w0 d' w' ∧ d'.toList = T ∧ d'.size = n := by
  have hsm := D.small
  have hbn := hR.bound
  obtain ⟨W1, hW1⟩ : ∃ W1, Hid (W1 = w.alloc (.cells #[.func (.func g) #[] lb, .func (.func sf) #[] sb] 242)) := ⟨_, Lib.hid rfl⟩
  have hF1 : Fr [] w W1 := by rw [hW1.out]; exact Fr.alloc Fr.refl
  have hT1 : Blk W1 w.heap.size [.func (.func g) #[] lb, .func (.func sf) #[] sb] 242 (0, 0) := by rw [hW1.out]; exact Blk.new
  have hA1 : s.At W1 d W1 := St.At.start (s.fr hA.1 hF1 (by simp))
  have hTo : w.heap.size ∉ s.own := fun hm => by have := s.lt hA.1 _ hm; omega
  unfold FnV
  have key : ∀ (x y k : Nat) (x' y' k' : Int) (dk : Array α) (W : World), s.At W1 dk W → dk.size = n → x + k ≤ n → y + k ≤ n → x' = (x : Int) → y' = (y : Int) → k' = (k : Int) →
      Calls Tryz.prog 213 #[.agg #[.func (.func g) #[] lb, .func (.func sf) #[] sb], .int .i64 x', .int .i64 y', .int .i64 k'] W fun e w' => e = .returned (.tuple #[]) ∧ s.At W1 (swapN x y k dk) w' := by
    intro x y k x' y' k' dk W hW hs h1 h2 ex ey ek
    subst ex ey ek
    exact swapRangeF D hW hs h1 h2
  have HK := Lib.hid key
  have HD := Lib.hid D
  clear key D
  go_enter Tryz.func193, Tryz.ntmps193
  go_wp2
  rw [← hW1.out]
  go_loopw [8, 9] (fun vi vj wr => ∃ (i j : Nat) (dk : Array α), vi = .int .i64 i ∧ vj = .int .i64 j ∧ 0 < i ∧ 0 < j ∧ Hid (Rot m n i j T dk) ∧ s.At W1 dk wr) (fun vi vj _ => (intOf vi).toNat + (intOf vj).toNat)
  case atStart => exact ⟨m - a, b - m, d, by congr 1; omega, by congr 1; omega, by omega, by omega, hR, hA1⟩
  case round =>
    obtain ⟨i, j, dk, rfl, rfl, hi, hj, HR, hAk⟩ := hrel
    have hbd := HR.out.bound
    have hsz : Hid (dk.size = n) := HR.out.choose_spec.choose_spec.choose_spec.choose_spec.2.2.2.2.2
    have c0 := (hAk.2.blk hT1 hTo).cell 0
    have c1 := (hAk.2.blk hT1 hTo).cell 1
    rcases Nat.lt_trichotomy i j with hij | hij | hij
    · have z1 : ¬ (i : Int) = (j : Int) := by omega
      have z2 : ¬ (j : Int) < (i : Int) := by omega
      have z1' : ((i : Int) == (j : Int)) = false := by simpa using z1
      go_wp2_with (go_at_call 213; (refine (HK.out (m - i) (m + j - i) i _ _ _ dk _ hAk hsz.out (by omega) (by omega) (by omega) (by omega) (by omega)).mono ?_); rintro e w5 ⟨rfl, hA5⟩)
      go_roundw
      case rel => exact ⟨i, j - i, _, rfl, by congr 1; omega, hi, by omega, HR.out.right hij, hA5⟩
      case measure => simp [intOf]; omega
    · subst hij
      go_wp2_with (go_at_call 213; (refine (HK.out (m - i) m i _ _ _ dk _ hAk hsz.out (by omega) (by omega) (by omega) (by omega) (by omega)).mono ?_); rintro e w5 ⟨rfl, hA5⟩)
      go_end0
      exact ⟨rfl, _, hA.swap hA5.1 ((hF1.mono (by simp)).trans hA5.2 (fun k hk _ => hk)), HR.out.done.1, HR.out.done.2⟩
    · have z1 : ¬ (i : Int) = (j : Int) := by omega
      have z1' : ((i : Int) == (j : Int)) = false := by simpa using z1
      have z2 : (j : Int) < (i : Int) := by omega
      go_wp2_with (go_at_call 213; (refine (HK.out (m - i) m j _ _ _ dk _ hAk hsz.out (by omega) (by omega) (by omega) (by omega) (by omega)).mono ?_); rintro e w5 ⟨rfl, hA5⟩)
      go_roundw
      case rel => exact ⟨i - j, j, _, by congr 1; omega, rfl, by omega, hj, HR.out.left hij, hA5⟩
      case measure => simp [intOf]; omega
end Go.Proofs.Wx

namespace Go.Proofs.Wx
open Go.Sort
variable {α : Type} [Inhabited α]
theorem swp_comm {d : Array α} {i j : Nat} : swp d i j = swp d j i := by
  by_cases h : i = j
  · subst h; rfl
  · unfold swp; rw [Array.setIfInBounds_comm _ _ h]
/-- The element at a goes up, t places. -/
def bub (a : Nat) : Nat → Array α → Array α
  | 0, d => d
  | t + 1, d => swp (bub a t d) (a + t) (a + t + 1)
/-- The element at m goes down, t places. -/
def bdn (m : Nat) : Nat → Array α → Array α
  | 0, d => d
  | t + 1, d => swp (bdn m t d) (m - t) (m - t - 1)
theorem size_bub (a : Nat) : ∀ (t : Nat) (d : Array α), (bub a t d).size = d.size
  | 0, _ => rfl
  | t + 1, d => by rw [bub, size_swp, size_bub a t d]
theorem size_bdn (m : Nat) : ∀ (t : Nat) (d : Array α), (bdn m t d).size = d.size
  | 0, _ => rfl
  | t + 1, d => by rw [bdn, size_swp, size_bdn m t d]
theorem bub_list : ∀ (t : Nat) {d : Array α} {P Y R : List α} {x : α} {a : Nat}, d.toList = P ++ x :: Y ++ R → a = P.length → Y.length = t → (bub a t d).toList = P ++ Y ++ x :: R
  | 0, d, P, Y, R, x, a, h, _, hY => by
    have hY := List.length_eq_zero_iff.1 hY
    subst hY; simpa [bub] using h
  | t + 1, d, P, Y, R, x, a, h, ha, hY => by
    obtain ⟨Y', y, rfl, hY'⟩ := snoc_of hY
    have ih := bub_list t (d := d) (P := P) (Y := Y') (R := y :: R) (x := x) (a := a) (by rw [h]; simp) ha hY'
    rw [bub, swp_list (A := P ++ Y') (x := x) (B := []) (y := y) (C := R) (by rw [ih]; simp) (by simp; omega) (by simp; omega)]
    simp
theorem bdn_list : ∀ (t : Nat) {d : Array α} {P Y R : List α} {x : α} {m : Nat}, d.toList = P ++ Y ++ x :: R → m = P.length + t → Y.length = t → (bdn m t d).toList = P ++ x :: Y ++ R
  | 0, d, P, Y, R, x, m, h, _, hY => by
    have hY := List.length_eq_zero_iff.1 hY
    subst hY; simpa [bdn] using h
  | t + 1, d, P, Y, R, x, m, h, hm, hY => by
    obtain ⟨y, Y', rfl⟩ : ∃ y Y', Y = y :: Y' := by
      cases Y with
      | nil => simp at hY
      | cons y Y' => exact ⟨y, Y', rfl⟩
    have ih := bdn_list t (d := d) (P := P ++ [y]) (Y := Y') (R := R) (x := x) (m := m) (by rw [h]; simp) (by simp; omega) (by simpa using hY)
    rw [bdn, swp_comm, swp_list (A := P) (x := y) (B := []) (y := x) (C := Y' ++ R) (by rw [ih]; simp) (by omega) (by simp; omega)]
    simp
variable {lt : α → α → Bool}
theorem ins_up (hO : SWO lt) {d : Array α} {a b i : Nat} (hai : a + 1 ≤ i) (hib : i ≤ b) (hb : b ≤ d.size) (s2 : SortedIn lt (a + 1) b d)
    (c1 : i = a + 1 ∨ lt d[i - 1]! d[a]! = true) (c2 : i = b ∨ lt d[i]! d[a]! = false) : PermIn a b d (bub a (i - 1 - a) d) ∧ SortedIn lt a b (bub a (i - 1 - a) d) := by
  have hd : d.toList = seg d 0 a ++ d[a]! :: seg d (a + 1) i ++ (seg d i b ++ seg d b d.size) := by
    rw [seg_whole (d := d) (a := a) (b := b) (by omega) hb, seg_cons (a := a) (b := b) (by omega) hb, ← seg_append (a := a + 1) (m := i) (b := b) hai hib]; simp
  have L0 : (seg d 0 a).length = a := by rw [seg_length (by omega)]; omega
  have L1 : (seg d (a + 1) i).length = i - 1 - a := by rw [seg_length (by omega)]; omega
  have L2 : (seg d i b).length = b - i := seg_length hb
  have e := bub_list (i - 1 - a) hd L0.symm L1
  have e2 : (bub a (i - 1 - a) d).toList = seg d 0 a ++ (seg d (a + 1) i ++ d[a]! :: seg d i b) ++ seg d b d.size := by rw [e]; simp
  have e1 : d.toList = seg d 0 a ++ (d[a]! :: seg d (a + 1) i ++ seg d i b) ++ seg d b d.size := by rw [hd]; simp
  refine ⟨perm_list e1 e2 List.perm_middle (by omega) (by simp only [List.cons_append, List.length_cons, List.length_append, L1, L2]; omega), ?_⟩
  rw [sorted_seg (by rw [size_bub]; exact hb), seg_of e2 (by omega) (by simp only [List.length_cons, List.length_append, L1, L2]; omega)]
  refine ins_core hO (by rw [seg_append hai hib]; exact (sorted_seg hb).1 s2) ?_ ?_
  · rcases c1 with rfl | c1
    · exact .inl seg_nil
    · by_cases h : a + 1 < i
      · exact .inr ⟨_, _, seg_snoc h (by omega), hO.asymmA c1⟩
      · exact .inl (by rw [show i = a + 1 by omega]; exact seg_nil)
  · rcases c2 with rfl | c2
    · exact .inl seg_nil
    · by_cases h : i < b
      · exact .inr ⟨_, _, seg_cons h hb, c2⟩
      · exact .inl (by rw [show i = b by omega]; exact seg_nil)
theorem ins_dn (hO : SWO lt) {d : Array α} {a m i : Nat} (hai : a ≤ i) (him : i ≤ m) (hb : m + 1 ≤ d.size) (s1 : SortedIn lt a m d)
    (c1 : i = a ∨ lt d[m]! d[i - 1]! = false) (c2 : i = m ∨ lt d[m]! d[i]! = true) : PermIn a (m + 1) d (bdn m (m - i) d) ∧ SortedIn lt a (m + 1) (bdn m (m - i) d) := by
  have hd : d.toList = (seg d 0 a ++ seg d a i) ++ seg d i m ++ d[m]! :: seg d (m + 1) d.size := by
    rw [seg_whole (d := d) (a := a) (b := m) (by omega) (by omega), seg_cons (a := m) (b := d.size) (by omega) (by omega), ← seg_append (a := a) (m := i) (b := m) hai him]; simp
  have L0 : (seg d 0 a).length = a := by rw [seg_length (by omega)]; omega
  have L1 : (seg d a i).length = i - a := seg_length (by omega)
  have L2 : (seg d i m).length = m - i := seg_length (by omega)
  have e := bdn_list (m - i) (m := m) hd (by rw [List.length_append, L0, L1]; omega) L2
  have e2 : (bdn m (m - i) d).toList = seg d 0 a ++ (seg d a i ++ d[m]! :: seg d i m) ++ seg d (m + 1) d.size := by rw [e]; simp
  have e1 : d.toList = seg d 0 a ++ (seg d a i ++ (seg d i m ++ [d[m]!])) ++ seg d (m + 1) d.size := by rw [hd]; simp
  refine ⟨perm_list e1 e2 ?_ (by omega) (by simp only [List.length_append, List.length_singleton, L1, L2]; omega), ?_⟩
  · refine List.Perm.append_left _ ?_
    simpa using (List.perm_append_comm (l₁ := [d[m]!]) (l₂ := seg d i m))
  rw [sorted_seg (by rw [size_bdn]; exact hb), seg_of e2 (by omega) (by simp only [List.length_append, List.length_cons, L1, L2]; omega)]
  refine ins_core hO (by rw [seg_append hai him]; exact (sorted_seg (by omega)).1 s1) ?_ ?_
  · rcases c1 with rfl | c1
    · exact .inl seg_nil
    · by_cases h : a < i
      · exact .inr ⟨_, _, seg_snoc h (by omega), c1⟩
      · exact .inl (by rw [show i = a by omega]; exact seg_nil)
  · rcases c2 with rfl | c2
    · exact .inl seg_nil
    · by_cases h : i < m
      · exact .inr ⟨_, _, seg_cons h (by omega), hO.asymmA c2⟩
      · exact .inl (by rw [show i = m by omega]; exact seg_nil)
end Go.Proofs.Wx

namespace Go.Proofs.Wx
open Go Go.RowKit Go.Sort
variable {α : Type} [Inhabited α] {s : St α} {lt : α → α → Bool} {n g sf : Nat} {lb sb : Array Value}
theorem symA {w0 w : World} {d : Array α} {a b : Nat} (hO : SWO lt) (D : FnS g lb sf sb s lt n) (hA : s.At w0 d w) (hn : d.size = n) (hab : a + 1 < b) (hb : b ≤ n) (s2 : SortedIn lt (a + 1) b d) :
    Calls Tryz.prog 172 #[FnV g lb sf sb, .int .i64 a, .int .i64 ((a + 1 : Nat) : Int), .int .i64 b] w fun e w' => e = .returned (.tuple #[]) ∧ ∃ d' : Array α, s.At w0 d' w' ∧ PermIn a b d d' ∧ SortedIn lt a b d' := by
  have hsm := D.small
  have eg := D.enters
  obtain ⟨W1, hW1⟩ : ∃ W1, Hid (W1 = w.alloc (.cells #[.func (.func g) #[] lb, .func (.func sf) #[] sb] 242)) := ⟨_, Lib.hid rfl⟩
  have hF1 : Fr [] w W1 := by rw [hW1.out]; exact Fr.alloc Fr.refl
  have hT1 : Blk W1 w.heap.size [.func (.func g) #[] lb, .func (.func sf) #[] sb] 242 (0, 0) := by rw [hW1.out]; exact Blk.new
  have hA1 : s.At W1 d W1 := St.At.start (s.fr hA.1 hF1 (by simp))
  have hTo : w.heap.size ∉ s.own := fun hm => by have := s.lt hA.1 _ hm; omega
  have HD := Lib.hid D
  have HS := Lib.hid s2
  have HH := Lib.hid hA
  clear D s2 hA
  unfold FnV
  obtain ⟨m, hm⟩ : ∃ m, Hid (m = a + 1) := ⟨_, rfl⟩
  rw [← hm.out]
  have z1 : ((m : Int) - (a : Int) == 1) = true := by rw [hm.out]; simp; omega
  have z2 : (m : Int) - (a : Int) = 1 := by rw [hm.out]; omega
  go_enter Tryz.func172, Tryz.ntmps172
  go_wp2
  rw [← hW1.out]
  go_loopw [8, 9] (fun vi vj wr => ∃ (i j : Nat), vi = .int .i64 i ∧ vj = .int .i64 j ∧ m ≤ i ∧ i ≤ j ∧ j ≤ b ∧ Hid (i = m ∨ lt d[i - 1]! d[a]! = true) ∧ Hid (j = b ∨ lt d[j]! d[a]! = false) ∧ s.At W1 d wr) (fun vi vj _ => (intOf vj).toNat - (intOf vi).toNat)
  case atStart => exact ⟨m, b, rfl, rfl, by omega, by have := hm.out; omega, by omega, Lib.hid (.inl rfl), Lib.hid (.inl rfl), hA1⟩
  case round =>
    obtain ⟨i, j, rfl, rfl, h1, h2, h3, HC1, HC2, hAi⟩ := hrel
    have c0 := (hAi.2.blk hT1 hTo).cell 0
    by_cases hij : i < j
    · have hz : (i : Int) < (j : Int) := by omega
      obtain ⟨h, hh⟩ : ∃ h, Hid (h = (i + j) / 2) := ⟨_, rfl⟩
      have hhz : ((h : Nat) : Int) = ((i : Int) + (j : Int)) / 2 := by rw [hh.out]; omega
      have hhi : i ≤ h ∧ h < j := by rw [hh.out]; omega
      have hl := HD.out.less h a hAi hn (by omega) (by omega)
      rw [hhz] at hl
      cases hlv : lt d[h]! d[a]! with
      | true =>
        rw [hlv] at hl
        have HV := Lib.hid hlv
        have HZ := Lib.hid hhz
        clear hlv hhz
        go_wp2_with (go_at_fn g; refine hl.mono ?_; rintro e w' ⟨rfl, hA3⟩)
        go_roundw
        case rel => exact ⟨h + 1, j, by congr 1; have := HZ.out; omega, rfl, by omega, by omega, h3, Lib.hid (.inr HV.out), HC2, hA3⟩
        case measure => simp [intOf]; have := HZ.out; omega
      | false =>
        rw [hlv] at hl
        have HV := Lib.hid hlv
        have HZ := Lib.hid hhz
        clear hlv hhz
        go_wp2_with (go_at_fn g; refine hl.mono ?_; rintro e w' ⟨rfl, hA3⟩)
        go_roundw
        case rel => exact ⟨i, h, rfl, by congr 1; have := HZ.out; omega, h1, by omega, by omega, HC1, Lib.hid (.inr HV.out), hA3⟩
        case measure => simp [intOf]; have := HZ.out; omega
    · have hz : ¬ (i : Int) < (j : Int) := by omega
      have hji : j = i := by omega
      subst hji
      clear hij h2
      go_wp2
      go_loopg [11] (j - 1 - a) (fun k s11 wr2 => ∃ (t : Nat) (X : Int), s11 = .int .i64 X ∧ Hid (X = ((a + t : Nat) : Int)) ∧ t + k = j - 1 - a ∧ s.At W1 (bub a t d) wr2)
      case atStart => exact ⟨0, _, rfl, Lib.hid rfl, by omega, hAi⟩
      case round =>
        obtain ⟨t, X, rfl, HX, htk, hAt⟩ := hrel
        have c1 := (hAt.2.blk hT1 hTo).cell 1
        have hma := hm.out
        have hX0 : 0 ≤ X := by rw [HX.out]; omega
        by_cases ht : t < j - 1 - a
        · have hz2 : X < (j : Int) - 1 := by rw [HX.out]; omega
          obtain ⟨w', hr, hA'⟩ := HD.out.swap (a + t) (a + t + 1) hAt (by rw [size_bub]; exact hn) (by omega) (by omega)
          rw [show ((a + t + 1 : Nat) : Int) = ((a + t : Nat) : Int) + 1 by omega, ← HX.out] at hr
          have HI := Lib.hid (And.intro htk ht)
          clear htk ht hma
          go_wp2
          go_roundg (j - 1 - a - (t + 1))
          case measure => have := HI.out.1; have := HI.out.2; omega
          case rel => exact ⟨t + 1, _, rfl, Lib.hid (by rw [HX.out]; omega), by have := HI.out.2; omega, hA'⟩
        · have hz2 : ¬ X < (j : Int) - 1 := by rw [HX.out]; omega
          have hte : t = j - 1 - a := by omega
          have hai : a + 1 ≤ j := by omega
          have HI := Lib.hid (And.intro hte hai)
          clear htk ht hma hte hai
          go_wp2
          refine bodyPost_ret (results_none rfl _ _ _) rfl ?_
          obtain ⟨hte, hai⟩ := HI.out
          subst hte
          have hma := hm.out
          obtain ⟨k1, k2⟩ := ins_up hO hai h3 (by omega) HS.out (by rw [← hma]; exact HC1.out) HC2.out
          exact ⟨rfl, _, HH.out.swap hAt.1 ((hF1.mono (by simp)).trans hAt.2 (fun k hk _ => hk)), k1, k2⟩
theorem symB {w0 w : World} {d : Array α} {a m : Nat} (hO : SWO lt) (D : FnS g lb sf sb s lt n) (hA : s.At w0 d w) (hn : d.size = n) (hab : a + 1 < m) (hb : m + 1 ≤ n) (s1 : SortedIn lt a m d) :
    Calls Tryz.prog 172 #[FnV g lb sf sb, .int .i64 a, .int .i64 m, .int .i64 ((m + 1 : Nat) : Int)] w fun e w' => e = .returned (.tuple #[]) ∧ ∃ d' : Array α, s.At w0 d' w' ∧ PermIn a (m + 1) d d' ∧ SortedIn lt a (m + 1) d' := by
  have hsm := D.small
  have eg := D.enters
  obtain ⟨W1, hW1⟩ : ∃ W1, Hid (W1 = w.alloc (.cells #[.func (.func g) #[] lb, .func (.func sf) #[] sb] 242)) := ⟨_, Lib.hid rfl⟩
  have hF1 : Fr [] w W1 := by rw [hW1.out]; exact Fr.alloc Fr.refl
  have hT1 : Blk W1 w.heap.size [.func (.func g) #[] lb, .func (.func sf) #[] sb] 242 (0, 0) := by rw [hW1.out]; exact Blk.new
  have hA1 : s.At W1 d W1 := St.At.start (s.fr hA.1 hF1 (by simp))
  have hTo : w.heap.size ∉ s.own := fun hm => by have := s.lt hA.1 _ hm; omega
  have HD := Lib.hid D
  have HS := Lib.hid s1
  have HH := Lib.hid hA
  clear D s1 hA
  unfold FnV
  obtain ⟨b, hm⟩ : ∃ b, Hid (b = m + 1) := ⟨_, rfl⟩
  rw [← hm.out]
  have z1 : ((m : Int) - (a : Int) == 1) = false := by simp; omega
  have z2 : ¬ (m : Int) - (a : Int) = 1 := by omega
  have z3 : ((b : Int) - (m : Int) == 1) = true := by rw [hm.out]; simp; omega
  have z4 : (b : Int) - (m : Int) = 1 := by rw [hm.out]; omega
  go_enter Tryz.func172, Tryz.ntmps172
  go_wp2
  rw [← hW1.out]
  go_loopw [12, 13] (fun vi vj wr => ∃ (i j : Nat), vi = .int .i64 i ∧ vj = .int .i64 j ∧ a ≤ i ∧ i ≤ j ∧ j ≤ m ∧ Hid (i = a ∨ lt d[m]! d[i - 1]! = false) ∧ Hid (j = m ∨ lt d[m]! d[j]! = true) ∧ s.At W1 d wr) (fun vi vj _ => (intOf vj).toNat - (intOf vi).toNat)
  case atStart => exact ⟨a, m, rfl, rfl, by omega, by omega, by omega, Lib.hid (.inl rfl), Lib.hid (.inl rfl), hA1⟩
  case round =>
    obtain ⟨i, j, rfl, rfl, h1, h2, h3, HC1, HC2, hAi⟩ := hrel
    have c0 := (hAi.2.blk hT1 hTo).cell 0
    by_cases hij : i < j
    · have hz : (i : Int) < (j : Int) := by omega
      obtain ⟨h, hh⟩ : ∃ h, Hid (h = (i + j) / 2) := ⟨_, rfl⟩
      have hhz : ((h : Nat) : Int) = ((i : Int) + (j : Int)) / 2 := by rw [hh.out]; omega
      have hhi : i ≤ h ∧ h < j := by rw [hh.out]; omega
      have hl := HD.out.less m h hAi hn (by omega) (by omega)
      rw [hhz] at hl
      cases hlv : lt d[m]! d[h]! with
      | false =>
        rw [hlv] at hl
        have HV := Lib.hid hlv
        have HZ := Lib.hid hhz
        clear hlv hhz
        go_wp2_with (go_at_fn g; refine hl.mono ?_; rintro e w' ⟨rfl, hA3⟩)
        go_roundw
        case rel => exact ⟨h + 1, j, by congr 1; have := HZ.out; omega, rfl, by omega, by omega, h3, Lib.hid (.inr HV.out), HC2, hA3⟩
        case measure => simp [intOf]; have := HZ.out; omega
      | true =>
        rw [hlv] at hl
        have HV := Lib.hid hlv
        have HZ := Lib.hid hhz
        clear hlv hhz
        go_wp2_with (go_at_fn g; refine hl.mono ?_; rintro e w' ⟨rfl, hA3⟩)
        go_roundw
        case rel => exact ⟨i, h, rfl, by congr 1; have := HZ.out; omega, h1, by omega, by omega, HC1, Lib.hid (.inr HV.out), hA3⟩
        case measure => simp [intOf]; have := HZ.out; omega
    · have hz : ¬ (i : Int) < (j : Int) := by omega
      have hji : j = i := by omega
      subst hji
      clear hij h2
      go_wp2
      go_loopg [15] (m - j) (fun k s11 wr2 => ∃ (t : Nat) (X : Int), s11 = .int .i64 X ∧ Hid (X = ((m - t : Nat) : Int)) ∧ t + k = m - j ∧ s.At W1 (bdn m t d) wr2)
      case atStart => exact ⟨0, _, rfl, Lib.hid rfl, by omega, hAi⟩
      case round =>
        obtain ⟨t, X, rfl, HX, htk, hAt⟩ := hrel
        have c1 := (hAt.2.blk hT1 hTo).cell 1
        have hma := hm.out
        have hX0 : 0 ≤ X := by rw [HX.out]; omega
        have hX1 : X ≤ (m : Int) := by rw [HX.out]; omega
        by_cases ht : t < m - j
        · have hz2 : (j : Int) < X := by rw [HX.out]; omega
          obtain ⟨w', hr, hA'⟩ := HD.out.swap (m - t) (m - t - 1) hAt (by rw [size_bdn]; exact hn) (by omega) (by omega)
          rw [show ((m - t - 1 : Nat) : Int) = ((m - t : Nat) : Int) - 1 by omega, ← HX.out] at hr
          have HI := Lib.hid (And.intro htk ht)
          clear htk ht hma
          go_wp2
          go_roundg (m - j - (t + 1))
          case measure => have := HI.out.1; have := HI.out.2; omega
          case rel => exact ⟨t + 1, _, rfl, Lib.hid (by rw [HX.out]; have := HI.out.2; omega), by have := HI.out.2; omega, hA'⟩
        · have hz2 : ¬ (j : Int) < X := by rw [HX.out]; omega
          have hte : t = m - j := by omega
          have HI := Lib.hid hte
          clear htk ht hma hte
          go_wp2
          refine bodyPost_ret (results_none rfl _ _ _) rfl ?_
          have hte := HI.out
          subst hte
          have hma := hm.out
          subst hma
          obtain ⟨k1, k2⟩ := ins_dn hO h1 h3 (by omega) HS.out HC1.out HC2.out
          exact ⟨rfl, _, HH.out.swap hAt.1 ((hF1.mono (by simp)).trans hAt.2 (fun k hk _ => hk)), k1, k2⟩
end Go.Proofs.Wx

namespace Go.Proofs.Wx
open Go.Sort
variable {α : Type} [Inhabited α] {lt : α → α → Bool}
/-- The search's first bounds. -/
def Sy0 (a m b mid st0 r0 : Nat) : Prop := (mid < m ∧ st0 = mid + m - b ∧ r0 = mid) ∨ (m ≤ mid ∧ st0 = a ∧ r0 = m)
theorem Sy0.le {a m b mid st0 r0 : Nat} (h : Sy0 a m b mid st0 r0) (ham : a < m) (hmb : m < b) (hmid : mid = (a + b) / 2) : a ≤ st0 ∧ st0 ≤ r0 ∧ r0 ≤ m ∧ r0 ≤ mid ∧ mid + m ≤ b + st0 ∧ a < mid ∧ mid < b ∧ 0 < r0 := by
  unfold Sy0 at h; omega
/-- The search's state. -/
structure Sy (lt : α → α → Bool) (a m b mid st0 r0 st r : Nat) (d : Array α) : Prop where
  le1 : st0 ≤ st
  le2 : st ≤ r
  le3 : r ≤ r0
  c1 : st = st0 ∨ lt d[mid + m - st]! d[st - 1]! = false
  c2 : r = r0 ∨ lt d[mid + m - 1 - r]! d[r]! = true
theorem Sy.up {a m b mid st0 r0 st r c : Nat} {d : Array α} (h : Sy lt a m b mid st0 r0 st r d) (hc : st ≤ c) (hr : c < r) (hl : lt d[mid + m - 1 - c]! d[c]! = false) : Sy lt a m b mid st0 r0 (c + 1) r d :=
  ⟨by have := h.le1; omega, by omega, h.le3, .inr (by rw [show mid + m - (c + 1) = mid + m - 1 - c by omega]; exact hl), h.c2⟩
theorem Sy.down {a m b mid st0 r0 st r c : Nat} {d : Array α} (h : Sy lt a m b mid st0 r0 st r d) (hc : st ≤ c) (hr : c < r) (hl : lt d[mid + m - 1 - c]! d[c]! = true) : Sy lt a m b mid st0 r0 st c d :=
  ⟨h.le1, hc, by have := h.le3; omega, h.c1, .inr hl⟩
theorem Sy.fin (hO : SWO lt) {a m b mid st0 r0 st : Nat} {d : Array α} (h0 : Sy0 a m b mid st0 r0) (ham : a < m) (hmb : m < b) (hmid : mid = (a + b) / 2) (h : Sy lt a m b mid st0 r0 st st d) :
    a ≤ st ∧ st ≤ m ∧ st ≤ mid ∧ m ≤ mid + m - st ∧ mid + m - st ≤ b ∧ (st = a ∨ mid + m - st = b ∨ lt d[mid + m - st]! d[st - 1]! = false) ∧ (m = mid + m - st ∨ st = m ∨ lt d[st]! d[mid + m - st - 1]! = false) := by
  have h2 := h0.le ham hmb hmid
  obtain ⟨k1, k2, k3, c1, c2⟩ := h
  refine ⟨by omega, by omega, by omega, by omega, by omega, ?_, ?_⟩
  · rcases c1 with c1 | c1
    · unfold Sy0 at h0; omega
    · exact .inr (.inr c1)
  · rcases c2 with c2 | c2
    · unfold Sy0 at h0; omega
    · refine .inr (.inr ?_)
      rw [show mid + m - st - 1 = mid + m - 1 - st by omega]; exact hO.asymmA c2
/-- The row with its middle turned. -/
def Turned (d : Array α) (st m en : Nat) (d1 : Array α) : Prop := d1.toList = seg d 0 st ++ seg d m en ++ seg d st m ++ seg d en d.size
theorem Turned.size {d d1 : Array α} {st m en : Nat} (h : Turned d st m en d1) (h2 : st ≤ m) (h3 : m ≤ en) (h4 : en ≤ d.size) : d1.size = d.size := by
  rw [size_of h]; simp [seg_length (show st ≤ d.size by omega), seg_length (show m ≤ d.size by omega), seg_length (show en ≤ d.size by omega), seg_length (Nat.le_refl d.size)]; omega
theorem Turned.same {d : Array α} {st m en : Nat} (h : st = m ∨ m = en) (h2 : st ≤ m) (h3 : m ≤ en) (h4 : en ≤ d.size) : Turned d st m en d := by
  unfold Turned
  rcases h with rfl | rfl
  · rw [seg_nil, List.append_nil]; exact seg_whole h3 h4
  · rw [seg_nil, List.append_nil]; exact seg_whole h2 h4
theorem Turned.left {d d1 : Array α} {a st m en mid : Nat} (h : Turned d st m en d1) (h1 : a ≤ st) (h2 : st ≤ m) (h3 : m ≤ en) (h4 : en ≤ d.size) (hmid : st + en = mid + m) :
    seg d1 a st = seg d a st ∧ seg d1 st mid = seg d m en ∧ seg d1 mid en = seg d st m ∧ ∀ b, en ≤ b → b ≤ d.size → seg d1 en b = seg d en b := by
  have L0 : (seg d 0 a).length = a := by rw [seg_length (by omega)]; omega
  have L1 : (seg d a st).length = st - a := seg_length (by omega)
  have L2 : (seg d st m).length = m - st := seg_length (by omega)
  have L3 : (seg d m en).length = en - m := seg_length (by omega)
  have hd : d1.toList = seg d 0 a ++ seg d a st ++ seg d m en ++ seg d st m ++ seg d en d.size := by
    rw [h, ← seg_append (d := d) (a := 0) (m := a) (b := st) (by omega) (by omega)]
  refine ⟨seg_of (P := seg d 0 a) (S := seg d m en ++ seg d st m ++ seg d en d.size) (by rw [hd]; simp) (by omega) (by omega), seg_of (P := seg d 0 a ++ seg d a st) (S := seg d st m ++ seg d en d.size) (by rw [hd]; simp) (by simp only [List.length_append, L0, L1]; omega) (by omega),
    seg_of (P := seg d 0 a ++ seg d a st ++ seg d m en) (S := seg d en d.size) (by rw [hd]) (by simp only [List.length_append, L0, L1, L3]; omega) (by omega), fun b hb1 hb2 => ?_⟩
  rw [← seg_append (d := d) (a := en) (m := b) (b := d.size) hb1 hb2] at hd
  exact seg_of (P := seg d 0 a ++ seg d a st ++ seg d m en ++ seg d st m) (S := seg d b d.size) (by rw [hd]; simp) (by simp only [List.length_append, L0, L1, L2, L3]; omega) (by rw [seg_length hb2]; omega)
theorem sin_sub {a b x y : Nat} {d : Array α} (h : SortedIn lt a b d) (h1 : a ≤ x) (h2 : y ≤ b) : SortedIn lt x y d := fun i j hi hij hj => h i j (by omega) hij (by omega)
theorem sin_seg {d d' : Array α} {a b x y : Nat} (h : SortedIn lt x y d) (hy : y ≤ d.size) (hb : b ≤ d'.size) (e : seg d' a b = seg d x y) : SortedIn lt a b d' := (sorted_seg hb).2 (by rw [e]; exact (sorted_seg hy).1 h)
theorem Turned.sorted {d d1 : Array α} {a b st m en mid : Nat} (h : Turned d st m en d1) (h1 : a ≤ st) (h2 : st ≤ m) (h3 : m ≤ en) (h4 : en ≤ b) (h5 : b ≤ d.size) (hmid : st + en = mid + m) (s1 : SortedIn lt a m d) (s2 : SortedIn lt m b d) :
    SortedIn lt a st d1 ∧ SortedIn lt st mid d1 ∧ ∀ d2, PermIn a mid d1 d2 → SortedIn lt mid en d2 ∧ SortedIn lt en b d2 := by
  have hs := h.size h2 h3 (by omega)
  obtain ⟨e1, e2, e3, e4⟩ := h.left h1 h2 h3 (by omega) hmid
  refine ⟨sin_seg (sin_sub s1 (Nat.le_refl _) h2) (by omega) (by omega) e1, sin_seg (sin_sub s2 (Nat.le_refl _) h4) (by omega) (by omega) e2, fun d2 hp => ?_⟩
  have hs2 := hp.1
  exact ⟨sin_seg (sin_sub s1 h1 (Nat.le_refl _)) (x := st) (y := m) (by omega) (by omega) (by rw [perm_out hp (by omega) (.inr (Nat.le_refl _)), e3]),
    sin_seg (sin_sub s2 h3 (Nat.le_refl _)) (x := en) (y := b) (by omega) (by omega) (by rw [perm_out hp (by omega) (.inr (by omega)), e4 b h4 h5])⟩
theorem sorted_nil {a b : Nat} {d : Array α} (h : b ≤ a) : SortedIn lt a b d := fun i j hi hij hj => by omega
end Go.Proofs.Wx
