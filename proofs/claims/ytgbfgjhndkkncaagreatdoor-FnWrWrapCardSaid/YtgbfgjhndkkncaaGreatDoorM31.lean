import Derived.Test.YtgbfgjhndkkncaaGreatDoorM12
import Derived.Test.YtgbfgjhndkkncaaGreatDoorM16
import Derived.Test.YtgbfgjhndkkncaaGreatDoorM21
import Derived.Test.YtgbfgjhndkkncaaGreatDoorM26
import Derived.Test.YtgbfgjhndkkncaaGreatDoorM30
set_option maxRecDepth 100000
set_option maxHeartbeats 1000000
set_option linter.unusedVariables false
set_option linter.unusedSimpArgs false
set_option linter.deprecated false
namespace Go.Proofs.Wx
open Go Go.RowKit
theorem sorted_list {d d' : Array Int} {n : Nat} (hn : d.size = n) (hp : Go.Sort.PermIn 0 n d d') (hs : Go.Sort.SortedIn Go.Sort.ltInt 0 n d') : d'.toList.Perm d.toList ∧ d'.toList.Pairwise (· ≤ ·) := by
  obtain ⟨h1, _, h3⟩ := hp
  subst hn
  refine ⟨?_, ?_⟩
  · have e1 : (d'.extract 0 d.size).toList = d'.toList := by rw [← h1]; simp
    have e2 : (d.extract 0 d.size).toList = d.toList := by simp
    rwa [e1, e2] at h3
  rw [List.pairwise_iff_getElem]
  intro i j hi hj hij
  have := hs i j (Nat.zero_le _) hij (by simpa [h1] using hj)
  simp only [Go.Sort.ltInt, decide_eq_false_iff_not] at this
  have e1 : d'[i]! = d'.toList[i] := by simp at hi; simp [hi]
  have e2 : d'[j]! = d'.toList[j] := by simp at hj; simp [hj]
  rw [e1, e2] at this
  omega
theorem Mp.len {P : Program} {w : World} {b : Nat} {q : IntKind} {L : List (Nat × Value)} (h : Mp w b q L) {T K E : TypeId} (hu : P.underlying T = some (.map K E)) (ty : TypeId) :
    (Builtin.len_ #[T] ty #[.map (some b)]).run P w = .ok (.int .i64 L.length) w := by
  obtain ⟨es, c, h1, h2, _⟩ := h
  have : es.size = L.length := by
    have := congrArg List.length h2
    simpa using this
  simp [Builtin.len_, run_underlying hu, getObj, Sem.run_bind, Sem.run, h1, Result.andThen, this, goInt]
theorem u64_slice : Tryz.prog.underlying 115 = some (.slice 30) := by kernel_rfl
theorem u64_info : (Tryz.prog.info? 30).map (fun i => (i.zero, i.size, i.bytes)) = some (some (.int .u64 0), 1, 8) := by kernel_rfl
theorem make_n {P : Program} {T e : TypeId} {z : Value} {q n : Nat} (hs : P.underlying T = some (.slice e)) (hi : (P.info? e).map (fun i => (i.zero, i.size, i.bytes)) = some (some z, 1, q)) (hb : q ≤ 1000) (hn : n ≤ 1000) (hz : z.cells = #[z]) (w : World) :
    (Instr.makeSlice T (.int .i64 0) (.int .i64 n)).run P w = .ok (.slice (some ⟨w.heap.size, 0, none⟩) 0 n) (w.alloc (.cells (List.replicate n z).toArray e (0, 0))) := by
  obtain ⟨i, hi, hz1, hs1, hby⟩ := info_parts hi
  have hm : n * q ≤ 1000 * 1000 := Nat.mul_le_mul hn hb
  have h3 : n * q ≤ 140737488355328 := by omega
  have h4 : (q : Int) * (n : Int) ≤ 281474976710656 := by rw [← Int.natCast_mul, Nat.mul_comm]; omega
  have hr := run_make (P := P) w _ _ i z hs hi hz1 .i64 .i64 0 n (by omega) (by omega) (by rw [hby]; first | exact h4 | (simpa using h4) | omega) (by omega)
  rw [hs1, hz] at hr
  have e : madeCells #[z] (n * 1) = (List.replicate n z).toArray := by
    have := toList_madeCells_one z (n * 1)
    rw [Nat.mul_one] at *
    rw [← this]
  simp only [Int.toNat_natCast, Int.toNat_zero, e] at hr
  exact hr
/-- make of a row of numbers. -/
theorem makeNk {P : Program} {o : Oper} {a : Act} {K : Act → World → Prop} {Q : Exit → Act → World → Prop} {w : World} (l c : Operand) (T e : TypeId) (ho : o.op = .makeSlice T l c) {z : Value} {q n : Nat} (hs : P.underlying T = some (.slice e))
    (hi : (P.info? e).map (fun i => (i.zero, i.size, i.bytes)) = some (some z, 1, q)) (hb : q ≤ 1000) (hn : n ≤ 1000) (hz : z.cells = #[z]) (hl : a.eval l = .int .i64 0) (hc : a.eval c = .int .i64 n) (G : Nat) (hG : G = w.heap.size)
    (h : ∀ w', Blk w' G (List.replicate n z) e (0, 0) → Fr [] w w' → K (a.put o.dst (.slice (some ⟨G, 0, none⟩) 0 n)) w') : o.wp P a w K Q := by
  subst hG
  have hr := make_n hs hi hb hn hz w
  unfold Oper.wp execOp
  simp only [ho, hl, hc, Sem.run_bind, Sem.run_pure, Result.andThen_ok, hr, Oper.upon_value]
  exact h _ Blk.new (Fr.alloc Fr.refl)
theorem own_start {w : World} {g n : Nat} {e : TypeId} {z : Value} (h : Blk w g (List.replicate n z) e (0, 0)) (hn : n ≤ 1000) : w.ownsRow g e 1 (.slice (some ⟨g, 0, none⟩) 0 n) 0 [] :=
  ⟨by simp, .inr ⟨g, n, (List.replicate n z).toArray, rfl, Nat.le_refl _, h, Nat.zero_le _, by unfold maxLen; omega, by simp, by simp⟩⟩
theorem cast_inv {l : List Int} {done : List Nat} (h : l.Perm (done.map fun (x : Nat) => (x : Int))) : ∃ zs : List Nat, l = zs.map (fun (x : Nat) => (x : Int)) ∧ zs.Perm done := by
  refine ⟨l.map Int.toNat, ?_, ?_⟩
  · rw [List.map_map]
    refine ((List.map_congr_left fun x hx => ?_).trans (List.map_id l)).symm
    obtain ⟨y, _, rfl⟩ := List.mem_map.1 (h.mem_iff.1 hx)
    simp
  · have := h.map Int.toNat
    rw [List.map_map] at this
    have e : (Int.toNat ∘ fun (x : Nat) => (x : Int)) = id := by funext x; simp
    rwa [e, List.map_id] at this
theorem own_row {w : World} {base n : Nat} {e : TypeId} {v : Value} {xs : List Value} (h : w.ownsRow base e 1 v n xs) (hv : 0 < n ∨ ∃ g c, v = .slice (some ⟨g, 0, none⟩) n c) : ∃ g c rest, v = .slice (some ⟨g, 0, none⟩) n c ∧ base ≤ g ∧ Blk w g (xs ++ rest) e (0, 0) := by
  rcases h.2 with ⟨rfl, h0⟩ | ⟨g, cap, cur, rfl, hb, hg, _, _, _, ht⟩
  · rcases hv with hv | ⟨g, c, hv⟩
    · omega
    · cases hv
  · refine ⟨g, cap, cur.toList.drop (n * 1), rfl, hb, ?_⟩
    have : Blk w g cur.toList e (0, 0) := hg
    exact this.conv (by rw [← ht, List.take_append_drop])
def keysRel (w : World) (r bm base : Nat) (k : IntKind) (e : TypeId) (M : List (Nat × Value)) (n : Nat) (s3 : Value) (wr : World) : Prop :=
  ∃ (rem : List (Nat × Value)) (done : List Nat), rem.length = n ∧ (M.map (·.1)).Perm (done ++ rem.map (·.1)) ∧ wr.ownsRow base e 1 s3 done.length (done.map fun (x : Nat) => Value.int k x) ∧ (∃ g c, s3 = .slice (some ⟨g, 0, none⟩) done.length c ∧ g ≠ r) ∧ It wr r bm k rem ∧ Fr [] w wr
set_option maxRecDepth 1000000 in
set_option maxHeartbeats 12800000 in
theorem sortedCodes {w : World} {ix bm : Nat} {T : TypeId} {M : List (Nat × Value)} (hI : Blk w ix [.map (some bm)] T (0, 0)) (hM : Mp w bm .u64 M) (hn : M.length ≤ 50) (hLen : LenC) :
    Calls Tryz.prog 276 #[.pointer (some ⟨ix, 0, none⟩)] w fun e w' => ∃ g c, ∃ zs : List Nat, e = .returned (.slice (some ⟨g, 0, none⟩) M.length c) ∧ w.heap.size ≤ g ∧ (∀ k (h : k < zs.length), w'.cell? ⟨g, k, none⟩ = some (.int .u64 (zs[k] : Nat))) ∧
      g < w'.heap.size ∧ zs.Perm (M.map (·.1)) ∧ zs.Pairwise (· ≤ ·) ∧ Fr [] w w' := by
  have hc := hI.cells
  have hml := hM.len (P := Tryz.prog) (T := 192) (K := 30) (E := 397) (by kernel_rfl)
  have hN := Lib.hid hn
  obtain ⟨G, hG⟩ : ∃ G, G = w.heap.size := ⟨_, rfl⟩
  have HG := Lib.hid hG
  have hIl := hI.lt
  have hMl := hM.lt
  clear hn hG
  go_enter Tryz.func276, Tryz.ntmps276
  go_wp2_with (first
    | ((with_reducible refine list_makeSlice (fun K hK => ?_));  refine makeNk _ _ 115 30 rfl (n := M.length) u64_slice u64_info (by omega) (by have := hN.out; omega) rfl rfl rfl G HG.out (fun w1 hg1 hF1 => ?_); have hI1 := hF1.blk hI (by simp); have hc1 := hI1.cells; have hM1 := hM.fr hF1 (by simp); obtain ⟨ob, hrg, hIt⟩ := hM1.range (P := Tryz.prog) (T := 192) (K := 30) (E := 397) (by kernel_rfl); have hG1 := hg1.lt; clear hc))
  have hF2 : Fr [] w1 (w1.alloc ob) := Fr.alloc Fr.refl
  have hbR : bm ≠ w1.heap.size ∧ G ≠ w1.heap.size ∧ w.heap.size ≤ w1.heap.size := by have := hM1.lt; have := hF1.size; omega
  have hO0 := own_fr (own_start hg1 (by have := hN.out; omega)) hF2 (by simp)
  clear hrg
  generalize w1.alloc ob = w2 at *
  generalize w1.heap.size = R at *
  have hF02 := hF1.trans hF2 (S := []) (by simp)
  go_loopg [3] M.length (fun k s3 wr => keysRel w R bm G .u64 30 M k s3 wr)
  case atStart => exact ⟨M, [], rfl, by simp, hO0, ⟨_, _, rfl, hbR.2.1⟩, hIt, hF02⟩
  case round =>
    obtain ⟨rem, done, hk, hp, hO, ⟨g3, c3, rfl, hgR⟩, hIr, hFr⟩ := hrel
    clear hO0 hIt hM1 hI1 hc1 hg1 hF1 hF2 hF02
    have hdl : done.length + rem.length = M.length := by have := hp.length_eq; simpa using this.symm
    rcases hIr.next (P := Tryz.prog) 0 (Ne.symm hbR.1) with ⟨h0, hrun⟩ | ⟨k, v, rem', w3, hperm, hrun, hI3, hE3, hF3⟩
    · subst h0
      obtain ⟨g, c, rest, hv, hgb, hgB⟩ := own_row hO (.inr ⟨_, _, rfl⟩)
      cases hv
      have hdn : done.length = M.length := by simpa using hdl
      have hS : (U64.row g3 rest).S (done.map fun (x : Nat) => (x : Int)).toArray wr := Blk.conv hgB (by first | (simp [List.map_map]; done) | (simp [List.map_map]; rfl))
      have hso := U64.sortU (n := done.length) (c := c3) hLen hS (by simp) (by have := hN.out; omega)
      have HK := Lib.hid (And.intro hdn (And.intro hp hgb))
      clear hS hgB hp hdn hgb
      go_wp2_with (first
        | go_at_call 282; refine hso.mono ?_; rintro e w4 ⟨rfl, d', hS4, hF4, hp4, hs4⟩)
      go_ret
      obtain ⟨hdn, hp, hgb⟩ := HK.out
      obtain ⟨q1, q2⟩ := sorted_list (by simp) hp4 hs4
      obtain ⟨zs, hz1, hz2⟩ := cast_inv (by simpa using q1)
      refine ⟨g3, c3, zs, by first | rfl | (rw [hdn]; rfl), by have := HG.out; omega, ?_, Blk.lt hS4, hz2.trans (by simpa using hp.symm), ?_, hFr.trans hF4 (by intro k hk hl; simp at hk; have := HG.out; omega)⟩
      · intro k hk
        have hk' : k < d'.size := by have := congrArg List.length hz1; simp at this; omega
        obtain ⟨x, hx1, hx2⟩ := U64.row_at (St.At.start hS4) rfl hk'
        rw [hx1, hx2.out]
        have e : d'[k]! = d'.toList[k]'(by simpa using hk') := by simp [hk']
        rw [e]
        simp only [hz1, List.getElem_map]
      · rw [hz1, List.pairwise_map] at q2
        exact q2.imp fun h => by simpa using h
    · have hl1 : rem'.length + 1 = rem.length := by have := hperm.length_eq; simpa using this.symm
      have her := hE3.run (P := Tryz.prog)
      have hO3 := own_fr hO hF3 (by simp; exact .inr (fun e => hgR (by simpa [Value.ownBlock] using e)))
      have hbud : done.length + 1 ≤ 50 := by have := hN.out; omega
      have HP := Lib.hid (And.intro hp (And.intro hperm (And.intro hl1 hk)))
      clear hp hperm hl1 hk hIr
      go_wp2_with (first
        | ((with_reducible refine list_bi .append (fun K hK => ?_));  refine appOwnX _ _ 115 rfl G 30 (.int .u64 0) 1 8 u64_slice u64_info rfl (by omega) (.slice (some ⟨g3, 0, none⟩) done.length c3) _ _ rfl (own_fr (S := []) hO3 (by exact frP) (by simp)) _ 1 _ [.int .u64 (k : Nat)] rfl (by omega) rfl (newOne (by simp)) (by intro u hu; simp at hu; subst hu; rfl) (by omega) (by omega) (by have := hO.lt g3 rfl; have := hF3.size; simp; omega) (fun v2 w5 hO5 hF5 hw5 hs5 => ?_)))
      obtain ⟨hp, hperm, hl1, hk⟩ := HP.out
      obtain ⟨g5, c5, rfl⟩ := hs5
      go_roundg rem'.length
      case measure => omega
      case rel =>
        have hIl3 : R < w3.heap.size := by have := hF3.size; have := hI3; obtain ⟨_, _, _, _, h2, _⟩ := this; exact (Array.getElem?_eq_some_iff.1 h2).1
        have hF35 : Fr [g3] w3 w5 := Fr.trans (S := [g3]) (by exact frP) hF5 (by simp [Value.ownBlock])
        refine ⟨rem', done ++ [k], rfl, ?_, by simpa using hO5, ⟨g5, c5, by simp, ?_⟩, hI3.fr hF35 (by simp; exact fun e => hgR e.symm) ?_, (hFr.trans hF3 ?_).trans hF35 ?_⟩
        · have := hperm.map (·.1)
          refine hp.trans ?_
          rw [List.append_assoc]
          exact List.Perm.append_left _ (by simpa using this)
        · intro e
          subst e
          rcases hw5 with h | h
          · exact hgR (by simpa [Value.ownBlock] using h.symm)
          · simp [Value.ownBlock] at h; omega
        · simp
          intro e
          have h1 := hM.lt
          have h2 := own_ge hO g3 (by simp [Value.ownBlock])
          have := HG.out
          omega
        · intro k hk hl; simp at hk; omega
        · intro k hk hl; simp at hk
          have h2 := own_ge hO g3 (by simp [Value.ownBlock])
          have := HG.out
          omega
end Go.Proofs.Wx

namespace Go.Proofs.Wx
open Go Go.RowKit
def swV (n cnt ib : Nat) : Value := .agg #[.int .u32 (n + 8 : Nat), .int .u64 cnt, .slice (some ⟨ib, 0, none⟩) ((n + 8) * cnt) ((n + 8) * cnt)]
/-- The map bm holds the buckets of these entries, by their widths. All of it lies in blocks from lo on, below hi. -/
structure Grp (w : World) (bm lo hi : Nat) (l : List Itm) (ks : List Nat) (ib : Nat → Nat) : Prop where
  map : Mp w bm .u32 (ks.map fun n => (n + 8, swV n (ofW l n).length (ib n)))
  mapB : lo ≤ bm ∧ bm < hi
  nodup : ks.Nodup
  mem : ∀ n, n ∈ ks ↔ n ∈ l.map fun e => e.1.dig.length
  rows : ∀ n ∈ ks, Bs w (ib n) 0 (rowsB (sortD (ofW l n))) ∧ lo ≤ ib n ∧ ib n < hi
theorem Grp.fr {w w' : World} {bm lo hi : Nat} {l : List Itm} {ks : List Nat} {ib : Nat → Nat} {S : List Nat} (h : Grp w bm lo hi l ks ib) (hf : Fr S w w') (hS : ∀ k ∈ S, k < lo ∨ hi ≤ k) : Grp w' bm lo hi l ks ib :=
  ⟨h.map.fr hf (fun hm => by have := h.mapB; rcases hS _ hm with h | h <;> omega), h.mapB, h.nodup, h.mem, fun n hn => by
    obtain ⟨h1, h2, h3⟩ := h.rows n hn
    exact ⟨h1.fr hf (fun hm => by rcases hS _ hm with h | h <;> omega), h2, h3⟩⟩
theorem look_sw {l : List Itm} {ib : Nat → Nat} {n : Nat} : ∀ {ks : List Nat}, n ∈ ks → (ks.map fun n => (n + 8, swV n (ofW l n).length (ib n))).lookup (n + 8) = some (swV n (ofW l n).length (ib n))
  | k :: ks, h => by
    rw [List.map_cons, List.lookup_cons]
    by_cases e : n = k
    · subst e; simp
    · have : (n + 8 == k + 8) = false := by simp; omega
      rw [this]
      rcases List.mem_cons.1 h with h | h
      · exact absurd h e
      · exact look_sw h
theorem asc_of {zs : List Nat} (h : zs.Pairwise (· ≤ ·)) (hn : zs.Nodup) : zs.Pairwise (· < ·) := by
  refine (h.and hn).imp fun h => ?_
  obtain ⟨h1, h2⟩ := h
  omega
theorem Grp.widths {w : World} {bm lo hi : Nat} {l : List Itm} {ks : List Nat} {ib : Nat → Nat} (h : Grp w bm lo hi l ks ib) {zs : List Nat} (hp : zs.Perm (ks.map (· + 8))) (hs : zs.Pairwise (· ≤ ·)) : zs = (widthsOf l).map (· + 8) := by
  have hnd : zs.Nodup := (hp.nodup_iff).2 (by have := h.nodup; unfold List.Nodup at *; rw [List.pairwise_map]; exact this.imp fun h => by omega)
  refine asc_unique (asc_of hs hnd) ?_ fun x => ?_
  · rw [List.pairwise_map]
    exact (ascOf_asc _).imp fun h => by simpa using h
  · rw [hp.mem_iff]
    simp only [List.mem_map]
    constructor
    · rintro ⟨n, hn, rfl⟩
      exact ⟨n, (mem_ascOf _ _).2 ((h.mem n).1 hn), rfl⟩
    · rintro ⟨n, hn, rfl⟩
      exact ⟨n, (h.mem n).2 ((mem_ascOf _ _).1 hn), rfl⟩
theorem insN_length (x : Nat) : ∀ l, (insN x l).length ≤ l.length + 1
  | [] => by simp [insN]
  | y :: l => by
    have := insN_length x l
    unfold insN
    split
    · simp
    · split <;> simp <;> omega
theorem ascOf_length : ∀ l : List Nat, (ascOf l).length ≤ l.length
  | [] => by simp [ascOf]
  | x :: l => by
    have h1 := ascOf_length l
    have h2 := insN_length x (ascOf l)
    show (insN x (ascOf l)).length ≤ _
    simp; omega
theorem widths_length {w : World} {bm lo hi : Nat} {l : List Itm} {ks : List Nat} {ib : Nat → Nat} (h : Grp w bm lo hi l ks ib) : (widthsOf l).length = ks.length ∧ ks.length ≤ l.length := by
  have hp : (widthsOf l).Perm ks := by
    refine (List.perm_ext_iff_of_nodup ((ascOf_asc _).imp fun h => by omega) h.nodup).2 fun x => ?_
    rw [h.mem]; exact mem_ascOf _ _
  refine ⟨hp.length_eq, ?_⟩
  rw [← hp.length_eq]
  have := ascOf_length (l.map fun e => e.1.dig.length)
  unfold widthsOf
  simpa using this
theorem bucketB_eq (l : List Itm) (n : Nat) : bucketB l n = Lib.leBytes 4 (n + 8) ++ (Lib.leBytes 8 ((n + 8) * (ofW l n).length) ++ rowsB (sortD (ofW l n))) := rfl
theorem rows_len {l : List Itm} {n : Nat} : (rowsB (sortD (ofW l n))).length = (n + 8) * (ofW l n).length := by
  rw [rowsB_length fun e he => ofW_len ((sortD_perm _).mem_iff.1 he), (sortD_perm _).length_eq]
theorem sw_zero (w : World) : (zeroValue 413).run Tryz.prog w = .ok (.agg #[.int .u32 0, .int .u64 0, .slice none 0 0]) w := by kernel_rfl
theorem u32_slice : Tryz.prog.underlying 421 = some (.slice 176) := by kernel_rfl
theorem u32_info : (Tryz.prog.info? 176).map (fun i => (i.zero, i.size, i.bytes)) = some (some (.int .u32 0), 1, 4) := by kernel_rfl
def mwRel (p base : Nat) (w4 : World) (v4 : Value) (ys4 : List UInt8) (l : List Itm) (ws : List Nat) (k : Nat) (s49 s6 : Value) (wr : World) : Prop :=
  ∃ (j : Nat) (N : Int) (v1 : Value), s49 = .int .i64 j ∧ s6 = .int .u64 N ∧ j + k = ws.length ∧ Wr p base w4 v4 ys4 wr v1 (ys4 ++ (ws.take j).flatMap (bucketB l))
theorem bucket_length {l : List Itm} {n : Nat} (hl : l.length ≤ 50) (hn : n ≤ 200) : (bucketB l n).length ≤ 10412 := by
  have h1 := @rows_len l n
  have h2 : (ofW l n).length ≤ 50 := Nat.le_trans (List.length_filter_le _ _) hl
  have h3 : (n + 8) * (ofW l n).length ≤ 208 * 50 := Nat.mul_le_mul (by omega) h2
  rw [bucketB_eq]
  simp [Lib.leBytes_length, h1]; omega
theorem buckets_length {l : List Itm} (hl : l.length ≤ 50) : ∀ {ws : List Nat}, (∀ n ∈ ws, n ≤ 200) → (ws.flatMap (bucketB l)).length ≤ 10412 * ws.length
  | [], _ => by simp
  | n :: ws, h => by
    have h1 := bucket_length hl (h n (by simp))
    have h2 := buckets_length hl (ws := ws) fun x hx => h x (by simp [hx])
    simp at *; omega
set_option maxRecDepth 1000000 in
set_option maxHeartbeats 12800000 in
theorem mwMarshal {w : World} {p base mb bm lo hi : Nat} {l : List Itm} {ks : List Nat} {ib : Nat → Nat} {v : Value} {ys : List UInt8} (hBuf : Buf w p base v ys) (hm : w.cell? ⟨mb, 0, none⟩ = some (.map (some bm))) (hml : mb < w.heap.size) (hmb : lo ≤ mb ∧ mb < hi) (hG : Grp w bm lo hi l ks ib)
    (hl : l.length ≤ 50) (hd : ∀ e ∈ l, e.1.dig.length ≤ 200) (hy : ys ≠ []) (hlen : ys.length < 100000000) (hbase : base ≤ w.heap.size) (hp : p < lo) (hv : ∀ k, v.ownBlock = some k → hi ≤ k) (hhi : hi ≤ w.heap.size) (hLen : LenC) :
    Calls Tryz.prog 284 #[.pointer (some ⟨mb, 0, none⟩), BUFI p] w fun e w' => (∃ N : Int, e = .returned (.tuple #[.int .u64 N, .nilIface])) ∧ ∃ v', Wr p base w v ys w' v' (ys ++ groupB l) := by
  obtain ⟨hw1, hw2⟩ := widths_length hG
  have hkl : (ks.map fun n => (n + 8, swV n (ofW l n).length (ib n))).length = ks.length := by simp
  have hlm := hG.map.len (P := Tryz.prog) (T := 189) (K := 176) (E := 413) (by kernel_rfl)
  rw [hkl] at hlm
  have h32 := write32 (x := ks.length) hBuf (by omega) hy (by omega) hbase
  have wU : IntKind.u32.wrap (ks.length : Int) = (ks.length : Int) := by simp [IntKind.wrap, IntKind.bits, IntKind.signed]; omega
  have HL := Lib.hid (And.intro hl (And.intro hlen (And.intro hbase (And.intro hhi (And.intro hw1 hw2)))))
  obtain ⟨A, hA⟩ : ∃ Z : List UInt8, Hid (Z = Lib.leBytes 4 ks.length) := ⟨_, rfl⟩
  have lA : Hid (A.length = 4) := by show _ = _; rw [hA.out, Lib.leBytes_length]
  rw [← hA.out] at h32
  have hks := hG.nodup
  clear hlen hbase hw1 hw2 hkl hks
  go_enter Tryz.func284, Tryz.ntmps284
  have hdis : ∀ k ∈ p :: v.ownBlock.toList, k < lo ∨ hi ≤ k := by
    intro k hk
    rcases List.mem_cons.1 hk with rfl | hk
    · exact .inl hp
    · exact .inr (hv k (by simpa using hk))
  have hmn : mb ∉ p :: v.ownBlock.toList := fun hm => by rcases hdis _ hm with h | h <;> omega
  go_wp2_with (first
    | go_at_call 275; refine h32.mono ?_; rintro e w1 ⟨rfl, v1, hW1⟩; have hm1 : w1.cell? ⟨mb, 0, none⟩ = some (.map (some bm)) := (by rw [World.cell?_of_block (w := w) (hW1.fr.block mb hml hmn)]; exact hm); have hG1 := hG.fr hW1.fr hdis; have hl1 := hG1.map.len (P := Tryz.prog) (T := 189) (K := 176) (E := 413) (by kernel_rfl); have hml1 : mb < w1.heap.size := Nat.lt_of_lt_of_le hml hW1.fr.size; obtain ⟨G, hGG⟩ : ∃ G, G = w1.heap.size := ⟨_, rfl⟩; have HG := Lib.hid hGG; clear hGG h32 hlm
    | ((with_reducible refine list_makeSlice (fun K hK => ?_));  refine makeNk _ _ 421 176 rfl (n := ks.length) u32_slice u32_info (by omega) (by have := HL.out; omega) rfl rfl rfl G HG.out (fun w2 hg2 hF2 => ?_); have hm2 : w2.cell? ⟨mb, 0, none⟩ = some (.map (some bm)) := (by rw [World.cell?_of_block (w := w1) (hF2.block mb hml1 (by simp))]; exact hm1); have hG2 := hG1.map.fr hF2 (by simp); obtain ⟨ob, hrg, hIt⟩ := hG2.range (P := Tryz.prog) (T := 189) (K := 176) (E := 413) (by kernel_rfl); have hg2l := hg2.lt; clear hm1 hl1))
  have hF3 : Fr [] w2 (w2.alloc ob) := Fr.alloc Fr.refl
  have hml2 : mb < w2.heap.size := Nat.lt_of_lt_of_le hml1 hF2.size
  have hb1 := hG1.map.lt
  have hbR : bm ≠ w2.heap.size ∧ G ≠ w2.heap.size ∧ w1.heap.size ≤ w2.heap.size ∧ mb ≠ w2.heap.size := by have := hF2.size; omega
  have hO0 := own_fr (own_start hg2 (by have := HL.out; omega)) hF3 (by simp)
  have HC := Lib.hid hm2
  clear hrg hm2 hG2
  generalize w2.alloc ob = w3 at *
  generalize w2.heap.size = R at *
  have hF13 := hF2.trans hF3 (S := []) (by simp)
  obtain ⟨M, hM⟩ : ∃ M, M = ks.map fun n => (n + 8, swV n (ofW l n).length (ib n)) := ⟨_, rfl⟩
  rw [← hM] at hIt
  have hMk : M.map (·.1) = ks.map (· + 8) := by rw [hM, List.map_map]; rfl
  have hMl : M.length = ks.length := by rw [hM]; simp
  have HM := Lib.hid hM
  have HF2 := Lib.hid hF2
  clear hM hg2 hF2 hF3
  go_loopg [8] M.length (fun k s8 wr => keysRel w1 R bm G .u32 176 M k s8 wr)
  case atStart => exact ⟨M, [], rfl, by simp, hO0, ⟨_, _, rfl, hbR.2.1⟩, hIt, hF13⟩
  case round =>
    obtain ⟨rem, done, hk, hpm, hO, ⟨g3, c3, rfl, hgR⟩, hIr, hFr⟩ := hrel
    clear hO0 hIt hF13
    have hdl : done.length + rem.length = M.length := by have := hpm.length_eq; simpa using this.symm
    rcases hIr.next (P := Tryz.prog) 0 (Ne.symm hbR.1) with ⟨h0, hrun⟩ | ⟨k, v2, rem', w5, hperm, hrun, hI5, hE5, hF5⟩
    · subst h0
      obtain ⟨g, c, rest, hv', hgb, hgB⟩ := own_row hO (.inr ⟨_, _, rfl⟩)
      cases hv'
      have hdn : done.length = (widthsOf l).length := by have := HL.out; simp at hdl; omega
      have hS : (U32.row g3 rest).S (done.map fun (x : Nat) => (x : Int)).toArray wr := Blk.conv hgB (by first | (simp [List.map_map]; done) | (simp [List.map_map]; rfl))
      have hso := U32.sortU (n := done.length) (c := c3) hLen hS (by simp) (by have := HL.out; omega)
      have hgG := HG.out
      have hg1 : w1.heap.size ≤ g3 := by omega
      have hgp : g3 ≠ p := by have := hW1.buf.lt; have := HL.out; have := hW1.fr.size; omega
      have hgv : v1.ownBlock ≠ some g3 := fun e => by have := hW1.buf.ownLt _ e; omega
      have hWr := hW1.same hFr
      have hmr : wr.cell? ⟨mb, 0, none⟩ = some (.map (some bm)) := by
        have h1 : w1.cell? ⟨mb, 0, none⟩ = some (.map (some bm)) := by rw [← HC.out, World.cell?_of_block (w := w1) (w' := w2) (HF2.out.block mb hml1 (by simp))]
        rw [World.cell?_of_block (w := w1) (hFr.block mb hml1 (by simp))]; exact h1
      have HK := Lib.hid (And.intro hdn (And.intro hpm (And.intro hgb hmr)))
      clear hS hgB hpm hdn hgb hmr hO hIr
      go_wp2_with (first
        | go_at_call 288; refine hso.mono ?_; rintro e w4 ⟨rfl, d', hS4, hF4, hp4, hs4⟩; clear hso)
      obtain ⟨hdn, hpm, hgb, hmr⟩ := HK.out
      obtain ⟨q1, q2⟩ := sorted_list (by simp) hp4 hs4
      obtain ⟨zs, hz1, hz2⟩ := cast_inv (by simpa using q1)
      have hzw : zs = (widthsOf l).map (· + 8) := hG.widths (hz2.trans (by rw [← hMk]; simpa using hpm.symm)) (by
        rw [hz1, List.pairwise_map] at q2
        exact q2.imp fun h => by simpa using h)
      have hcell : ∀ j (h : j < (widthsOf l).length), w4.cell? ⟨g3, j, none⟩ = some (.int .u32 ((widthsOf l)[j] + 8 : Nat)) := by
        intro j hj
        have hj' : j < d'.size := by have := congrArg List.length hz1; simp [hzw] at this; omega
        obtain ⟨x, hx1, hx2⟩ := U32.row_at (St.At.start hS4) rfl hj'
        rw [hx1, hx2.out]
        have e : d'[j]! = d'.toList[j]'(by simpa using hj') := by simp [hj']
        rw [e]
        simp only [hz1, hzw, List.getElem_map]
      have hg4 := Blk.lt hS4
      have hW4 : Wr p base w v ys w4 v1 (ys ++ A) := hWr.step hF4 (by simp; exact ⟨hgp, hgv, by have := hW1.fr.size; omega⟩)
      have hF14 : Fr [] w1 w4 := hFr.trans hF4 (by intro k hk hl; simp at hk; omega)
      have hG4 := hG1.fr hF14 (by simp)
      have hm4 : w4.cell? ⟨mb, 0, none⟩ = some (.map (some bm)) := by
        have hmlr := Nat.lt_of_lt_of_le hml1 hFr.size
        rw [World.cell?_of_block (w := wr) (hF4.block mb hmlr (by simp; omega))]; exact hmr
      have hml4 := Nat.lt_of_lt_of_le hml1 hF14.size
      have hdis1 : ∀ k ∈ p :: v1.ownBlock.toList, k < lo ∨ hi ≤ k := by
        intro k hk
        rcases List.mem_cons.1 hk with rfl | hk
        · exact .inl hp
        · right
          rcases hW1.own with e | ⟨k', e, h⟩
          · exact hv k (by rw [← e]; simpa using hk)
          · have : v1.ownBlock = some k := by simpa using hk
            rw [this] at e; cases e; omega
      have H4 := Lib.hid (And.intro hcell (And.intro hm4 (And.intro hW4 hG4)))
      have hws : done.length = (widthsOf l).length := hdn
      clear hcell hm4 hW4 hG4 hS4 hF4 hp4 hs4 q1 q2 hz1 hz2 hzw hpm hgb hmr hWr hG1 hW1 HK hFr hrun hdl hk
      obtain ⟨ws, hwsd⟩ : ∃ ws, ws = widthsOf l := ⟨_, rfl⟩
      rw [← hwsd] at hws
      have HW := Lib.hid hwsd
      clear hwsd
      go_loopg [49, 6] ws.length (fun k s49 s6 wr => mwRel p base w4 v1 (ys ++ A) l ws k s49 s6 wr)
      case atStart => exact ⟨0, 4, v1, rfl, rfl, by omega, by simpa using Wr.refl H4.out.2.2.1.buf⟩
      case round =>
        rename World => wq
        obtain ⟨j, N, v5, rfl, rfl, hjk, hW5⟩ := hrel
        obtain ⟨hcell, hm4, hW4, hG4⟩ := H4.out
        have hws2 : ∀ x ∈ widthsOf l, x ≤ 200 := fun x hx => by
          obtain ⟨e0, he0, hen⟩ := List.mem_map.1 ((mem_ascOf _ _).1 hx)
          exact hen ▸ hd e0 he0
        by_cases hj : j < ws.length
        · have hjw : j < (widthsOf l).length := by rw [← HW.out]; exact hj
          obtain ⟨n, hnE⟩ : ∃ n, n = (widthsOf l)[j] := ⟨_, rfl⟩
          have hnm : n ∈ widthsOf l := hnE ▸ List.getElem_mem hjw
          have hnl := (mem_ascOf _ _).1 hnm
          have hnk : n ∈ ks := (hG.mem n).2 hnl
          have hn2 := hws2 n hnm
          have hcn : 1 ≤ (ofW l n).length := by
            obtain ⟨e0, he0, hen⟩ := List.mem_map.1 hnl
            exact List.length_pos_of_mem (List.mem_filter.2 ⟨he0, by simpa using hen⟩)
          have hc50 : (ofW l n).length ≤ 50 := Nat.le_trans (List.length_filter_le _ _) hl
          obtain ⟨hrB, hib1, hib2⟩ := hG4.rows n hnk
          have hrl := @rows_len l n
          have hbe := bucketB_eq l n
          have hgn : g3 ∉ p :: v1.ownBlock.toList := by simp; exact ⟨hgp, hgv⟩
          have hmn1 : mb ∉ p :: v1.ownBlock.toList := fun hm => by rcases hdis1 _ hm with h | h <;> omega
          have hbn1 : bm ∉ p :: v1.ownBlock.toList := fun hm => by have := hG4.mapB; rcases hdis1 _ hm with h | h <;> omega
          have hin1 : ib n ∉ p :: v1.ownBlock.toList := fun hm => by rcases hdis1 _ hm with h | h <;> omega
          have hc5 := hcell j hjw
          rw [← World.cell?_of_block (w := w4) (w' := wq) (hW5.fr.block g3 hg4 hgn), ← hnE] at hc5
          have hm5 := hm4
          rw [← World.cell?_of_block (w := w4) (w' := wq) (hW5.fr.block mb hml4 hmn1)] at hm5
          have hM5 := hG4.map.fr hW5.fr hbn1
          have hlk := hM5.look (P := Tryz.prog) (T := 189) (K := 176) (E := 413) (by kernel_rfl) (by kernel_rfl) sw_zero (n + 8) false
          rw [look_sw hnk] at hlk
          simp only [Option.getD_some, Bool.false_eq_true, if_false, swV] at hlk
          have hI5 := hrB.fr hW5.fr hin1
          obtain ⟨rows, hrows⟩ : ∃ rows, rows = rowsB (sortD (ofW l n)) := ⟨_, rfl⟩
          obtain ⟨cnt, hcnt⟩ : ∃ cnt, cnt = (ofW l n).length := ⟨_, rfl⟩
          obtain ⟨m8, hm8⟩ : ∃ m, m = n + 8 := ⟨_, rfl⟩
          rw [← hrows] at hI5 hrl hbe
          rw [← hcnt] at hlk hrl hbe hcn hc50
          rw [← hm8] at hlk hrl hbe hc5
          have hLb : m8 * cnt ≤ 208 * 50 := Nat.mul_le_mul (by omega) hc50
          have hLp : 8 * 1 ≤ m8 * cnt := Nat.mul_le_mul (by omega) hcn
          obtain ⟨Lb, hLbE⟩ : ∃ Lb, Lb = m8 * cnt := ⟨_, rfl⟩
          rw [← hLbE] at hlk hrl hbe hLb hLp
          have hiv : v5.ownBlock ≠ some (ib n) := by
            intro e
            rcases hW5.own with e1 | ⟨k, e1, h⟩
            · exact hin1 (by rw [← e1, e]; simp)
            · rw [e] at e1; cases e1; have := hrB.lt; omega
          have hY : (ys ++ A) ++ (ws.take j).flatMap (bucketB l) ≠ [] := by simp [hy]
          have hYl : ((ys ++ A) ++ (ws.take j).flatMap (bucketB l)).length < 1000000000 := by
            have h1 := buckets_length hl (ws := ws.take j) fun x hx => hws2 x (HW.out ▸ List.mem_of_mem_take hx)
            have h2 : (ws.take j).length ≤ ws.length := by simp; omega
            have h3 := HL.out
            have h4 := lA.out
            have h5 := HW.out
            have h6 : ws.length ≤ 50 := by rw [h5]; omega
            have h7 : 10412 * (ws.take j).length ≤ 10412 * 50 := Nat.mul_le_mul (Nat.le_refl _) (by omega)
            simp only [List.length_append]
            omega
          have hbw : base ≤ w4.heap.size := by have := HL.out; have := hW4.fr.size; omega
          have hsw := fun (wA : World) (hWA : Wr p base w4 v1 (ys ++ A) wA v5 ((ys ++ A) ++ (ws.take j).flatMap (bucketB l))) (hSA : Blk wA wq.heap.size [.int .u32 m8, .int .u64 cnt, .slice (some ⟨ib n, 0, none⟩) Lb Lb] 413 (0, 0)) (hIA : Bs wA (ib n) 0 rows) =>
            swMarshal hWA.buf hSA hIA hrl (by omega) (by omega) (by omega) hY hYl (Nat.le_trans hbw hWA.fr.size) (by have := hW5.buf.lt; have := hW5.fr.size; omega) (fun e => by have := hW5.buf.ownLt _ e; omega) (fun e => hin1 (by simp [e])) hiv
          have hjz : (j : Int) < (done.length : Int) := by omega
          have HB := Lib.hid (And.intro hbe (And.intro hnE (And.intro hcell (And.intro hm4 hjw))))
          clear hbe hrB hcell hm4 hrl hLbE hm8 hcnt hrows hYl hY hnE hnl hnm hws2
          clear hM5 hG4 hW4 hgn hmn1 hbn1 hF14 hc50 hcn hLp hLb hbR hMk hMl hml4 hg4 hml1 hml2 hb1 hg2l hws hdn hgG
          go_wp2_with (first
            | go_at_call 289; refine (hsw _ (hW5.same (Fr.alloc Fr.refl)) (Blk.conv (Blk.newAt rfl) rfl) (hI5.alloc _)).mono ?_; rintro e w7 ⟨⟨N7, rfl⟩, v7, hW7⟩)
          go_roundg (ws.length - (j + 1))
          case measure => omega
          case rel =>
            obtain ⟨hbe, hnE, _⟩ := HB.out
            have hj9 : j < 100 := by have := HL.out; have h5 := congrArg List.length HW.out; omega
            refine ⟨j + 1, _, v7, by rw [wrap64_in (by omega) (by omega)]; push_cast; rfl, rfl, by omega, ?_⟩
            have h1 := (hW5.same (Fr.alloc Fr.refl)).trans hW7
            have e : ws.take (j + 1) = ws.take j ++ [n] := by
              rw [List.take_succ_eq_append_getElem hj, hnE, List.getElem_of_eq HW.out]
            rw [e, List.flatMap_append, List.flatMap_singleton, hbe, ← List.append_assoc]
            exact h1
        · have hjE : j = ws.length := by omega
          have hjz : ¬ (j : Int) < (done.length : Int) := by omega
          go_wp2
          go_ret2
          refine ⟨⟨_, rfl⟩, v5, ?_⟩
          have := hW4.trans hW5
          rw [hjE, List.take_length, HW.out] at this
          have e : ys ++ groupB l = (ys ++ A) ++ (widthsOf l).flatMap (bucketB l) := by
            rw [hA.out]; unfold groupB; have := HL.out; rw [this.2.2.2.2.1, List.append_assoc]
          rw [e]; exact this
    · have hl1 : rem'.length + 1 = rem.length := by have := hperm.length_eq; simpa using this.symm
      have her := hE5.run (P := Tryz.prog)
      have hO5 := own_fr hO hF5 (by simp; exact .inr (fun e => hgR (by simpa [Value.ownBlock] using e)))
      have hbud : done.length + 1 ≤ 50 := by have := HL.out; omega
      have HP := Lib.hid (And.intro hpm (And.intro hperm (And.intro hl1 hk)))
      clear hpm hperm hl1 hk hIr
      go_wp2_with (first
        | ((with_reducible refine list_bi .append (fun K hK => ?_));  refine appOwnX _ _ 421 rfl G 176 (.int .u32 0) 1 4 u32_slice u32_info rfl (by omega) (.slice (some ⟨g3, 0, none⟩) done.length c3) _ _ rfl (own_fr (S := []) hO5 (by exact frP) (by simp)) _ 1 _ [.int .u32 (k : Nat)] rfl (by omega) rfl (newOne (by simp)) (by intro u hu; simp at hu; subst hu; rfl) (by omega) (by omega) (by have := hO.lt g3 rfl; have := hF5.size; simp; omega) (fun v6 w6 hO6 hF6 hw6 hs6 => ?_)))
      obtain ⟨hpm, hperm, hl1, hk⟩ := HP.out
      obtain ⟨g5, c5, rfl⟩ := hs6
      go_roundg rem'.length
      case measure => omega
      case rel =>
        have hIl5 : R < w5.heap.size := by obtain ⟨_, _, _, _, h2, _⟩ := hI5; exact (Array.getElem?_eq_some_iff.1 h2).1
        have hF56 : Fr [g3] w5 w6 := Fr.trans (S := [g3]) (by exact frP) hF6 (by simp [Value.ownBlock])
        have h2 := own_ge hO g3 (by simp [Value.ownBlock])
        have h3 := HG.out
        refine ⟨rem', done ++ [k], rfl, ?_, by simpa using hO6, ⟨g5, c5, by simp, ?_⟩, hI5.fr hF56 (by simp; exact fun e => hgR e.symm) ?_, (hFr.trans hF5 ?_).trans hF56 ?_⟩
        · have := hperm.map (·.1)
          refine hpm.trans ?_
          rw [List.append_assoc]
          exact List.Perm.append_left _ (by simpa using this)
        · intro e
          subst e
          rcases hw6 with h | h
          · exact hgR (by simpa [Value.ownBlock] using h.symm)
          · simp [Value.ownBlock] at h; omega
        · simp; intro e; omega
        · intro k hk hl; simp at hk; omega
        · intro k hk hl; simp at hk; omega
end Go.Proofs.Wx
