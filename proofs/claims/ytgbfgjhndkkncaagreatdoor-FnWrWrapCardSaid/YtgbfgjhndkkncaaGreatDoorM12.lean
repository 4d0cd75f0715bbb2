import Derived.Test.YtgbfgjhndkkncaaGreatDoorM3
import Derived.Test.YtgbfgjhndkkncaaGreatDoorM4
import Derived.Test.YtgbfgjhndkkncaaGreatDoorM6
import Derived.Test.YtgbfgjhndkkncaaGreatDoorM7
import Derived.Test.YtgbfgjhndkkncaaGreatDoorM11
import Derived.Lib.Varint
import Derived.Lib.AppendStr
import Derived.Deep.LoopGhost
set_option maxRecDepth 100000
set_option maxHeartbeats 1000000
set_option linter.unusedVariables false
set_option linter.unusedSimpArgs false
namespace Go.Proofs.Wx
open Go Go.RowKit
abbrev oWr20 : List (Nat × Cls) := [(0,.look),(1,.free),(2,.free),(3,.free),(4,.look),(5,.act)]
theorem makeBk {o : Oper} {a : Act} {K : Act → World → Prop} {Q : Exit → Act → World → Prop} {w : World} (l c : Operand) (ho : o.op = .makeSlice 55 l c)
    (kl kc : IntKind) (L C : Int) (n cap T : Nat) (hl : a.eval l = .int kl L) (hc : a.eval c = .int kc C) (hL : L = (n : Int)) (hC : C = (cap : Int)) (hnc : n ≤ cap) (hb : cap ≤ 140737488355328) (hT : T = w.heap.size)
    (h : ∀ w', Blk w' T (List.replicate cap (Value.int .u8 0)) 5 (0, 0) → Fr [] w w' → K (a.put o.dst (.slice (some ⟨T, 0, none⟩) n cap)) w') : o.wp Tryz.prog a w K Q := by
  subst hT
  exact makeB l c ho kl kc L C n cap hl hc hL hC hnc hb (h _ Blk.new (Fr.alloc Fr.refl))
theorem putZ {A Z : List UInt8} {k g o n c x : Nat} {w : World} (hZ : Hid (Z = Lib.leBytes 8 x)) (hx : x < 18446744073709551616) (hg : Blk w g (by8 A ++ List.replicate k (.int .u8 0)) 5 (0, 0)) (hn : 8 ≤ n) (ho : o = A.length) (hk : 8 ≤ k) :
    Calls Tryz.prog 74 #[.agg #[], .slice (some ⟨g, o, none⟩) n c, .int .u64 x] w fun e w' => e = .returned (.tuple #[]) ∧ Blk w' g (by8 (A ++ Z) ++ List.replicate (k - 8) (.int .u8 0)) 5 (0, 0) ∧ Fr [g] w w' := by
  rw [hZ.out]; exact putA hx hg hn ho hk
def traitsB : List UInt8 := Lib.leBytes 8 0 ++ Lib.leBytes 8 0
theorem lb8 (x : Nat) : (Lib.leBytes 8 x).length = 8 := Lib.leBytes_length 8 x
theorem bufWn {w : World} {p base b so c2 n : Nat} {v : Value} {ys xs : List UInt8} (hBuf : Buf w p base v ys) (hB : Bs w b so xs) (hn : xs.length = n) (h0 : 0 < n) (hbp : b ≠ p) (hbv : v.ownBlock ≠ some b) (hfirst : ys = [] → v = .slice none 0 0 ∧ n ≤ 64) (hlen : ys.length + n < 1000000000000) (hbase : base ≤ w.heap.size) :
    Calls Tryz.prog 251 #[.pointer (some ⟨p, 0, none⟩), .slice (some ⟨b, so, none⟩) n c2] w fun e w' => e = .returned (.tuple #[.int .i64 n, .nilIface]) ∧ ∃ v', Wr p base w v ys w' v' (ys ++ xs) := by
  subst hn
  exact bufW hBuf hB (List.length_pos_iff.1 h0) hbp hbv hfirst hlen hbase
theorem traitsB_length : traitsB.length = 16 := by simp [traitsB, lb8]
theorem traitsWrite {w : World} {p base : Nat} {v : Value} {ys : List UInt8} (hBuf : Buf w p base v ys) (hy : ys ≠ []) (hlen : ys.length < 100000000000) (hbase : base ≤ w.heap.size) :
    Calls Tryz.prog 73 #[.agg #[.int .u64 0, .int .u64 0], BUFI p] w fun e w' => e = .returned (.tuple #[.int .i64 16, .nilIface]) ∧ ∃ v', Wr p base w v ys w' v' (ys ++ traitsB) := by
  have hpb := hBuf.lt
  have hol := hBuf.ownLt
  have L := Lib.hid hlen
  clear hlen
  obtain ⟨Z, hZ⟩ : ∃ Z : List UInt8, Hid (Z = Lib.leBytes 8 0) := ⟨_, rfl⟩
  have lZ : Hid (Z.length = 8) := by show _ = _; rw [hZ.out, lb8]
  go_enter Tryz.func73, Tryz.ntmps73
  go_wp2_with (first
    | ((with_reducible refine list_makeSlice (fun K hK => ?_));  refine makeBk _ _ rfl _ _ _ _ 16 16 (w.heap.size + 1) rfl rfl rfl rfl (by omega) (by omega) (by simp) (fun w1 hg1 hF1 => ?_); have hF01 : Fr [] w w1 := Fr.trans (S := []) (by exact frP) hF1 (by simp); have hT1 := hF1.blk (b := w.heap.size) (cs := [.int .u64 0, .int .u64 0]) (Blk.newAt rfl) (by simp); have tc1 := hT1.cells)
    | go_at_call 74; refine (putZ (A := []) (k := 16) (x := 0) hZ (by omega) (Blk.drew (show Blk w1 _ _ _ _ from hg1)) (by omega) rfl (by omega)).mono ?_; rintro e w2 ⟨rfl, hg2, hF2⟩; have hT2 := hF2.blk (b := w.heap.size) hT1.drew (by simp); have tc2 := hT2.cells; clear tc1; have hW2 := (Wr.refl hBuf).step (X := [w.heap.size + 1]) (Fr.trans (S := [w.heap.size + 1]) (Fr.drew (hF01.mono (by simp))) hF2 (by simp)) (by simp; exact ⟨by omega, fun e => by have := hol _ e; omega⟩); clear hF2 hF1 hg1 hF01 hT1
    | go_at_call 74; refine (putZ (A := [] ++ Z) (k := 16 - 8) (x := 0) hZ (by omega) (Blk.drew hg2) (by omega) lZ.out.symm (by omega)).mono ?_; rintro e w3 ⟨rfl, hg3, hF3⟩; have hW3 := hW2.step (X := [w.heap.size + 1]) (Fr.trans (S := [w.heap.size + 1]) (by exact frP) hF3 (by simp)) (by simp; exact ⟨by omega, fun e => by have := hol _ e; omega⟩); have hb3 := Blk.bsAll (xs := traitsB) hg3 (by simp [traitsB, hZ.out])
    | go_at_call 251; refine (bufWn (c2 := 16) (n := 16) hW3.buf hb3 traitsB_length (by omega) (by omega) (fun e => by have := hol _ e; omega) (fun e => absurd e hy) (by have := L.out; omega) (Nat.le_trans hbase hW3.fr.size)).mono ?_; rintro e w4 ⟨rfl, v', hW4⟩
    | (refine wre 2 oWr20 ?_)
    | (refine wre 3 oWr20 ?_)
    | (with_reducible refine wEI ?_; (first | (refine wEN ?_; skip) | (refine wEF rfl (fun K hK => ?_); go_simp) | (refine wEL rfl rfl (fun K hK => ?_); go_simp) | (refine wER rfl (fun K hK => ?_); go_simp) | (refine wEM rfl (fun K hK => ?_); go_simp; try refine ⟨_, _, ⟨rfl, rfl⟩, ?_⟩) | (refine wEG rfl (fun K hK => ?_); go_simp) | (refine wpE_actp rfl rfl (fun K hK => ?_); simp only [List.getElem_toArray, List.getElem_cons_succ, List.getElem_cons_zero]; (first | ((with_reducible refine op_makeSlice ?_);  refine makeBk _ _ rfl _ _ _ _ 16 16 (w.heap.size + 1) rfl rfl rfl rfl (by omega) (by omega) (by simp) (fun w1 hg1 hF1 => ?_); have hF01 : Fr [] w w1 := Fr.trans (S := []) (by exact frP) hF1 (by simp); have hT1 := hF1.blk (b := w.heap.size) (cs := [.int .u64 0, .int .u64 0]) (Blk.newAt rfl) (by simp); have tc1 := hT1.cells))) | (refine wEA rfl (fun K hK => ?_); go_simp))))
  go_ret2
  exact ⟨rfl, v', hW3.trans hW4⟩
def hdV (n : Nat) : Value := .agg #[.int .u64 0, .int .u64 0, .int .u64 51, .int .u64 n, .int .u64 (51 + n : Nat)]
theorem headB_eq (n : Nat) : headB n = traitsB ++ (Lib.leBytes 8 51 ++ Lib.leBytes 8 n ++ Lib.leBytes 8 (51 + n)) := by simp [headB, traitsB]
set_option maxRecDepth 1000000 in
set_option maxHeartbeats 12800000 in
theorem headerWrite {w : World} {p base n : Nat} {v : Value} {ys : List UInt8} (hBuf : Buf w p base v ys) (hn : n < 1000000000) (hy : ys ≠ []) (hlen : ys.length < 10000000000) (hbase : base ≤ w.heap.size) :
    Calls Tryz.prog 40 #[.agg #[.int .u64 0, .int .u64 0, .int .u64 51, .int .u64 n, .int .u64 (51 + n : Nat)], BUFI p] w fun e w' => e = .returned (.tuple #[.int .i64 40, .nilIface]) ∧ ∃ v', Wr p base w v ys w' v' (ys ++ headB n) := by
  have hpb := hBuf.lt
  obtain ⟨N, hN⟩ : ∃ N, Hid (N = 51 + n) := ⟨_, rfl⟩
  rw [show (51 + n : Nat) = N from hN.out.symm]
  have L := Lib.hid (And.intro hlen (And.intro hn (And.intro hbase hN.out)))
  obtain ⟨A, hA⟩ : ∃ Z : List UInt8, Hid (Z = Lib.leBytes 8 51) := ⟨_, rfl⟩
  obtain ⟨B, hB⟩ : ∃ Z : List UInt8, Hid (Z = Lib.leBytes 8 n) := ⟨_, rfl⟩
  obtain ⟨C, hC⟩ : ∃ Z : List UInt8, Hid (Z = Lib.leBytes 8 N) := ⟨_, rfl⟩
  have lA : Hid (A.length = 8) := by show _ = _; rw [hA.out, lb8]
  have lB : Hid (B.length = 8) := by show _ = _; rw [hB.out, lb8]
  have lC : Hid (C.length = 8) := by show _ = _; rw [hC.out, lb8]
  have hE : Hid (headB n = traitsB ++ (A ++ B ++ C)) := by show _ = _; rw [hA.out, hB.out, hC.out, headB_eq, hN.out]
  obtain ⟨T, hT⟩ : ∃ T, Hid (T = w.heap.size) := ⟨_, rfl⟩
  have hTw := fun (w1 : World) (v1 : Value) (hW : Wr p base w v ys w1 v1 ys) => traitsWrite hW.buf hy (by have := L.out; omega) (by have := L.out; have := hW.fr.size; omega)
  clear hlen hn hbase
  go_enter Tryz.func40, Tryz.ntmps40
  go_wp2_with (first
    | go_at_call 73; have hW1 := (Wr.refl hBuf).same (Fr.alloc (o := .cells #[.int .u64 0, .int .u64 0, .int .u64 51, .int .u64 n, .int .u64 N] 96) Fr.refl); refine (hTw _ _ hW1).mono ?_; rintro e w2 ⟨rfl, v2, hW2⟩; have hX2 := hW2.fr.blk (b := w.heap.size) (cs := [.int .u64 0, .int .u64 0, .int .u64 51, .int .u64 n, .int .u64 N]) (Blk.newAt rfl) (by have := L.out; have h2 := hBuf.ownLt w.heap.size; simp; exact ⟨by omega, fun e => by have := h2 e; omega⟩); have hW := hW1.trans hW2; have xc2 := hX2.cells; have hXl := hX2.lt; have hpl := hW.buf.lt; have hov := hW.buf.ownLt; have hbs := hW.fr.size; clear hTw hW1 hW2; obtain ⟨G, hG⟩ : ∃ G, G = w2.heap.size := ⟨_, rfl⟩; have hGp : G ≠ p := (by have := L.out; omega); have hGv : v2.ownBlock ≠ some G := (fun e => by have := hov _ e; omega); have hGw : w.heap.size ≠ G := (by omega); have hGl : w.heap.size ≤ G := (by omega); have HG := Lib.hid hG; have HS := Lib.hid hbs; clear hG hXl hpl hov hbs
    | ((with_reducible refine list_makeSlice (fun K hK => ?_));  refine makeBk _ _ rfl _ _ _ _ 24 24 G rfl rfl rfl rfl (by omega) (by omega) HG.out (fun w3 hg3 hF3 => ?_); have hX3 := hF3.blk hX2 (by simp); have xc3 := hX3.cells; have hW3 := hW.same hF3; clear xc2 hX2 hF3)
    | go_at_call 74; refine (putZ (A := []) (k := 24) (x := 51) hA (by omega) (Blk.drew (show Blk w3 _ _ _ _ from hg3)) (by omega) rfl (by omega)).mono ?_; rintro e w4 ⟨rfl, hg4, hF4⟩; have hX4 := hF4.blk hX3.drew (by simp [hGw]); have xc4 := hX4.cells; have hW4 := hW3.step (X := [G]) (Fr.trans (S := [G]) (by exact frP) hF4 (by simp)) (by simp; exact ⟨hGp, hGv, hGl⟩); clear xc3 hX3 hF4 hg3
    | go_at_call 74; refine (putZ (A := [] ++ A) (k := 24 - 8) (x := n) hB (by have := L.out; omega) (Blk.drew hg4) (by omega) lA.out.symm (by omega)).mono ?_; rintro e w5 ⟨rfl, hg5, hF5⟩; have hX5 := hF5.blk hX4.drew (by simp [hGw]); have xc5 := hX5.cells; have hW5 := hW4.step (X := [G]) (Fr.trans (S := [G]) (by exact frP) hF5 (by simp)) (by simp; exact ⟨hGp, hGv, hGl⟩); clear xc4 hX4 hF5 hg4
    | go_at_call 74; refine (putZ (A := [] ++ A ++ B) (k := 24 - 8 - 8) (x := N) hC (by have := L.out; omega) (Blk.drew hg5) (by omega) (by simp [lA.out, lB.out]) (by omega)).mono ?_; rintro e w6 ⟨rfl, hg6, hF6⟩; have hW6 := hW5.step (X := [G]) (Fr.trans (S := [G]) (by exact frP) hF6 (by simp)) (by simp; exact ⟨hGp, hGv, hGl⟩); have hb6 := Blk.bsAll (xs := A ++ B ++ C) hg6 (by simp); clear xc5 hX5 hF6 hg5 hg6
    | go_at_call 251; refine (bufWn (c2 := 24) (n := 24) hW6.buf hb6 (by simp [lA.out, lB.out, lC.out]) (by omega) hGp hGv (fun e => absurd e (by simp [hy])) (by simp [traitsB_length]; have := L.out; omega) (by have := L.out; have := hW6.fr.size; omega)).mono ?_; rintro e w7 ⟨rfl, v7, hW7⟩
    | (refine wre 5 oWr20 ?_)
    | (refine wre 6 oWr20 ?_)
    | (refine wre 7 oWr20 ?_)
    | (with_reducible refine wEI ?_; (first | (refine wEN ?_; skip) | (refine wEF rfl (fun K hK => ?_); go_simp) | (refine wEL rfl rfl (fun K hK => ?_); go_simp) | (refine wER rfl (fun K hK => ?_); go_simp) | (refine wEM rfl (fun K hK => ?_); go_simp; try refine ⟨_, _, ⟨rfl, rfl⟩, ?_⟩) | (refine wEG rfl (fun K hK => ?_); go_simp) | (refine wpE_actp rfl rfl (fun K hK => ?_); simp only [List.getElem_toArray, List.getElem_cons_succ, List.getElem_cons_zero]; (first | ((with_reducible refine op_makeSlice ?_);  refine makeBk _ _ rfl _ _ _ _ 24 24 G rfl rfl rfl rfl (by omega) (by omega) HG.out (fun w3 hg3 hF3 => ?_); have hX3 := hF3.blk hX2 (by simp); have xc3 := hX3.cells; have hW3 := hW.same hF3; clear xc2 hX2 hF3))) | (refine wEA rfl (fun K hK => ?_); go_simp))))
  go_ret2
  refine ⟨rfl, v7, ?_⟩
  rw [hE.out, ← List.append_assoc]
  exact hW6.trans hW7
end Go.Proofs.Wx

namespace Go.Proofs.Wx
open Go Go.RowKit
theorem run_append_ownX {P : Program} {w : World} (base : Nat) (t ty e : TypeId) (i : TypeInfo) (z : Value) (size bytes : Nat) (ht : P.underlying t = some (.slice e)) (hi : P.info? e = some i) (hz : i.zero = some z)
    (hsize : i.size = size) (hby : i.bytes = bytes) (hzs : z.cells.size = size) (hsz : 0 < size) (v : Value) (n : Nat) (xs : List Value) (hown : w.ownsRow base e size v n xs)
    (a : Addr) (m c : Nat) (news : List Value) (hm : 0 < m) (hl : news.length = m * size) (hnews : ∀ j u, news[j]? = some u → w.cell? (a.add j) = some u) (h1 : ∀ u ∈ news, u.oneCell' = true)
    (h63 : n + m ≤ maxLen) (hbytes : (n + m) * bytes ≤ 140737488355328) (hbase : base ≤ w.heap.size) :
    ∃ v' w', (Builtin.append_ #[t, t] ty #[v, .slice (some a) m c]).run P w = .ok v' w' ∧ w'.ownsRow base e size v' (n + m) (xs ++ news) ∧ w.grownBy w' v.ownBlock ∧ (v'.ownBlock = v.ownBlock ∨ v'.ownBlock = some w.heap.size) := by
  obtain ⟨v', w', hr, h2, h3, _⟩ := run_append_own (P := P) w base t ty e i z size bytes ht hi hz hsize hby hzs hsz v n xs hown a m c news hl hnews h1 h63 hbytes hbase
  refine ⟨v', w', hr, h2, h3, ?_⟩
  subst hsize
  subst hby
  have hsmall : n + m ≤ 9223372036854775807 := by simp only [maxLen] at h63; omega
  rcases hown.2 with ⟨rfl, rfl⟩ | ⟨g, cap, cur, rfl, hbg, hg, hnc, hcm, hcs, htake⟩
  · right
    have hr2 := run_append_nil (P := P) w t ty e i z ht hi hz a m c news hl hnews (by omega) (by omega) (by have hb := hbytes; simp only [Nat.zero_add] at hb; omega)
    have := hr.symm.trans hr2
    injection this with h4 _
    rw [h4]; rfl
  · by_cases hroom : n + m ≤ cap
    · left
      have hfit : n * i.size + news.length ≤ cur.size := by rw [hl, hcs, ← Nat.add_mul]; exact Nat.mul_le_mul_right _ hroom
      have hr2 := run_append_room (P := P) w t ty e i ht hi g n cap cur hg a m c news hl hnews h1 hroom hfit
      have := hr.symm.trans hr2
      injection this with h4 _
      rw [h4]; rfl
    · right
      have holds : ∀ j u, xs[j]? = some u → w.cell? ((⟨g, 0, none⟩ : Addr).add j) = some u := hown.cells (g := g) rfl
      have hr2 := run_append_grow (P := P) w t ty e i z ht hi hz ⟨g, 0, none⟩ n cap xs hown.1 holds a m c news hl hnews (by omega) (by omega) (growslice_fits (by omega) hbytes)
      have := hr.symm.trans hr2
      injection this with h4 _
      rw [h4]; rfl
theorem appOwnX {o : Oper} {a : Act} {K : Act → World → Prop} {Q : Exit → Act → World → Prop} {w : World} (s x : Operand) (t : TypeId)
    (ho : o.op = .call { callee := .builtin .append, args := #[s, x], argTypes := #[t, t] })
    (base : Nat) (e : TypeId) (z : Value) (size bytes : Nat) (ht : Tryz.prog.underlying t = some (.slice e)) (hi : (Tryz.prog.info? e).map (fun i => (i.zero, i.size, i.bytes)) = some (some z, size, bytes)) (hzs : z.cells.size = size) (hsz : 0 < size)
    (v : Value) (n : Nat) (xs : List Value) (hs : a.eval s = v) (hown : w.ownsRow base e size v n xs)
    (ad : Addr) (m c : Nat) (news : List Value) (hx : a.eval x = .slice (some ad) m c) (hm : 0 < m) (hl : news.length = m * size) (hnews : ∀ j u, news[j]? = some u → w.cell? (ad.add j) = some u) (h1 : ∀ u ∈ news, u.oneCell' = true)
    (h63 : n + m ≤ 1000000000000) (hbytes : (n + m) * bytes ≤ 140737488355328) (hbase : base ≤ w.heap.size)
    (h : ∀ v' w', w'.ownsRow base e size v' (n + m) (xs ++ news) → Fr v.ownBlock.toList w w' → (v'.ownBlock = v.ownBlock ∨ v'.ownBlock = some w.heap.size) → (∃ g c, v' = .slice (some ⟨g, 0, none⟩) (n + m) c) → K (a.put o.dst v') w') : o.wp Tryz.prog a w K Q := by
  obtain ⟨i, hi, hz, hs2, hby⟩ := info_parts hi
  obtain ⟨v', w', hr, h2, h3, h4⟩ := run_append_ownX (P := Tryz.prog) (w := w) base t o.type e i z size bytes ht hi hz hs2 hby hzs hsz v n xs hown ad m c news hm hl hnews h1 (by unfold maxLen; omega) hbytes hbase
  unfold Oper.wp execOp
  simp only [ho, resolve, invoke, builtin, Sem.run_bind, Sem.run_pure, Result.andThen_ok, List.map_toArray, List.map_cons, List.map_nil, hs, hx, hr]
  refine h v' w' h2 (Fr.of_grown h3) h4 ?_
  rcases h2.2 with ⟨_, h0⟩ | ⟨g, cap, cur, e, _⟩
  · omega
  · exact ⟨g, cap, e⟩
end Go.Proofs.Wx

namespace Go.Proofs.Wx
open Go Go.RowKit
abbrev oSp11 : List (Nat × Cls) := [(2,.free),(3,.look),(7,.free),(8,.look),(9,.free),(10,.look),(0,.grow),(1,.look),(4,.grow),(5,.look),(6,.free),(11,.grow),(12,.free),(13,.free)]
abbrev OwnB (base : Nat) (w : World) (v : Value) (xs : List UInt8) : Prop := w.ownsRow base 5 1 v xs.length (by8 xs)
theorem OwnB.fr {base : Nat} {w w' : World} {v : Value} {xs : List UInt8} {S : List Nat} (h : OwnB base w v xs) (hf : Fr S w w') (hS : ∀ k ∈ S, k < base ∨ v.ownBlock ≠ some k) : OwnB base w' v xs := own_fr h hf hS
theorem ownB_nil {base : Nat} {w : World} : OwnB base w (.slice none 0 0) [] := ⟨by simp [by8], .inl ⟨rfl, rfl⟩⟩
theorem ownB_row {base : Nat} {w : World} {v : Value} {xs : List UInt8} (h : OwnB base w v xs) (h0 : xs ≠ []) : ∃ g c, v = .slice (some ⟨g, 0, none⟩) xs.length c ∧ base ≤ g ∧ Bs w g 0 xs := by
  rcases h.2 with ⟨_, h1⟩ | ⟨g, cap, cur, rfl, hb, hg, _, _, _, ht⟩
  · exact absurd (List.eq_nil_of_length_eq_zero h1) h0
  · refine ⟨g, cap, rfl, hb, ?_⟩
    have : Blk w g cur.toList 5 (0, 0) := hg
    have h2 : Blk w g (by8 xs ++ cur.toList.drop (xs.length * 1)) 5 (0, 0) := this.conv (by rw [← ht, List.take_append_drop])
    exact Blk.bs (pre := []) (post := cur.toList.drop (xs.length * 1)) h2 (by simp) rfl
theorem own_rowS {w : World} {base n size : Nat} {e : TypeId} {v : Value} {xs : List Value} (h : w.ownsRow base e size v n xs) (hv : 0 < n) : ∃ g c rest, v = .slice (some ⟨g, 0, none⟩) n c ∧ base ≤ g ∧ Blk w g (xs ++ rest) e (0, 0) := by
  rcases h.2 with ⟨rfl, h0⟩ | ⟨g, cap, cur, rfl, hb, hg, _, _, _, ht⟩
  · omega
  · refine ⟨g, cap, cur.toList.drop (n * size), rfl, hb, ?_⟩
    have : Blk w g cur.toList e (0, 0) := hg
    exact this.conv (by rw [← ht, List.take_append_drop])
theorem newOneB {W : World} {n : Nat} {x : UInt8} (e : n = W.heap.size) : ∀ j u, [Value.int .u8 (x.toNat : Nat)][j]? = some u → (W.alloc (.cells #[.int .u8 (x.toNat : Nat)] 5)).cell? ((⟨n, 0, none⟩ : Addr).add j) = some u := by
  intro j u hu
  subst e
  match j, hu with
  | 0, hu => simp at hu; subst hu; rw [Addr.add_lit]; exact World.cell?_alloc_new _ _ _ 0
/-- append of one byte that was just laid. -/
theorem app1 {o : Oper} {a : Act} {K : Act → World → Prop} {Q : Exit → Act → World → Prop} {w : World} (s x : Operand)
    (ho : o.op = .call { callee := .builtin .append, args := #[s, x], argTypes := #[55, 55] })
    (base : Nat) (v : Value) (xs : List UInt8) (hs : a.eval s = v) (hown : OwnB base w v xs) (b c : Nat) (hx : a.eval x = .slice (some ⟨b, 0, none⟩) 1 c) (y : UInt8) (Y : Int) (hY : Y = (y.toNat : Nat)) (hc : w.cell? ⟨b, 0, none⟩ = some (.int .u8 Y))
    (hl : xs.length < 1000000000) (hbase : base ≤ w.heap.size)
    (h : ∀ v' w', OwnB base w' v' (xs ++ [y]) → Fr v.ownBlock.toList w w' → K (a.put o.dst v') w') : o.wp Tryz.prog a w K Q := by
  subst hY
  refine appOwn s x 55 ho base 5 (.int .u8 0) 1 1 u8_slice u8_info rfl (by omega) v xs.length (by8 xs) hs hown ⟨b, 0, none⟩ 1 c [.int .u8 (y.toNat : Nat)] hx rfl ?_ (by intro u hu; simp at hu; subst hu; rfl) (by omega) (by omega) hbase (fun v' w' h1 h2 => h v' w' ?_ h2)
  · intro j u hu
    match j, hu with
    | 0, hu => simp at hu; subst hu; rw [Addr.add_lit]; exact hc
  · have := h1
    rwa [show xs.length + 1 = (xs ++ [y]).length by simp, show by8 xs ++ [Value.int .u8 (y.toNat : Nat)] = by8 (xs ++ [y]) by simp [by8]] at this
theorem or128 (k : Nat) : bits .or .u8 ((k : Int) % 256) 128 = (((k % 128 + 128).toUInt8.toNat : Nat) : Int) := by
  rw [Lib.u8_or128_any _ (by omega) (by omega)]
  simp
  omega
def spuvRel (w : World) (n : Nat) (k : Nat) (s0 s3 : Value) (wr : World) : Prop :=
  ∃ done, s0 = .int .u64 (k : Nat) ∧ Lib.uvarint n = done ++ Lib.uvarint k ∧ OwnB w.heap.size wr s3 done ∧ Fr [] w wr
theorem spVarint {w : World} {n : Nat} (hn : n < 18446744073709551616) : Calls Tryz.prog 25 #[.int .u64 n] w fun e w' => ∃ g c, e = .returned (.slice (some ⟨g, 0, none⟩) (Lib.uvarint n).length c) ∧ w.heap.size ≤ g ∧ Bs w' g 0 (Lib.uvarint n) ∧ Fr [] w w' := by
  go_enter Tryz.func25, Tryz.ntmps25
  go_wp2
  go_loopg [0, 3] n (fun k s0 s3 wr => spuvRel w n k s0 s3 wr)
  case atStart => exact ⟨[], rfl, by simp, ownB_nil, Fr.refl⟩
  case round =>
    rename World => wr
    obtain ⟨done, rfl, hd, hO, hF⟩ := hrel
    rename Nat => k
    have hdl : done.length ≤ 10 := by have := Lib.uvarint_length64 hn; rw [hd] at this; simp at this; omega
    have Hd := Lib.hid hd
    clear hd
    by_cases hk : 128 ≤ k
    · have hkz : (128 : Int) ≤ (k : Int) := by omega
      have hW : IntKind.u8.wrap (k : Int) = (k : Int) % 256 := by simp [IntKind.wrap, IntKind.bits, IntKind.signed]
      go_wp2_with (first
        | ((with_reducible refine list_bi .append (fun K hK => ?_));  refine app1 _ _ rfl w.heap.size _ done rfl (hO.fr (S := []) (by exact frP) (by simp)) wr.heap.size 1 rfl (k % 128 + 128).toUInt8 _ (or128 k) (World.cell?_alloc_new _ _ _ 0) (by have := hdl; omega) (by have := hF.size; simp; omega) (fun v4 w4 hO4 hF4 => ?_)))
      go_roundg (k / 128)
      case measure => omega
      case rel =>
        refine ⟨done ++ [(k % 128 + 128).toUInt8], ?_, ?_, hO4, ?_⟩
        · exact congrArg (Value.int .u64) (by omega)
        · rw [Hd.out, Lib.uvarint_big hk]; simp
        · refine (hF.trans (Fr.trans (S := u3.ownBlock.toList) (by exact frP) hF4 (fun k hk _ => hk)) ?_)
          intro k hk hl
          have := own_ge hO k hk
          omega
    · have hkz : ¬ (128 : Int) ≤ (k : Int) := by omega
      have hW : IntKind.u8.wrap (k : Int) = (k : Int) := by simp [IntKind.wrap, IntKind.bits, IntKind.signed]; omega
      go_wp2_with (first
        | ((with_reducible refine list_bi .append (fun K hK => ?_));  refine app1 _ _ rfl w.heap.size _ done rfl (hO.fr (S := []) (by exact frP) (by simp)) wr.heap.size 1 rfl k.toUInt8 _ (by simp; omega) (World.cell?_alloc_new _ _ _ 0) (by have := hdl; omega) (by have := hF.size; simp; omega) (fun v4 w4 hO4 hF4 => ?_)))
      obtain ⟨g, c, rfl, hg, hB⟩ := ownB_row hO4 (by simp)
      go_ret
      rw [Hd.out, Lib.uvarint_small (by omega)]
      refine ⟨g, ⟨c, rfl⟩, hg, hB, ?_⟩
      refine (hF.trans (Fr.trans (S := u3.ownBlock.toList) (by exact frP) hF4 (fun k hk _ => hk)) ?_)
      intro k hk hl
      have := own_ge hO k hk
      omega
@[go_sem] theorem bcat (xs ys : List UInt8) : (⟨xs.toArray⟩ : ByteArray) ++ ⟨ys.toArray⟩ = ⟨(xs ++ ys).toArray⟩ := by
  apply ByteArray.ext
  simp
theorem bsize (xs : List UInt8) : (⟨xs.toArray⟩ : ByteArray).size = xs.length := by simp [ByteArray.size]
set_option maxRecDepth 1000000 in
set_option maxHeartbeats 12800000 in
theorem spMh {w : World} {code : Nat} {dig : List UInt8} (hc : code < 18446744073709551616) (hd : dig.length < 1000000000) :
    Calls Tryz.prog 63 #[.int .u64 code, .string ⟨dig.toArray⟩] w fun e w' => e = .returned (.string ⟨(mhB code dig).toArray⟩) ∧ Fr [] w w' := by
  have wL : IntKind.u64.wrap (dig.length : Int) = (dig.length : Int) := by simp [IntKind.wrap, IntKind.bits, IntKind.signed]; omega
  have hu1 := Lib.uvarint_length64 hc
  have hu2 := Lib.uvarint_length64 (x := dig.length) (by omega)
  have h1 := fun w => spVarint (w := w) hc
  have h2 := fun w => spVarint (w := w) (n := dig.length) (by omega)
  go_enter Tryz.func63, Tryz.ntmps63
  go_wp2_with (first
    | go_at_call 25; refine (h1 _).mono ?_; rintro e w1 ⟨g1, c1, rfl, hg1, hB1, hF1⟩; (try go_simp); refine hK _ _ (Fr.ext hF1) ?_; clear h1
    | (with_reducible refine wEI ?_); (refine wpE_str _ rfl rfl rfl hB1 rfl rfl ?_); (try go_simp); clear hB1
    | go_at_call 25; refine (h2 _).mono ?_; rintro e w2 ⟨g2, c2, rfl, hg2, hB2, hF2⟩; (try go_simp); refine hK _ _ (Fr.ext hF2) ?_; clear h2
    | (with_reducible refine wEI ?_); (refine wpE_str _ rfl rfl rfl hB2 rfl rfl ?_); (try go_simp); clear hB2
    | (refine wre 1 [(0,.free),(3,.free),(4,.free),(5,.free),(9,.free),(1,.grow),(2,.look),(6,.grow),(7,.look),(8,.free),(10,.free),(11,.free)] ?_)
    | (with_reducible refine wEI ?_; (first | (refine wEN ?_; skip) | (refine wEF rfl (fun K hK => ?_); go_simp) | (refine wEL rfl rfl (fun K hK => ?_); go_simp) | (refine wER rfl (fun K hK => ?_); go_simp) | (refine wEM rfl (fun K hK => ?_); go_simp; try refine ⟨_, _, ⟨rfl, rfl⟩, ?_⟩) | (refine wEG rfl (fun K hK => ?_); go_simp) | (refine wEA rfl (fun K hK => ?_); go_simp))))
  go_ret
  refine ⟨by simp [mhB], ?_⟩
  exact (Fr.trans (S := []) (Fr.drew Fr.refl) hF1 (by simp)).trans hF2 (by simp)
def cidA (c : CidM) : Value := .agg #[.int .u64 c.v, .int .u64 c.codec, .int .u64 c.code, .string ⟨c.dig.toArray⟩]
def cidC (c : CidM) : List Value := [.int .u64 c.v, .int .u64 c.codec, .int .u64 c.code, .string ⟨c.dig.toArray⟩]
structure CidM.Ok1 (c : CidM) : Prop where
  v : c.v < 18446744073709551616
  codec : c.codec < 18446744073709551616
  code : c.code < 18446744073709551616
  dig : c.dig.length < 1000000000
set_option maxRecDepth 1000000 in
set_option maxHeartbeats 12800000 in
theorem spCidBytes {w : World} {c : CidM} (hok : c.Ok1) : Calls Tryz.prog 34 #[cidA c] w fun e w' => e = .returned (.string ⟨c.bytes.toArray⟩) ∧ Fr [] w w' := by
  obtain ⟨hv, hcd, hc, hd⟩ := hok
  have hu1 := Lib.uvarint_length64 hcd
  have hm : (mhB c.code c.dig).length ≤ 1000000020 := by have := Lib.uvarint_length64 hc; have := Lib.uvarint_length64 (x := c.dig.length) (by omega); simp [mhB]; omega
  have h1 := fun w => spVarint (w := w) (n := 1) (by omega)
  have h2 := fun w => spVarint (w := w) hcd
  have h3 := fun w => spMh (w := w) hc hd
  rw [uv1] at h1
  by_cases h0 : c.v = 0
  · have hz : (c.v : Int) = 0 := by omega
    have hb : c.bytes = mhB c.code c.dig := by unfold CidM.bytes; rw [if_pos h0]
    rw [hb]
    clear h0 hb
    unfold cidA
    go_enter Tryz.func34, Tryz.ntmps34
    go_wp2_with (first
      | go_at_call 63; refine (h3 _).mono ?_; rintro e w3 ⟨rfl, hF3⟩
      | (refine wre 3 oSp11 ?_)
      | (with_reducible refine wEI ?_; (first | (refine wEN ?_; skip) | (refine wEF rfl (fun K hK => ?_); go_simp) | (refine wEL rfl rfl (fun K hK => ?_); go_simp) | (refine wER rfl (fun K hK => ?_); go_simp) | (refine wEM rfl (fun K hK => ?_); go_simp; try refine ⟨_, _, ⟨rfl, rfl⟩, ?_⟩) | (refine wEG rfl (fun K hK => ?_); go_simp) | (refine wEA rfl (fun K hK => ?_); go_simp))))
    go_ret
    exact ⟨rfl, Fr.trans (S := []) (by exact frP) hF3 (by simp)⟩
  · have hz : ¬ (c.v : Int) = 0 := by omega
    have hb : c.bytes = [1] ++ (Lib.uvarint c.codec ++ mhB c.code c.dig) := by unfold CidM.bytes; rw [if_neg h0, uv1]
    rw [hb]
    clear h0 hb
    unfold cidA
    go_enter Tryz.func34, Tryz.ntmps34
    go_wp2_with (first
      | go_at_call 25; refine (h1 _).mono ?_; rintro e w1 ⟨g1, c1, rfl, hg1, hB1, hF1⟩; (try go_simp); refine hK _ _ (Fr.ext hF1) ?_; clear h1
      | (with_reducible refine wEI ?_); (refine wpE_str _ rfl rfl rfl hB1 rfl rfl ?_); (try go_simp); clear hB1
      | go_at_call 25; refine (h2 _).mono ?_; rintro e w2 ⟨g2, c2, rfl, hg2, hB2, hF2⟩; (try go_simp); refine hK _ _ (Fr.ext hF2) ?_; clear h2
      | (with_reducible refine wEI ?_); (refine wpE_str _ rfl rfl rfl hB2 rfl rfl ?_); (try go_simp); clear hB2
      | go_at_call 63; refine (h3 _).mono ?_; rintro e w3 ⟨rfl, hF3⟩; (try go_simp); refine hK _ _ (Fr.ext hF3) ?_; clear h3
      | (refine wre 3 oSp11 ?_)
      | (with_reducible refine wEI ?_; (first | (refine wEN ?_; skip) | (refine wEF rfl (fun K hK => ?_); go_simp) | (refine wEL rfl rfl (fun K hK => ?_); go_simp) | (refine wER rfl (fun K hK => ?_); go_simp) | (refine wEM rfl (fun K hK => ?_); go_simp; try refine ⟨_, _, ⟨rfl, rfl⟩, ?_⟩) | (refine wEG rfl (fun K hK => ?_); go_simp) | (refine wEA rfl (fun K hK => ?_); go_simp))))
    go_ret
    refine ⟨by simp, ?_⟩
    exact ((Fr.trans (S := []) (by exact frP) hF1 (by simp)).trans hF2 (by simp)).trans hF3 (by simp)
end Go.Proofs.Wx

namespace Go.Proofs.Wx
open Go Go.RowKit
theorem or_head : ∀ (M : Fin 8) (n : Fin 32), (M.val * 32 ||| n.val) = M.val * 32 + n.val := by decide
theorem or_head8 {M n : Nat} (hM : M < 8) (hn : n < 32) : bits .or .u8 ((M : Int) * 32) (n : Int) = (M : Int) * 32 + n := by
  have h := (bits_nat .u8 8 (by decide) wraps_u8 (M * 32) n (by omega) (by omega)).2
  have h2 := or_head ⟨M, hM⟩ ⟨n, hn⟩
  simp only at h2
  rw [h2] at h
  push_cast at h
  exact h
theorem spHead {w : World} {M n : Nat} (hM : M < 8) (hn : n < 256) : Calls Tryz.prog 32 #[.int .u8 M, .int .u64 n] w fun e w' => e = .returned (.string ⟨(hdB M n).toArray⟩) ∧ Fr [] w w' := by
  by_cases h : n < 24
  · have hz : (n : Int) < 24 := by omega
    have hb : hdB M n = [UInt8.ofNat (M * 32 + n)] := by unfold hdB; rw [if_pos h]
    rw [hb]
    have hW : IntKind.u8.wrap (n : Int) = (n : Int) := by simp [IntKind.wrap, IntKind.bits, IntKind.signed]; omega
    have hO := or_head8 hM (n := n) (by omega)
    clear hb h
    go_enter Tryz.func32, Tryz.ntmps32
    go_wp2_with (first
      | ((with_reducible refine list_convert (fun K hK => ?_));  refine strOf _ rfl (xs := [UInt8.ofNat (M * 32 + n)]) (b := w.heap.size) (off := 0) (Blk.bs (pre := []) (post := []) (Blk.newAt rfl) (by simp [by8]; omega) rfl) rfl rfl ?_))
    go_ret
    exact ⟨by simp, by exact frP⟩
  · have hz : ¬ (n : Int) < 24 := by omega
    have hz2 : (n : Int) < 256 := by omega
    have hb : hdB M n = [UInt8.ofNat (M * 32 + 24), UInt8.ofNat n] := by unfold hdB; rw [if_neg h]
    rw [hb]
    have hW : IntKind.u8.wrap (n : Int) = (n : Int) := by simp [IntKind.wrap, IntKind.bits, IntKind.signed]; omega
    have hO : bits .or .u8 ((M : Int) * 32) 24 = (M : Int) * 32 + 24 := or_head8 hM (n := 24) (by omega)
    clear hb h
    go_enter Tryz.func32, Tryz.ntmps32
    go_wp2_with (first
      | ((with_reducible refine list_convert (fun K hK => ?_));  refine strOf _ rfl (xs := [UInt8.ofNat (M * 32 + 24), UInt8.ofNat n]) (b := w.heap.size) (off := 0) (Blk.bs (pre := []) (post := []) (Blk.newAt rfl) (by simp [by8]; omega) rfl) rfl rfl ?_))
    go_ret
    exact ⟨by simp, by exact frP⟩
theorem spLink {w : World} {c : CidM} (hok : c.Ok) : Calls Tryz.prog 33 #[cidA c] w fun e w' => e = .returned (.string ⟨(linkB c).toArray⟩) ∧ Fr [] w w' := by
  have hle := hok.le
  have hok1 : c.Ok1 := by
    have := hok.len
    rcases hok.kind with ⟨h0, h1, h2, h3⟩ | ⟨h0, h1, h2⟩ <;> exact ⟨by omega, by omega, by omega, by omega⟩
  have h1 := fun w => spCidBytes (w := w) hok1
  have h2 := fun w => spHead (w := w) (M := 6) (n := 42) (by omega) (by omega)
  have h3 := fun w => spHead (w := w) (M := 2) (n := c.bytes.length + 1) (by omega) (by omega)
  have hb : linkB c = hdB 6 42 ++ (hdB 2 (c.bytes.length + 1) ++ ([0] ++ c.bytes)) := by simp [linkB]
  rw [hb]
  have l1 := hdB_length 6 42
  have l2 := hdB_length 2 (c.bytes.length + 1)
  have wL : IntKind.u64.wrap (c.bytes.length : Int) = (c.bytes.length : Int) := by simp [IntKind.wrap, IntKind.bits, IntKind.signed]; omega
  obtain ⟨A, hA⟩ : ∃ A, Hid (A = hdB 6 42) := ⟨_, rfl⟩
  obtain ⟨B, hB⟩ : ∃ B, Hid (B = hdB 2 (c.bytes.length + 1)) := ⟨_, rfl⟩
  rw [← hA.out] at h2 l1 ⊢
  rw [← hB.out] at h3 l2 ⊢
  unfold cidA at *
  clear hb hok hok1
  go_enter Tryz.func33, Tryz.ntmps33
  go_wp2_with (first
    | go_at_call 34; refine (h1 _).mono ?_; rintro e w1 ⟨rfl, hF1⟩; clear h1
    | go_at_call 32; refine (h2 _).mono ?_; rintro e w2 ⟨rfl, hF2⟩; clear h2
    | go_at_call 32; refine (h3 _).mono ?_; rintro e w3 ⟨rfl, hF3⟩; clear h3)
  go_ret
  exact ⟨rfl, ((Fr.trans (S := []) (by exact frP) hF1 (by simp)).trans hF2 (by simp)).trans hF3 (by simp)⟩
/-- Identifiers in a row of a slice. -/
def CidsAt (w : World) (ad : Option Addr) (l : List CidM) : Prop := ∀ i c, l[i]? = some c → ∃ b o, ad = some ⟨b, o, none⟩ ∧ w.cell? ⟨b, o + i * 4, none⟩ = some (.int .u64 c.v) ∧ w.cell? ⟨b, o + i * 4 + 1, none⟩ = some (.int .u64 c.codec) ∧ w.cell? ⟨b, o + i * 4 + 2, none⟩ = some (.int .u64 c.code) ∧
  w.cell? ⟨b, o + i * 4 + 3, none⟩ = some (.string ⟨c.dig.toArray⟩)
theorem CidsAt.ext {w w' : World} {ad : Option Addr} {l : List CidM} (h : CidsAt w ad l) (he : w.Ext w') : CidsAt w' ad l := fun i c hc => by
  obtain ⟨b, o, ha, h1, h2, h3, h4⟩ := h i c hc
  exact ⟨b, o, ha, he.cell h1, he.cell h2, he.cell h3, he.cell h4⟩
theorem wrap64_1 {n : Nat} (h : n < 1000000000) : RowKit.wrap64 ((n : Int) + 1) = ((n + 1 : Nat) : Int) := by
  unfold RowKit.wrap64
  rw [Int.emod_eq_of_lt (by omega) (by omega)]; omega
def hdRel (w : World) (pre : List UInt8) (l : List CidM) (k : Nat) (s5 s19 : Value) (wr : World) : Prop :=
  ∃ l1 l2 X, l = l1 ++ l2 ∧ l2.length = k ∧ s19 = .int .i64 l1.length ∧ s5 = .string ⟨X⟩ ∧ X.toList = pre ++ rootsB l1 ∧ Fr [] w wr
set_option maxRecDepth 1000000 in
set_option maxHeartbeats 12800000 in
theorem spHeader {w : World} {ad : Option Addr} {cap : Nat} {l : List CidM} (h : CidsAt w ad l) (hl : l.length ≤ 50) (hok : ∀ c ∈ l, c.Ok) :
    Calls Tryz.prog 18 #[.slice ad l.length cap, .int .u64 1] w fun e w' => e = .returned (.string ⟨(headerB l).toArray⟩) ∧ Fr [] w w' := by
  have hd := fun (M n : Nat) (hM : M < 8) (hn : n < 256) w => spHead (w := w) hM hn
  have h52 := hd 5 2 (by omega) (by omega)
  have h35 := hd 3 5 (by omega) (by omega)
  have h4l := hd 4 l.length (by omega) (by omega)
  have h37 := hd 3 7 (by omega) (by omega)
  have h01 := hd 0 1 (by omega) (by omega)
  have wL : IntKind.u64.wrap (l.length : Int) = (l.length : Int) := by simp [IntKind.wrap, IntKind.bits, IntKind.signed]; omega
  have g1 := hdB_length 5 2
  have g2 := hdB_length 3 5
  have g3 := hdB_length 4 l.length
  have g4 := hdB_length 3 7
  have g5 := hdB_length 0 1
  have hH := hbB_length hl hok
  obtain ⟨A, hA⟩ : ∃ A, Hid (A = hdB 5 2) := ⟨_, rfl⟩
  obtain ⟨B, hB⟩ : ∃ B, Hid (B = hdB 3 5) := ⟨_, rfl⟩
  obtain ⟨C, hC⟩ : ∃ C, Hid (C = hdB 4 l.length) := ⟨_, rfl⟩
  obtain ⟨D, hD⟩ : ∃ D, Hid (D = hdB 3 7) := ⟨_, rfl⟩
  obtain ⟨E, hE⟩ : ∃ E, Hid (E = hdB 0 1) := ⟨_, rfl⟩
  rw [← hA.out] at h52 g1
  rw [← hB.out] at h35 g2
  rw [← hC.out] at h4l g3
  rw [← hD.out] at h37 g4
  rw [← hE.out] at h01 g5
  have hvi := fun w => spVarint (w := w) (n := (hbB l).length) (by omega)
  have HL := Lib.hid (And.intro hl (And.intro hok hH))
  clear hd hH hok
  go_enter Tryz.func18, Tryz.ntmps18
  go_wp2_with (first
    | go_at_call 32; refine (h52 _).mono ?_; rintro e w1 ⟨rfl, hF1⟩; clear h52
    | go_at_call 32; refine (h35 _).mono ?_; rintro e w2 ⟨rfl, hF2⟩; clear h35
    | go_at_call 32; refine (h4l _).mono ?_; rintro e w3 ⟨rfl, hF3⟩; clear h4l)
  have hF03 : Fr [] w w3 := (hF1.trans hF2 (by simp)).trans hF3 (by simp)
  go_loopg [5, 19] l.length (fun k s5 s19 wr => hdRel w (A ++ (B ++ (sRoots ++ C))) l k s5 s19 wr)
  case atStart => exact ⟨[], l, _, rfl, rfl, rfl, rfl, by simp [sRoots, rootsB], hF03⟩
  case round =>
    obtain ⟨l1, l2, X, hll, hk, rfl, rfl, hX, hFr⟩ := hrel
    obtain ⟨Y, rfl⟩ : ∃ Y : List UInt8, X = Y.toArray := ⟨X.toList, by simp⟩
    have hY : Y = (A ++ (B ++ (sRoots ++ C))) ++ rootsB l1 := by simpa using hX
    clear hX hF1 hF2 hF3 hF03
    cases l2 with
    | nil =>
      have hz : ¬ (l1.length : Int) < (l.length : Int) := by rw [hll]; simp
      have e1 : l = l1 := by simpa using hll
      have hHB : hbB l = Y ++ (D ++ (sVersion ++ E)) := by rw [hY, e1, hA.out, hB.out, hC.out, hD.out, hE.out, e1]; simp [hbB]
      have hYl : Y.length ≤ 12000 := by have := HL.out.2.2; rw [hHB] at this; simp at this; omega
      have hnn : (Y.length : Int) + ((D.length : Int) + ((E.length : Int) + 1 + 1 + 1 + 1 + 1 + 1 + 1)) = ((hbB l).length : Nat) := by rw [hHB]; simp [sVersion]
      have hvl := Lib.uvarint_length64 (x := (hbB l).length) (by omega)
      have HQ := Lib.hid (And.intro hHB (And.intro hll hk))
      have HNN := Lib.hid hnn
      clear e1 hHB hll hk hY hnn
      go_wp2_with (first
        | go_at_call 32; refine (h37 _).mono ?_; rintro e w4 ⟨rfl, hF4⟩; clear h37
        | go_at_call 32; refine (h01 _).mono ?_; rintro e w5 ⟨rfl, hF5⟩; clear h01
        | go_at_call 25; rw [HNN.out]; refine (hvi _).mono ?_; rintro e w6 ⟨g6, c6, rfl, hg6, hB6, hF6⟩; clear hvi
        | (with_reducible refine list_convert (fun K hK => ?_);  refine strOf _ rfl hB6 rfl rfl ?_))
      go_ret
      refine ⟨?_, ((hFr.trans hF4 (by simp)).trans hF5 (by simp)).trans hF6 (by simp)⟩
      unfold headerB
      rw [HQ.out.1]
      simp [sVersion]
    | cons c l2 =>
      have hz : (l1.length : Int) < (l.length : Int) := by rw [hll]; simp; omega
      have hgc : l[l1.length]? = some c := by rw [hll]; simp
      obtain ⟨b, o, rfl, x1, x2, x3, x4⟩ := (h.ext (Fr.ext hFr)) _ _ hgc
      have hcok := HL.out.2.1 c (List.mem_of_getElem? hgc)
      have hlk := fun w => spLink (w := w) hcok
      have hll2 := linkB_length hcok
      have hl50 : l1.length + l2.length + 1 ≤ 50 := by have := HL.out.1; rw [hll] at this; simp at this; omega
      have hYl : Y.length ≤ 12000 := by
        have := rootsB_length (l := l1) (fun x hx => HL.out.2.1 x (by rw [hll]; simp [hx]))
        rw [hY]; simp [sRoots]; omega
      unfold cidA at hlk
      have HQ := Lib.hid (And.intro hll (And.intro hk hY))
      clear hll hk hY hgc
      go_wp2_with (first
        | go_at_call 33; refine (hlk _).mono ?_; rintro e w4 ⟨rfl, hF4⟩; clear hlk)
      go_roundg l2.length
      case measure => have := HQ.out.2.1; simp at this; omega
      case rel =>
        obtain ⟨hll, hk, hY⟩ := HQ.out
        refine ⟨l1 ++ [c], l2, _, by rw [hll]; simp, rfl, by first | (rw [wrap64_1 (by omega)]; simp; done) | (simp; done), rfl, ?_, hFr.trans (Fr.trans (S := []) (by exact frP) hF4 (by simp)) (by simp)⟩
        simp [hY, rootsB]
end Go.Proofs.Wx

namespace Go.Proofs.Wx
open Go Go.RowKit
theorem leBytes_snoc : ∀ (k n : Nat), Lib.leBytes (k + 1) n = Lib.leBytes k n ++ [UInt8.ofNat (n / 256 ^ k)] := by
  intro k
  induction k with
  | zero => intro n; simp [Lib.leBytes]; apply UInt8.toNat.inj; simp
  | succ k ih =>
    intro n
    rw [Lib.leBytes, ih (n / 256), Lib.leBytes]
    simp [Nat.div_div_eq_div_mul, Nat.pow_succ, Nat.mul_comm]
/-- From w and an own row v has come w' and an own row v'; nothing else has turned. -/
structure Ap8 (base : Nat) (w : World) (v : Value) (xs : List UInt8) (w' : World) (v' : Value) (xs' : List UInt8) : Prop where
  own : OwnB base w' v' xs'
  at' : v'.ownBlock = v.ownBlock ∨ ∃ k, v'.ownBlock = some k ∧ w.heap.size ≤ k
  fr : Fr v.ownBlock.toList w w'
section
variable {base : Nat} {w w' w'' : World} {v v' v'' : Value} {xs xs' xs'' : List UInt8}
theorem Ap8.refl (h : OwnB base w v xs) : Ap8 base w v xs w v xs := ⟨h, .inl rfl, Fr.refl⟩
theorem Ap8.trans (h : Ap8 base w v xs w' v' xs') (h' : Ap8 base w' v' xs' w'' v'' xs'') : Ap8 base w v xs w'' v'' xs'' := by
  refine ⟨h'.own, ?_, h.fr.trans h'.fr ?_⟩
  · rcases h'.at' with e | ⟨k, e, hk⟩
    · rcases h.at' with e1 | ⟨k, e1, hk⟩
      · exact .inl (e.trans e1)
      · exact .inr ⟨k, e.trans e1, hk⟩
    · exact .inr ⟨k, e, Nat.le_trans h.fr.size hk⟩
  · intro k hk hl
    have hk' : v'.ownBlock = some k := by simpa using hk
    rcases h.at' with e1 | ⟨k', e1, hk2⟩
    · rw [← e1]; exact hk
    · rw [hk'] at e1; cases e1; omega
/-- Blocks that are none of the row's turn. -/
theorem Ap8.step {X : List Nat} (h : Ap8 base w v xs w' v' xs') (hf : Fr X w' w'') (hX : ∀ k ∈ X, v'.ownBlock ≠ some k ∧ w.heap.size ≤ k) : Ap8 base w v xs w'' v' xs' :=
  ⟨h.own.fr hf fun k hk => .inr (hX k hk).1, h.at', h.fr.trans hf fun k hk hl => by have := (hX k hk).2; omega⟩
theorem Ap8.same (h : Ap8 base w v xs w' v' xs') (hf : Fr [] w' w'') : Ap8 base w v xs w'' v' xs' := h.step hf (by simp)
theorem Ap8.pre {w0 : World} (h : Ap8 base w v xs w' v' xs') (hf : Fr [] w0 w) : Ap8 base w0 v xs w' v' xs' := by
  refine ⟨h.own, ?_, (hf.mono (by simp)).trans h.fr (fun k hk _ => hk)⟩
  rcases h.at' with e | ⟨k, e, hk⟩
  · exact .inl e
  · exact .inr ⟨k, e, Nat.le_trans hf.size hk⟩
end
/-- append of bytes to a row that the call owns. -/
theorem appX {o : Oper} {a : Act} {K : Act → World → Prop} {Q : Exit → Act → World → Prop} {w : World} (s x : Operand)
    (ho : o.op = .call { callee := .builtin .append, args := #[s, x], argTypes := #[55, 55] })
    (base : Nat) (v : Value) (xs : List UInt8) (hs : a.eval s = v) (hown : OwnB base w v xs) (ad : Addr) (m c : Nat) (hx : a.eval x = .slice (some ad) m c) (ys : List UInt8) (hm : 0 < m) (hy : ys.length = m) (hc : ∀ j u, (by8 ys)[j]? = some u → w.cell? (ad.add j) = some u)
    (hl : xs.length + m < 1000000000) (hbase : base ≤ w.heap.size)
    (h : ∀ v' w', Ap8 base w v xs w' v' (xs ++ ys) → K (a.put o.dst v') w') : o.wp Tryz.prog a w K Q := by
  refine appOwnX s x 55 ho base 5 (.int .u8 0) 1 1 u8_slice u8_info rfl (by omega) v xs.length (by8 xs) hs hown ad m c (by8 ys) hx hm (by rw [by8_length]; omega) hc (by8_one ys) (by omega) (by omega) hbase (fun v' w' h1 h2 h3 _ => h v' w' ⟨?_, ?_, h2⟩)
  · have := h1
    rwa [show xs.length + m = (xs ++ ys).length by simp [hy], show by8 xs ++ by8 ys = by8 (xs ++ ys) by simp [by8]] at this
  · exact h3.imp id fun e => ⟨_, e, Nat.le_refl _⟩
theorem app1X {o : Oper} {a : Act} {K : Act → World → Prop} {Q : Exit → Act → World → Prop} {w : World} (s x : Operand)
    (ho : o.op = .call { callee := .builtin .append, args := #[s, x], argTypes := #[55, 55] })
    (base : Nat) (v : Value) (xs : List UInt8) (hs : a.eval s = v) (hown : OwnB base w v xs) (b c : Nat) (hx : a.eval x = .slice (some ⟨b, 0, none⟩) 1 c) (y : UInt8) (Y : Int) (hY : Y = (y.toNat : Nat)) (hc : w.cell? ⟨b, 0, none⟩ = some (.int .u8 Y))
    (hl : xs.length < 900000000) (hbase : base ≤ w.heap.size)
    (h : ∀ v' w', Ap8 base w v xs w' v' (xs ++ [y]) → K (a.put o.dst v') w') : o.wp Tryz.prog a w K Q := by
  subst hY
  refine appX s x ho base v xs hs hown ⟨b, 0, none⟩ 1 c hx [y] (by omega) rfl ?_ (by omega) hbase h
  intro j u hu
  match j, hu with
  | 0, hu => simp [by8] at hu; subst hu; rw [Addr.add_lit]; exact hc
def lowRel (w : World) (base : Nat) (v : Value) (xs : List UInt8) (n size : Nat) (k : Nat) (s0 s7 : Value) (wr : World) : Prop :=
  ∃ i, s7 = .int .i64 (i : Nat) ∧ i + k = size ∧ Ap8 base w v xs wr s0 (xs ++ Lib.leBytes i n)
theorem byte_at (n i : Nat) : (n : Int) / 2 ^ (8 * i) % 256 = ((UInt8.ofNat (n / 256 ^ i)).toNat : Nat) := by
  rw [show (256 : Nat) ^ i = 2 ^ (8 * i) by rw [Nat.pow_mul]]
  simp
theorem spLow {w : World} {base : Nat} {v : Value} {xs : List UInt8} {n size : Nat} (h : OwnB base w v xs) (hb : base ≤ w.heap.size) (hs : size ≤ 8) (hl : xs.length < 800000000) :
    Calls Tryz.prog 58 #[v, .int .u64 n, .int .i64 size] w fun e w' => ∃ v', e = .returned v' ∧ Ap8 base w v xs w' v' (xs ++ Lib.leBytes size n) := by
  go_enter Tryz.func58, Tryz.ntmps58
  go_wp2
  go_loopg [0, 7] size (fun k s0 s7 wr => lowRel w base v xs n size k s0 s7 wr)
  case atStart => exact ⟨0, rfl, by omega, by simpa [Lib.leBytes] using Ap8.refl h⟩
  case round =>
    obtain ⟨i, rfl, hik, hO⟩ := hrel
    clear h
    by_cases hi : i < size
    · have hz : (i : Int) < (size : Int) := by omega
      have hi8 : (i : Int) < 8 := by omega
      have HI := Lib.hid hik
      have hfs := hO.fr.size
      clear hik
      go_wp2_with (first
        | ((with_reducible refine list_bi .append (fun K hK => ?_));  refine app1X _ _ rfl base _ _ rfl (hO.own.fr (S := []) (by exact frP) (by simp)) wr.heap.size 1 rfl (UInt8.ofNat (n / 256 ^ i)) _ (byte_at n i) (World.cell?_alloc_new _ _ _ 0) (by simp [Lib.leBytes_length]; omega) (by simp; omega) (fun v5 w5 hA5 => ?_)))
      go_roundg (size - (i + 1))
      case measure => have := HI.out; omega
      case rel =>
        refine ⟨i + 1, by first | (rw [wrap64_1 (by omega)]; done) | (simp; done), by have := HI.out; omega, ?_⟩
        rw [leBytes_snoc, ← List.append_assoc]
        exact (hO.same (Fr.alloc Fr.refl)).trans hA5
    · have hz : ¬ (i : Int) < (size : Int) := by omega
      have hie : i = size := by omega
      have HI := Lib.hid hie
      clear hie hik
      go_wp2
      go_ret
      refine ⟨_, rfl, ?_⟩
      rw [HI.out] at hO; exact hO
end Go.Proofs.Wx
