import Derived.Test.YtgbfgjhndkkncaaGreatDoorM12
import Derived.Test.YtgbfgjhndkkncaaGreatDoorM13
set_option maxRecDepth 100000
set_option maxHeartbeats 1000000
set_option linter.unusedVariables false
set_option linter.unusedSimpArgs false
namespace Go.Proofs.Wx
open Go Go.RowKit
abbrev oEx20 : List (Nat × Cls) := [(0,.free),(1,.look),(2,.free),(3,.free),(4,.act),(5,.free),(6,.free),(7,.act)]
abbrev oEx21 : List (Nat × Cls) := [(0,.look),(1,.free),(2,.free),(3,.act),(4,.free)]
theorem leU64 {w : World} {g o n c x : Nat} (hB : Bs w g o (Lib.leBytes 8 x)) (hx : x < 18446744073709551616) (hn : 8 ≤ n) :
    Calls Tryz.prog 106 #[.agg #[], .slice (some ⟨g, o, none⟩) n c] w fun e w' => e = .returned (.int .u64 x) ∧ Fr [] w w' := by
  obtain ⟨b0, b1, b2, b3, b4, b5, b6, b7, e0⟩ : ∃ b0 b1 b2 b3 b4 b5 b6 b7, Lib.leBytes 8 x = [b0, b1, b2, b3, b4, b5, b6, b7] := ⟨_, _, _, _, _, _, _, _, rfl⟩
  rw [e0] at hB
  refine (Tryz.binary_LE_Uint64 g o n c b0 b1 b2 b3 b4 b5 b6 b7 w hn (hB.cell 0 (by simp)) (hB.cell 1 (by simp)) (hB.cell 2 (by simp)) (hB.cell 3 (by simp)) (hB.cell 4 (by simp)) (hB.cell 5 (by simp)) (hB.cell 6 (by simp)) (hB.cell 7 (by simp))).mono ?_
  rintro e w' ⟨rfl, hb⟩
  exact ⟨by rw [← e0, Lib.leNat_leBytes 8 x hx], Fr.of_below hb (Nat.le_refl _)⟩
theorem w64_nat {x : Nat} (h : x < 1000000000) : RowKit.wrap64 (x : Int) = (x : Int) := wrap64_in (by omega) (by omega)
abbrev tHD : TypeId := 96
set_option maxRecDepth 1000000 in
set_option maxHeartbeats 12800000 in
theorem traitsRead {w : World} {r sb p a b : Nat} {x2 x3 x4 : Value} {xs rest : List UInt8} {i : Nat} (h : Rdr w r sb xs i) (hx : xs.drop i = Lib.leBytes 8 a ++ (Lib.leBytes 8 b ++ rest)) (ha : a < 18446744073709551616) (hb : b < 18446744073709551616)
    (hP : Blk w p [.int .u64 0, .int .u64 0, x2, x3, x4] tHD (0, 0)) (hpr : p ≠ r) (hps : p ≠ sb) :
    Calls Tryz.prog 104 #[.pointer (some ⟨p, 0, none⟩), .iface 63 (.pointer (some ⟨r, 0, none⟩))] w fun e w' =>
      e = .returned (.tuple #[.int .i64 16, .nilIface]) ∧ Rdr w' r sb xs (i + 16) ∧ Blk w' p [.int .u64 a, .int .u64 b, x2, x3, x4] tHD (0, 0) ∧ Fr [r, p] w w' := by
  have hlt := h.lt
  have hpl := hP.lt
  have hlen : i + 16 ≤ xs.length := by have := congrArg List.length hx; simp [lb8] at this; omega
  have hdt : (xs.drop i).take 16 = Lib.leBytes 8 a ++ Lib.leBytes 8 b := by rw [hx, ← List.append_assoc, List.take_left' (by simp [lb8])]
  have HD := Lib.hid hdt
  clear hdt hx
  have ha' := fun (w' : World) (g n c : Nat) (hB : Bs w' g 0 (Lib.leBytes 8 a)) hn => leU64 (o := 0) (n := n) (c := c) hB ha hn
  have hb' := fun (w' : World) (g n c : Nat) (hB : Bs w' g 8 (Lib.leBytes 8 b)) hn => leU64 (o := 8) (n := n) (c := c) hB hb hn
  have HA := Lib.hid ha'
  have HB := Lib.hid hb'
  clear ha hb ha' hb'
  go_enter Tryz.func104, Tryz.ntmps104
  go_wp2_with (first
    | ((with_reducible refine list_makeSlice (fun K hK => ?_));  refine makeBk _ _ rfl _ _ _ _ 16 16 w.heap.size rfl rfl rfl rfl (by omega) (by omega) rfl (fun w1 hg1 hF1 => ?_); have hs1 := hF1.size)
    | go_at_call 105; refine (readFull (h.fr hF1 (by simp) (by simp)) w.heap.size 0 16 16 _ _ hg1 (by simp) (by omega) (by omega) (by omega) hlen).mono ?_; rintro e w2 ⟨rfl, hR2, hB2, hF2⟩; have hP2 := (hF2.blk (hF1.blk hP (by simp)) (by simp; omega)); have hB2' : Blk w2 w.heap.size (by8 (Lib.leBytes 8 a ++ Lib.leBytes 8 b)) 5 (0, 0) := hB2.conv (by rw [HD.out]; simp [lay, by8, lb8]); have ba2 : Bs w2 w.heap.size 0 (Lib.leBytes 8 a) := Blk.bs (pre := []) (post := by8 (Lib.leBytes 8 b)) hB2' (by simp [by8_append]) rfl; have bb2 : Bs w2 w.heap.size 8 (Lib.leBytes 8 b) := Blk.bs (pre := by8 (Lib.leBytes 8 a)) (post := []) hB2' (by simp [by8_append]) (by simp [by8_length, lb8]); clear hB2 hB2'
    | go_at_call 106; (with_reducible refine (HA.out _ _ 8 16 ba2.drew (by omega)).mono ?_); rintro e w3 ⟨rfl, hF3⟩; have hP3 := hF3.blk hP2.drew (by simp); have pc3 := hP3.cells; have pf3 := hP3.free; have H3 := Lib.hid (And.intro hP3 (And.intro hF3 (And.intro hF2 (And.intro hF1 (And.intro bb2 hR2))))); clear hP3 hF3 hF2 hF1 bb2 ba2 hR2 hP2 hg1
    | go_at_call 106; (with_reducible refine (HB.out _ _ 8 8 (Bs.drew (Bs.setNe (a := ⟨p, 0, none⟩) (v := .int .u64 a) (by simp; omega) (H3.out.2.2.2.2.1.drew.fr H3.out.2.1 (by simp)))) (by omega)).mono ?_); rintro e w5 ⟨rfl, hF5⟩; clear pc3 pf3; have hP5 := hF5.blk (Blk.drew (H3.out.1.set (o := 0) (v := .int .u64 a))) (by simp); have pc5 := hP5.cells; have pf5 := hP5.free; have H5 := Lib.hid (And.intro hP5 hF5); clear hP5 hF5
    | (refine wre 6 oEx20 ?_)
    | (refine wre 7 oEx20 ?_)
    | (with_reducible refine wEI ?_; (first | (refine wEN ?_; skip) | (refine wEF rfl (fun K hK => ?_); go_simp) | (refine wEL rfl rfl (fun K hK => ?_); go_simp) | (refine wER rfl (fun K hK => ?_); go_simp) | (refine wEM rfl (fun K hK => ?_); go_simp; try refine ⟨_, _, ⟨rfl, rfl⟩, ?_⟩) | (refine wpE_growp rfl rfl (fun K hK => ?_); simp only [List.getElem_toArray, List.getElem_cons_succ, List.getElem_cons_zero]; (first | ((with_reducible refine op_makeSlice ?_);  refine makeBk _ _ rfl _ _ _ _ 16 16 w.heap.size rfl rfl rfl rfl (by omega) (by omega) rfl (fun w1 hg1 hF1 => ?_); have hs1 := hF1.size))) | (refine wEG rfl (fun K hK => ?_); go_simp) | (refine wpE_actp rfl rfl (fun K hK => ?_); simp only [List.getElem_toArray, List.getElem_cons_succ, List.getElem_cons_zero]; (first | ((with_reducible refine op_makeSlice ?_);  refine makeBk _ _ rfl _ _ _ _ 16 16 w.heap.size rfl rfl rfl rfl (by omega) (by omega) rfl (fun w1 hg1 hF1 => ?_); have hs1 := hF1.size))) | (refine wEA rfl (fun K hK => ?_); go_simp))))
  go_ret2
  obtain ⟨hP3, hF3, hF2, hF1, bb2, hR2⟩ := H3.out
  obtain ⟨hP5, hF5⟩ := H5.out
  have hF24 : Fr [p] w2 (w3.setCell ⟨p, 0, none⟩ (.int .u64 a)) := Fr.setCell (by simp) (Fr.trans (S := [p]) (S' := []) (Fr.drew Fr.refl) hF3 (by simp))
  have hF25 : Fr [p] w2 (w5.setCell ⟨p, 1, none⟩ (.int .u64 b)) := Fr.setCell (by simp) (Fr.trans (S := [p]) (S' := []) (Fr.drew hF24) hF5 (by simp))
  exact ⟨rfl, hR2.fr hF25 (by simp; omega) (by simp; omega), hP5.set, Fr.trans (S := [r, p]) (S' := [p]) (Fr.trans (S := [r, p]) (S' := [r, w.heap.size]) (hF1.mono (by simp)) hF2 (by first | (simp; done) | (simp; omega))) hF25 (by first | (simp; done) | (simp; omega))⟩
set_option maxRecDepth 1000000 in
set_option maxHeartbeats 12800000 in
theorem headerRead {w : World} {r sb p a b x y z : Nat} {xs rest : List UInt8} {i : Nat} (h : Rdr w r sb xs i) (hx : xs.drop i = hdrB a b x y z ++ rest) (ha : a < 18446744073709551616) (hb : b < 18446744073709551616) (h51 : 51 ≤ x) (hx9 : x < 1000000000) (hy0 : 0 < y) (hy9 : y < 1000000000) (hz9 : z < 1000000000)
    (hP : Blk w p [.int .u64 0, .int .u64 0, .int .u64 0, .int .u64 0, .int .u64 0] tHD (0, 0)) (hpr : p ≠ r) (hps : p ≠ sb) :
    Calls Tryz.prog 69 #[.pointer (some ⟨p, 0, none⟩), .iface 63 (.pointer (some ⟨r, 0, none⟩))] w fun e w' =>
      e = .returned (.tuple #[.int .i64 40, .nilIface]) ∧ Rdr w' r sb xs (i + 40) ∧ Blk w' p [.int .u64 a, .int .u64 b, .int .u64 x, .int .u64 y, .int .u64 z] tHD (0, 0) ∧ Fr [r, p] w w' := by
  have hlt := h.lt
  have hpl := hP.lt
  have hlen : i + 16 + 24 ≤ xs.length := by have := congrArg List.length hx; simp [hdrB_length] at this; omega
  have hc1 := traitsRead h (a := a) (b := b) (rest := Lib.leBytes 8 x ++ (Lib.leBytes 8 y ++ (Lib.leBytes 8 z ++ rest))) (by rw [hx]; simp [hdrB]) ha hb hP hpr hps
  have hdt : (xs.drop (i + 16)).take 24 = Lib.leBytes 8 x ++ (Lib.leBytes 8 y ++ Lib.leBytes 8 z) := by
    rw [← List.drop_drop, hx]
    have e : hdrB a b x y z ++ rest = (Lib.leBytes 8 a ++ Lib.leBytes 8 b) ++ ((Lib.leBytes 8 x ++ (Lib.leBytes 8 y ++ Lib.leBytes 8 z)) ++ rest) := by simp [hdrB]
    rw [e, List.drop_left' (by simp [lb8]), List.take_left' (by simp [lb8])]
  have HD := Lib.hid hdt
  have hxr := fun (w' : World) (g n c : Nat) (hB : Bs w' g 0 (Lib.leBytes 8 x)) hn => leU64 (o := 0) (n := n) (c := c) hB (by omega) hn
  have hyr := fun (w' : World) (g n c : Nat) (hB : Bs w' g 8 (Lib.leBytes 8 y)) hn => leU64 (o := 8) (n := n) (c := c) hB (by omega) hn
  have hzr := fun (w' : World) (g n c : Nat) (hB : Bs w' g 16 (Lib.leBytes 8 z)) hn => leU64 (o := 16) (n := n) (c := c) hB (by omega) hn
  have HX := Lib.hid hxr
  have HY := Lib.hid hyr
  have HZ := Lib.hid hzr
  have H0 := Lib.hid h
  have z1 : ¬ (x : Int) < 51 := by omega
  have z3 : ¬ (y : Int) ≤ 0 := by omega
  have z5 : ¬ (z : Int) < 0 := by omega
  have w2x := w64_nat hx9
  have w2y := w64_nat hy9
  have w2z := w64_nat hz9
  clear hxr hyr hzr ha hb hdt hx h51 hx9 hy0 hy9 hz9 hP h
  go_enter Tryz.func69, Tryz.ntmps69
  go_wp2_with (first
    | go_at_call 104; refine hc1.mono ?_; rintro e w1 ⟨rfl, hR1, hP1, hF1⟩; have hs1 := hF1.size
    | ((with_reducible refine list_makeSlice (fun K hK => ?_));  refine makeBk _ _ rfl _ _ _ _ 24 24 w1.heap.size rfl rfl rfl rfl (by omega) (by omega) rfl (fun w2 hg2 hF2 => ?_))
    | go_at_call 105; refine (readFull (hR1.fr hF2 (by simp) (by simp)) w1.heap.size 0 24 24 _ _ hg2 (by simp) (by omega) (by omega) (by omega) hlen).mono ?_; rintro e w3 ⟨rfl, hR3, hB3, hF3⟩; have hP3 := (hF3.blk (hF2.blk hP1 (by simp)) (by simp; omega)); have hB3' : Blk w3 w1.heap.size (by8 (Lib.leBytes 8 x ++ (Lib.leBytes 8 y ++ Lib.leBytes 8 z))) 5 (0, 0) := hB3.conv (by rw [HD.out]; simp [lay, by8, lb8]); have bx3 : Bs w3 w1.heap.size 0 (Lib.leBytes 8 x) := Blk.bs (pre := []) (post := by8 (Lib.leBytes 8 y ++ Lib.leBytes 8 z)) hB3' (by simp [by8_append]) rfl; have by3 : Bs w3 w1.heap.size 8 (Lib.leBytes 8 y) := Blk.bs (pre := by8 (Lib.leBytes 8 x)) (post := by8 (Lib.leBytes 8 z)) hB3' (by simp [by8_append]) (by simp [by8_length, lb8]); have bz3 : Bs w3 w1.heap.size 16 (Lib.leBytes 8 z) := Blk.bs (pre := by8 (Lib.leBytes 8 x ++ Lib.leBytes 8 y)) (post := []) hB3' (by simp [by8_append]) (by simp [by8_length, lb8]); have hF13 : Fr [r] w1 w3 := Fr.trans (S := [r]) (hF2.mono (by simp)) hF3 (by first | (simp; done) | (simp; omega)); have H3 := Lib.hid (And.intro hR3 (And.intro hP3 (And.intro bx3 (And.intro by3 (And.intro bz3 (And.intro hF13 hF1)))))); clear hB3 hB3' hF3 hF2 hg2 hR3 hP3 bx3 by3 bz3 hR1 hP1 hF1 hF13
    | go_at_call 106; (with_reducible refine (HX.out _ _ 8 24 H3.out.2.2.1.drew (by omega)).mono ?_); rintro e w4 ⟨rfl, hF4⟩; have H4 := Lib.hid hF4; clear hF4
    | go_at_call 106; (with_reducible refine (HY.out _ _ 8 16 (H3.out.2.2.2.1.drew.fr H4.out (by simp)).drew (by omega)).mono ?_); rintro e w5 ⟨rfl, hF5⟩; have H5 := Lib.hid hF5; clear hF5
    | go_at_call 106; (with_reducible refine (HZ.out _ _ 8 8 ((H3.out.2.2.2.2.1.drew.fr H4.out (by simp)).drew.fr H5.out (by simp)).drew (by omega)).mono ?_); rintro e w6 ⟨rfl, hF6⟩; have hP6 := hF6.blk (Blk.drew (H5.out.blk (Blk.drew (H4.out.blk (Blk.drew H3.out.2.1) (by simp))) (by simp))) (by simp); have pc6 := hP6.cells; have pf6 := hP6.free; have H6 := Lib.hid (And.intro hP6 hF6); clear hP6 hF6
    | (refine wre 9 oEx21 ?_)
    | (refine wre 10 oEx21 ?_)
    | (refine wre 11 oEx21 ?_)
    | (with_reducible refine wEI ?_; (first | (refine wEN ?_; skip) | (refine wEF rfl (fun K hK => ?_); go_simp) | (refine wEL rfl rfl (fun K hK => ?_); go_simp) | (refine wER rfl (fun K hK => ?_); go_simp) | (refine wEM rfl (fun K hK => ?_); go_simp; try refine ⟨_, _, ⟨rfl, rfl⟩, ?_⟩) | (refine wpE_growp rfl rfl (fun K hK => ?_); simp only [List.getElem_toArray, List.getElem_cons_succ, List.getElem_cons_zero]; (first | ((with_reducible refine op_makeSlice ?_);  refine makeBk _ _ rfl _ _ _ _ 24 24 w1.heap.size rfl rfl rfl rfl (by omega) (by omega) rfl (fun w2 hg2 hF2 => ?_)))) | (refine wEG rfl (fun K hK => ?_); go_simp) | (refine wpE_actp rfl rfl (fun K hK => ?_); simp only [List.getElem_toArray, List.getElem_cons_succ, List.getElem_cons_zero]; (first | ((with_reducible refine op_makeSlice ?_);  refine makeBk _ _ rfl _ _ _ _ 24 24 w1.heap.size rfl rfl rfl rfl (by omega) (by omega) rfl (fun w2 hg2 hF2 => ?_)))) | (refine wEA rfl (fun K hK => ?_); go_simp))))
  go_ret2
  obtain ⟨hR3, hP3, bx3, by3, bz3, hF13, hF1⟩ := H3.out
  obtain ⟨hP6, hF6⟩ := H6.out
  have hF36 : Fr [] w3 w6 := Fr.trans (S := []) (S' := []) (Fr.drew (Fr.trans (S := []) (S' := []) (Fr.drew (Fr.trans (S := []) (S' := []) (Fr.drew Fr.refl) H4.out (by simp))) H5.out (by simp))) hF6 (by simp)
  have hF37 : Fr [p] w3 (((w6.setCell ⟨p, 2, none⟩ (.int .u64 x)).setCell ⟨p, 3, none⟩ (.int .u64 y)).setCell ⟨p, 4, none⟩ (.int .u64 z)) := Fr.setCell (by simp) (Fr.setCell (by simp) (Fr.setCell (by simp) (hF36.mono (by simp))))
  exact ⟨rfl, hR3.fr hF37 (by simp; omega) (by simp; omega), Blk.conv (Blk.set (Blk.set (Blk.set hP6))) rfl, Fr.trans (S := [r, p]) (S' := [p]) (Fr.trans (S := [r, p]) (S' := [r]) hF1 hF13 (by first | (simp; done) | (simp; omega))) hF37 (by first | (simp; done) | (simp; omega))⟩
end Go.Proofs.Wx

namespace Go.Proofs.Wx
open Go Go.RowKit
/-- append of one byte that was just laid to such a row; where the row lies then. -/
theorem appF1o {o : Oper} {a : Act} {K : Act → World → Prop} {Q : Exit → Act → World → Prop} {w : World} (s x : Operand)
    (ho : o.op = .call { callee := .builtin .append, args := #[s, x], argTypes := #[55, 55] })
    (base : Nat) (v : Value) (xs : List UInt8) (y : UInt8) (hs : a.eval s = v) (hown : OwnF base w v xs) (b c : Nat) (hx : a.eval x = .slice (some ⟨b, 0, none⟩) 1 c) (hc : w.cell? ⟨b, 0, none⟩ = some (.int .u8 (y.toNat : Nat)))
    (hl : xs.length < 900000000) (hbase : base ≤ w.heap.size)
    (h : ∀ v' w', OwnF base w' v' (xs ++ [y]) → Fr v.ownBlock.toList w w' → (v'.ownBlock = v.ownBlock ∨ ∃ k, v'.ownBlock = some k ∧ w.heap.size ≤ k) → K (a.put o.dst v') w') : o.wp Tryz.prog a w K Q := by
  obtain ⟨i, hi, hz, hsz, hby⟩ := info_parts u8_info
  have hbs := hown.bs
  have hnews : ∀ j u, (by8 [y])[j]? = some u → w.cell? ((⟨b, 0, none⟩ : Addr).add j) = some u := by
    intro j u hu
    match j, hu with
    | 0, hu => simp [by8] at hu; subst hu; rw [Addr.add_lit]; exact hc
  obtain ⟨g, cap, cur, fr, rfl, hb, hg, hlc, hcm, hcs, ht, hfz⟩ := hown
  have key : ∃ v' w', (Builtin.append_ #[55, 55] o.type #[.slice (some ⟨g, 0, none⟩) xs.length cap, .slice (some ⟨b, 0, none⟩) 1 c]).run Tryz.prog w = .ok v' w' ∧ OwnF base w' v' (xs ++ [y]) ∧ Fr (Value.slice (some ⟨g, 0, none⟩) xs.length cap).ownBlock.toList w w' ∧ (v'.ownBlock = some g ∨ ∃ k, v'.ownBlock = some k ∧ w.heap.size ≤ k) := by
    by_cases hroom : xs.length + 1 ≤ cap
    · have hf := run_firstCells_some (P := Tryz.prog) w i.size 1 ⟨b, 0, none⟩ 1 c (by8 [y]) (by rw [hsz]; simp [by8]) hnews
      have hst := storeCells_fr (P := Tryz.prog) g xs.length 5 fr (by8 [y]) 0 cur w hg (by rw [by8_length]; simp; omega) hfz (by8_one _)
      simp only [Nat.add_zero, by8_length] at hst
      refine ⟨.slice (some ⟨g, 0, none⟩) (xs ++ [y]).length cap, w.setRow g (cur.toList.take xs.length ++ by8 [y] ++ cur.toList.drop (xs.length + [y].length)).toArray, ?_, ⟨g, cap, (cur.toList.take xs.length ++ by8 [y] ++ cur.toList.drop (xs.length + [y].length)).toArray, fr, rfl, hb, setRow_heap w g cur _ _ fr hg, by simp; omega, hcm, ?_, ?_, ?_⟩, Fr.setRow (.inl (by simp [Value.ownBlock])) Fr.refl, .inl rfl⟩
      · rw [hsz] at hf
        simp [Builtin.append_, run_underlying u8_slice, sizeOf, typeInfo, hi, hsz, Builtin.lenOf, hroom, hf, Addr.add_lit, hst]
      · simp [by8_length]; omega
      · rw [List.take_left' (by simp [by8_length]; omega), ht, by8_append]
      · intro k hk
        refine hfz k ?_
        simp [by8_length] at hk
        omega
    · have hr := run_append_grow (P := Tryz.prog) w 55 o.type 5 i (.int .u8 0) u8_slice hi hz ⟨g, 0, none⟩ xs.length cap (by8 xs) (by rw [by8_length, hsz, Nat.mul_one]) (fun j u hu => by
        obtain ⟨g', c', e, _, hB⟩ := hbs
        cases e
        have hj : j < xs.length := by have := (List.getElem?_eq_some_iff.1 hu).1; rwa [by8_length] at this
        rw [by8_at _ _ hj] at hu
        rw [← hu, Addr.add_lit]; exact hB.cell j hj) ⟨b, 0, none⟩ 1 c (by8 [y]) (by rw [hsz]; simp [by8]) hnews (by omega) (by omega) (by rw [hby]; exact growslice_fits (by omega) (by omega))
      refine ⟨_, _, hr, ?_, Fr.alloc (Fr.drew Fr.refl), .inr ⟨_, rfl, by simp⟩⟩
      have hge := grownCap_ge w (xs.length + 1) cap 5
      have hle := grownCap_le_maxLen w (xs.length + 1) cap 5 (by unfold maxLen; omega)
      have := own_fr_new (base := base) (w := w.drew) (xs := xs ++ [y]) (C := grownCap w (xs.length + 1) cap 5) (by exact hbase) (by simpa using hge) hle
        (cur := (by8 xs).toArray ++ (by8 [y]).toArray ++ Builtin.zeroCells (Value.int .u8 0).cells (grownCap w (xs.length + 1) cap 5 - (xs.length + 1)))
        (X := (Builtin.zeroCells (Value.int .u8 0).cells (grownCap w (xs.length + 1) cap 5 - (xs.length + 1))).toList) (by simp [by8_append]) (by
          have hz1 : (Value.int IntKind.u8 0).cells.size = 1 := rfl
          simp only [Array.size_append, List.size_toArray, size_zeroCells, hz1, by8_length, List.length_singleton]
          omega)
      simpa using this
  obtain ⟨v', w', hr, h1, h2, h3⟩ := key
  unfold Oper.wp execOp
  simp only [ho, resolve, invoke, builtin, Sem.run_bind, Sem.run_pure, Result.andThen_ok, List.map_toArray, List.map_cons, List.map_nil, hs, hx, hr]
  exact h v' w' h1 h2 (by simpa [Value.ownBlock] using h3)
/-- copy over the whole of such a row. -/
theorem copyF {o : Oper} {a : Act} {K : Act → World → Prop} {Q : Exit → Act → World → Prop} {w : World} (d s : Operand)
    (ho : o.op = .call { callee := .builtin .copy, args := #[d, s], argTypes := #[55, 55] })
    (base : Nat) (v : Value) (zs xs : List UInt8) (hd : a.eval d = v) (hown : OwnF base w v zs) (b so m sc : Nat) (hss : a.eval s = .slice (some ⟨b, so, none⟩) m sc) (hx : Bs w b so xs) (hm : m = xs.length) (hl : xs.length = zs.length)
    (h : ∀ w', OwnF base w' v xs → Fr v.ownBlock.toList w w' → K (a.put o.dst (goInt m)) w') : o.wp Tryz.prog a w K Q := by
  subst hm
  obtain ⟨i, hi, hz, hsz, hby⟩ := info_parts u8_info
  obtain ⟨g, cap, cur, fr, rfl, hb, hg, hlc, hcm, hcs, ht, hfz⟩ := hown
  have hlo := run_loadCells_list (P := Tryz.prog) w ⟨b, so, none⟩ (by8 xs) (fun j u hu => by
    have hj : j < xs.length := by have := (List.getElem?_eq_some_iff.1 hu).1; rwa [by8_length] at this
    rw [by8_at _ _ hj] at hu
    rw [← hu, Addr.add_lit]; exact hx.cell j hj)
  have hst := storeCells_fr (P := Tryz.prog) g 0 5 fr (by8 xs) 0 cur w hg (by rw [by8_length]; omega) hfz (by8_one _)
  simp only [Nat.add_zero, by8_length, List.take_zero, List.nil_append, Nat.zero_add] at hst
  rw [by8_length] at hlo
  have hr : (Builtin.copy_ #[55, 55] o.type #[.slice (some ⟨g, 0, none⟩) zs.length cap, .slice (some ⟨b, so, none⟩) xs.length sc]).run Tryz.prog w = .ok (goInt xs.length) (w.setRow g (by8 xs ++ cur.toList.drop xs.length).toArray) := by
    have hm : Nat.min xs.length zs.length = xs.length := by rw [hl]; exact Nat.min_self _
    simp [Builtin.copy_, run_underlying u8_slice, Builtin.lenOf, Builtin.firstCells, sizeOf, typeInfo, hi, hsz, hm, hlo, hst]
  unfold Oper.wp execOp
  simp only [ho, resolve, invoke, builtin, Sem.run_bind, Sem.run_pure, Result.andThen_ok, List.map_toArray, List.map_cons, List.map_nil, hd, hss, hr]
  refine h _ ⟨g, cap, (by8 xs ++ cur.toList.drop xs.length).toArray, fr, by rw [hl], hb, setRow_heap w g cur _ _ fr hg, by omega, hcm, by simp [by8_length]; omega, by rw [List.take_left' (by8_length _)], fun k hk => hfz k (by simp [by8_length] at hk; omega)⟩ (Fr.setRow (.inl (by simp [Value.ownBlock])) Fr.refl)
theorem OwnF.form {base : Nat} {w : World} {v : Value} {xs : List UInt8} (h : OwnF base w v xs) : ∃ g c, v = .slice (some ⟨g, 0, none⟩) xs.length c ∧ base ≤ g ∧ g < w.heap.size ∧ xs.length ≤ c := by
  obtain ⟨g, cap, cur, fr, rfl, hb, hg, hlc, _⟩ := h
  exact ⟨g, cap, rfl, hb, (Array.getElem?_eq_some_iff.1 hg).1, hlc⟩
abbrev tMem : TypeId := 122
set_option maxRecDepth 1000000 in
set_option maxHeartbeats 12800000 in
theorem memWriteAt {w : World} {p base b so sc n : Nat} {v : Value} {xs : List UInt8} {at_ : Value} (hP : Blk w p [v, at_] tMem (0, 0)) (hO : OwnF base w v []) (hvp : v.ownBlock ≠ some p) (hbase : base ≤ w.heap.size) (hX : Bs w b so xs) (hn : xs.length = n) (hn5 : n ≤ 512) (hbp : b ≠ p) (hbv : v.ownBlock ≠ some b) :
    Calls Tryz.prog 265 #[.pointer (some ⟨p, 0, none⟩), .slice (some ⟨b, so, none⟩) n sc, .int .i64 0] w fun e w' =>
      e = .returned (.tuple #[.int .i64 n, .nilIface]) ∧ ∃ v', Blk w' p [v', at_] tMem (0, 0) ∧ OwnF base w' v' xs ∧ (v'.ownBlock = v.ownBlock ∨ ∃ k, v'.ownBlock = some k ∧ w.heap.size ≤ k) ∧ Fr (p :: v.ownBlock.toList) w w' := by
  have hpl := hP.lt
  have hbl := hX.lt
  have H := Lib.hid (And.intro hX (And.intro hn (And.intro hbase hbv)))
  have hnz : (n : Int) ≤ 512 := by omega
  clear hX hn hbase hbv
  go_enter Tryz.func265, Tryz.ntmps265
  go_wp2
  go_loopg [] n (fun k wr => ∃ (j : Nat) (v1 : Value), j + k = n ∧ Blk wr p [v1, at_] tMem (0, 0) ∧ OwnF base wr v1 (List.replicate j 0) ∧ (v1.ownBlock = v.ownBlock ∨ ∃ k, v1.ownBlock = some k ∧ w.heap.size ≤ k) ∧ Fr (p :: v.ownBlock.toList) w wr)
  case atStart => exact ⟨0, v, by omega, hP, hO, .inl rfl, Fr.refl⟩
  case round =>
    obtain ⟨j, v1, hjk, hP1, hO1, hv1, hF1⟩ := hrel
    obtain ⟨g1, c1, e1, hg1, hgl1, hc1⟩ := hO1.form
    rw [List.length_replicate] at e1 hc1
    have hv1' : ∀ k, v1.ownBlock = some k → k < w.heap.size → v.ownBlock = some k := fun k hk hl => by
      rcases hv1 with e | ⟨k', e, h⟩
      · rw [← e]; exact hk
      · rw [e] at hk; cases hk; omega
    have hs1 := hF1.size
    have hpc := hP1.cells
    have hpf := hP1.free
    have HV := Lib.hid (And.intro hv1 hv1')
    clear hv1 hv1'
    subst e1
    have H1 := Lib.hid (And.intro hP1 (And.intro hO1 hF1))
    have hpg : p ≠ g1 := fun e => by
      rcases HV.out.1 with h | ⟨k, h, h2⟩
      · exact hvp (by rw [← h, e]; rfl)
      · have h3 : g1 = k := by simpa [Value.ownBlock] using h
        omega
    have hc1z : (j : Int) ≤ (c1 : Int) := by omega
    by_cases hj : j < n
    · have hz : (j : Int) < (n : Int) := by omega
      have HJ := Lib.hid (And.intro hj hjk)
      have hj5 : j < 512 := by omega
      clear hP1 hO1 hF1 hj hjk
      go_wp2_with (first
        | (with_reducible refine list_bi .append (fun K hK => ?_);  refine appF1o _ _ rfl base (.slice (some ⟨g1, 0, none⟩) j c1) (List.replicate j 0) 0 rfl (H1.out.2.1.fr (S := []) (Fr.alloc Fr.refl) (by simp)) wr.heap.size 1 rfl (World.cell?_alloc_new _ _ _ 0) (by simp; omega) (by have := H.out.2.2.1; simp; omega) (fun v6 w6 hO6 hF6 ho6 => ?_); obtain ⟨g6, c6, e6, hg6, hgl6, hc6⟩ := hO6.form; have hP6 := hF6.blk (Blk.alloc H1.out.1) (by simp [Value.ownBlock]; omega); have pc6 := hP6.cells; have pf6 := hP6.free; have H6 := Lib.hid (And.intro hP6 (And.intro hO6 (And.intro hF6 ho6))); clear hP6 hO6 hF6 ho6 hpc hpf; subst e6))
      go_roundg (n - (j + 1))
      case measure => have := HJ.out.1; have := HJ.out.2; omega
      case rel =>
        obtain ⟨hP1, hO1, hF1⟩ := H1.out
        obtain ⟨hP6, hO6, hF6, ho6⟩ := H6.out
        have e7 : (List.replicate j (0 : UInt8) ++ [0]).length = j + 1 := by simp
        rw [e7] at hO6 ho6
        obtain ⟨hv1, hv1'⟩ := HV.out
        have hFS : Fr [p] w6 (w6.setCell ⟨p, 0, none⟩ (.slice (some ⟨g6, 0, none⟩) (j + 1) c6)) := Fr.setCell (by simp) Fr.refl
        refine ⟨j + 1, _, by have := HJ.out.1; omega, Blk.conv hP6.set rfl, by rw [List.replicate_succ']; exact hO6.fr hFS (by
          simp
          refine .inr ?_
          simp only [Value.ownBlock]
          intro e; cases e
          rcases ho6 with h | ⟨k, h, h2⟩
          · have h3 : p = g1 := by simpa [Value.ownBlock] using h
            exact hpg h3
          · have h3 : p = k := by simpa [Value.ownBlock] using h
            simp at h2; omega), ?_, ?_⟩
        · rcases ho6 with e | ⟨k, e, h⟩
          · rcases hv1 with e1 | ⟨k, e1, h1⟩
            · exact .inl (e.trans e1)
            · exact .inr ⟨k, e.trans e1, h1⟩
          · exact .inr ⟨k, e, by simp at h; omega⟩
        · refine ((hF1.trans (Fr.alloc Fr.refl : Fr [] _ _) (by simp)).trans hF6 (fun k hk hl => ?_)).trans hFS (by simp)
          have := hv1' k (by simpa using hk) hl
          simp [this]
    · have hz : ¬ (j : Int) < (n : Int) := by omega
      have hjn : j = n := by omega
      subst hjn
      clear hP1 hO1 hF1 hj hjk
      go_wp2_with (first
        | (with_reducible refine list_bi .copy (fun K hK => ?_);  refine copyF _ _ rfl base (.slice (some ⟨g1, 0, none⟩) j c1) (List.replicate j 0) xs rfl H1.out.2.1 b so j sc rfl (H.out.1.fr H1.out.2.2 (by simp; exact ⟨hbp, H.out.2.2.2⟩)) H.out.2.1.symm (by rw [H.out.2.1]; simp) (fun w6 hO6 hF6 => ?_); have H6 := Lib.hid (And.intro hO6 hF6); clear hO6 hF6))
      go_ret2
      obtain ⟨hP1, hO1, hF1⟩ := H1.out
      obtain ⟨hO6, hF6⟩ := H6.out
      obtain ⟨hv1, hv1'⟩ := HV.out
      refine ⟨rfl, _, hF6.blk hP1 (by simp [Value.ownBlock]; omega), hO6, hv1, hF1.trans hF6 (fun k hk hl => ?_)⟩
      have := hv1' k (by simpa using hk) hl
      simp [this]
end Go.Proofs.Wx

namespace Go
section
variable {P : Program} {ops : Array Oper} {Q : Exit → Act → World → Prop}
theorem op_alloc (T : TypeId) {ds : Option Tmp} {ty : TypeId} {po : String} {af : Array Edge} {a : Act} {w : World} {K : Act → World → Prop} (h : Oper.wp P { dst := ds, op := .alloc T, type := ty, pos := po, after := af, guard := none } a w K Q) : Oper.wp P { dst := ds, op := .alloc T, type := ty, pos := po, after := af, guard := none } a w K Q := h
theorem list_alloc (T : TypeId) {ds : Option Tmp} {ty : TypeId} {po : String} {af : Array Edge} {rest : List Oper} {a : Act} {w : World} (h : ∀ K : Act → World → Prop, (∀ a w, wpList P ops Q rest a w → K a w) → Oper.wp P { dst := ds, op := .alloc T, type := ty, pos := po, after := af, guard := none } a w K Q) : wpList P ops Q ({ dst := ds, op := .alloc T, type := ty, pos := po, after := af, guard := none } :: rest) a w := wpList_plain rfl h
end
end Go
namespace Go.Proofs.Wx
open Go Go.RowKit
abbrev oZzC0 : List (Nat × Cls) := [(0,.free),(1,.free),(2,.free),(3,.free),(4,.free),(5,.free),(6,.free),(7,.act),(8,.free),(9,.free),(10,.free),(11,.free),(12,.free)]
abbrev oZzC1 : List (Nat × Cls) := [(0,.free),(1,.free),(2,.free),(3,.look),(4,.free),(5,.free)]
theorem alloc512 (w : World) : (Instr.alloc 164 true (.tuple #[])).run Tryz.prog w = .ok (.pointer (some ⟨w.heap.size, 0, none⟩)) (w.alloc (.cells (List.replicate 512 (Value.int .u8 0)).toArray 164 (0, 0))) := by kernel_rfl
theorem alloc512K {o : Oper} {a : Act} {K : Act → World → Prop} {Q : Exit → Act → World → Prop} {w : World} (ho : o.op = .alloc 164) (T : Nat) (hT : T = w.heap.size)
    (h : ∀ w', Blk w' T (List.replicate 512 (Value.int .u8 0)) 164 (0, 0) → Fr [] w w' → K (a.put o.dst (.pointer (some ⟨T, 0, none⟩))) w') : o.wp Tryz.prog a w K Q := by
  subst hT
  have hr := alloc512 w
  unfold Oper.wp execOp
  simp only [ho, Sem.run_bind, Sem.run_pure, Result.andThen_ok, hr, Oper.upon_value]
  exact h _ Blk.new (Fr.alloc Fr.refl)
theorem take_self (n : Nat) (L : List UInt8) : L.take n = L.take (L.take n).length := by
  rw [List.length_take]
  by_cases h : n ≤ L.length
  · rw [Nat.min_eq_left h]
  · rw [Nat.min_eq_right (by omega), List.take_length, List.take_of_length_le (by omega)]
def cpRel (w : World) (r sb p base b : Nat) (v : Value) (xs ys : List UInt8) (k : Nat) (s10 : Value) (wr : World) : Prop :=
  ∃ i v1 cs, s10 = .int .i64 (i : Nat) ∧ i + k = xs.length ∧ Rdr wr r sb xs i ∧ Blk wr b cs 164 (0, 0) ∧ cs.length = 512 ∧ Buf wr p base v1 (ys ++ xs.take i) ∧
    (v1.ownBlock = v.ownBlock ∨ ∃ k, v1.ownBlock = some k ∧ w.heap.size ≤ k ∧ k ≠ b) ∧ Fr (p :: r :: v.ownBlock.toList) w wr
set_option maxRecDepth 1000000 in
set_option maxHeartbeats 12800000 in
theorem zzCopy {ea : Addr} {w : World} {r sb p base : Nat} {v : Value} {xs ys : List UInt8} (hR : Rdr w r sb xs 0) (hBuf : Buf w p base v ys) (hG : Gl ea w) (hy : ys ≠ []) (hlen : ys.length + xs.length < 10000000000) (hbase : base ≤ w.heap.size)
    (hrp : r ≠ p) (hsp : sb ≠ p) (hvr : v.ownBlock ≠ some r) (hvs : v.ownBlock ≠ some sb) (hp : 26 ≤ p) :
    Calls Tryz.prog 41 #[BUFI p, .iface 63 (.pointer (some ⟨r, 0, none⟩)), .int .i64 (-1)] w fun e w' => e = .returned (.tuple #[.int .i64 xs.length, .nilIface]) ∧
      ∃ v', Buf w' p base v' (ys ++ xs) ∧ (v'.ownBlock = v.ownBlock ∨ ∃ k, v'.ownBlock = some k ∧ w.heap.size ≤ k) ∧ Fr (p :: r :: v.ownBlock.toList) w w' := by
  have hRl := hR.lt
  have hpl := hBuf.lt
  have hol := hBuf.ownLt
  obtain ⟨b, hb⟩ : ∃ b, b = w.heap.size := ⟨_, rfl⟩
  have hbr : b ≠ r := by omega
  have hbs : b ≠ sb := by omega
  have hbp : b ≠ p := by omega
  have hbv : v.ownBlock ≠ some b := fun e => by have := hol _ e; omega
  have HB := Lib.hid hb
  have L := Lib.hid (And.intro hlen hbase)
  have hgs := hG.size
  clear hb hlen hbase
  go_enter Tryz.func41, Tryz.ntmps41
  go_wp2_with (first
    | ((with_reducible refine list_alloc 164 (fun K hK => ?_));  refine alloc512K rfl b HB.out (fun w1 hb1 hF1 => ?_))
    | (refine wre 10 oZzC0 ?_)
    | (refine wre 14 oZzC1 ?_)
    | (with_reducible refine wEI ?_; (first | (refine wEN ?_; skip) | (refine wEF rfl (fun K hK => ?_); go_simp) | (refine wEL rfl rfl (fun K hK => ?_); go_simp) | (refine wER rfl (fun K hK => ?_); go_simp) | (refine wEM rfl (fun K hK => ?_); go_simp; try refine ⟨_, _, ⟨rfl, rfl⟩, ?_⟩) | (refine wEG rfl (fun K hK => ?_); go_simp) | (refine wpE_actp rfl rfl (fun K hK => ?_); simp only [List.getElem_toArray, List.getElem_cons_succ, List.getElem_cons_zero]; (first | ((with_reducible refine op_alloc 164 ?_);  refine alloc512K rfl b HB.out (fun w1 hb1 hF1 => ?_)))) | (refine wEA rfl (fun K hK => ?_); go_simp))))
  go_loopg [10] xs.length (fun k s10 wr => cpRel w r sb p base b v xs ys k s10 wr)
  case atStart =>
    refine ⟨0, v, _, rfl, by omega, hR.fr hF1 (by simp) (by simp), hb1, by simp, ?_, .inl rfl, hF1.mono (by simp)⟩
    simpa using hBuf.fr hF1 (by simp) (by simp)
  case round =>
    obtain ⟨i, v1, cs, rfl, hk, hRr, hBb, hcl, hBf, hov, hFr⟩ := hrel
    clear hR hBuf hb1 hF1
    have hn1 : v1.ownBlock ≠ some b ∧ v1.ownBlock ≠ some r ∧ v1.ownBlock ≠ some sb := by
      rcases hov with e | ⟨k, e, h1, h2⟩
      · rw [e]; exact ⟨hbv, hvr, hvs⟩
      · rw [e]; refine ⟨fun e => ?_, fun e => ?_, fun e => ?_⟩ <;> (cases e; omega)
    have hGr := hG.fr hFr (by
      intro k hk
      rcases List.mem_cons.1 hk with rfl | hk
      · exact hp
      · rcases List.mem_cons.1 hk with rfl | hk
        · exact hRr.ge
        · have := hol k (by simpa using hk); omega)
    have hbl := hBb.lt
    have hyx : ys ++ xs.take i ≠ [] := by simp [hy]
    by_cases hi : i < xs.length
    · obtain ⟨part, hpart⟩ : ∃ part, part = (xs.drop i).take 512 := ⟨_, rfl⟩
      have hrd := read_more hRr hi b 0 512 512 cs _ hBb (by omega) (by omega) hbr hbs
      rw [← hpart] at hrd
      have hpn : part.length = min 512 (xs.length - i) := by rw [hpart]; simp
      have hpo : 0 < part.length := by omega
      have hpz : (0 : Int) < (part.length : Int) := by omega
      have hp5 : (part.length : Int) ≤ 512 := by omega
      have hip : i + part.length ≤ xs.length := by omega
      have htk : (ys ++ xs.take i) ++ part = ys ++ xs.take (i + part.length) := by
        rw [List.append_assoc, List.take_add]
        congr 2
        rw [hpart]; exact take_self _ _
      have hge1 : ∀ k ∈ [r, b], 26 ≤ k := by simp; exact ⟨hRr.ge, by have := HB.out; omega⟩
      have hge2 : ∀ k ∈ p :: v1.ownBlock.toList, 26 ≤ k := by
        intro k hk
        rcases List.mem_cons.1 hk with rfl | hk
        · exact hp
        · have := hBf.ownLt k (by simpa using hk); omega
      have HT := Lib.hid (And.intro htk (And.intro hpn (And.intro hcl hk)))
      clear htk hpn hpart hcl hk
      go_wp2_with (first
        | go_at_call 243; refine hrd.mono ?_; rintro e w2' ⟨rfl, hR2', hb2', hF2'⟩; obtain ⟨w2, hw2⟩ : ∃ w2, w2 = w2'.drew := ⟨_, rfl⟩; have hR2 : Rdr w2 r sb xs (i + part.length) := hw2 ▸ hR2'.fr (S := []) (Fr.drew Fr.refl) (by simp) (by simp); have hb2 : Blk w2 b (lay cs 0 part) 164 (0, 0) := hw2 ▸ Blk.drew hb2'; have hF2 : Fr [r, b] wr w2 := hw2 ▸ Fr.drew hF2'; have HW2 := Lib.hid hw2; clear hw2 hR2' hb2' hF2'; have hB2 := hBf.fr hF2 (by simp; exact ⟨fun e => hrp e.symm, fun e => hbp e.symm⟩) (by simp; exact ⟨.inr hn1.2.1, .inr hn1.1⟩); have hs2 : Bs w2 b 0 part := Blk.bs (pre := []) (post := cs.drop (0 + part.length)) hb2 (by simp [lay]) rfl; clear hrd
        | go_at_call 251; rw [← HW2.out]; refine (bufWn (n := part.length) hB2 hs2 rfl hpo hbp hn1.1 (fun e => absurd e hyx) (by have := L.out; have := HT.out; simp; omega) (by have := L.out; have := hFr.size; have := hF2.size; omega)).mono ?_; rintro e w3 ⟨rfl, v3, hW3⟩; have he3 := ((hGr.fr hF2 hge1).fr hW3.fr hge2).eof
        | (refine wre 10 oZzC0 ?_)
        | (refine wre 14 oZzC1 ?_)
        | (with_reducible refine wEI ?_; (first | (refine wEN ?_; skip) | (refine wEF rfl (fun K hK => ?_); go_simp) | (refine wEL rfl rfl (fun K hK => ?_); go_simp) | (refine wER rfl (fun K hK => ?_); go_simp) | (refine wEM rfl (fun K hK => ?_); go_simp; try refine ⟨_, _, ⟨rfl, rfl⟩, ?_⟩) | (refine wEG rfl (fun K hK => ?_); go_simp) | (refine wEA rfl (fun K hK => ?_); go_simp))))
      go_roundg (xs.length - (i + part.length))
      case measure => have := HT.out; omega
      case rel =>
        obtain ⟨htk, hpn, hcl, hk⟩ := HT.out
        have hb2l := hb2.lt
        refine ⟨i + part.length, v3, lay cs 0 part, by rw [wrap64_in (by omega) (by have := L.out; omega)]; simp, by omega, hR2.fr hW3.fr (by simp; exact ⟨hrp, hn1.2.1⟩) (by simp; exact ⟨hsp, hn1.2.2⟩), hW3.fr.blk hb2 (by simp; exact ⟨hbp, hn1.1⟩), by rw [lay_length (by omega)]; exact hcl, by rw [← htk]; exact hW3.buf, ?_, ?_⟩
        · rcases hW3.own with e | ⟨k, e, h⟩
          · rcases hov with e1 | ⟨k, e1, h1, h2⟩
            · exact .inl (e.trans e1)
            · exact .inr ⟨k, e.trans e1, h1, h2⟩
          · exact .inr ⟨k, e, by have := hFr.size; have := hF2.size; omega, by omega⟩
        · refine (hFr.trans hF2 ?_).trans hW3.fr ?_
          · intro k hk hl
            simp at hk
            rcases hk with rfl | rfl
            · simp
            · have := HB.out; omega
          · intro k hk hl
            simp at hk
            rcases hk with rfl | hk
            · simp
            · rcases hov with e1 | ⟨k', e1, h1, h2⟩
              · rw [e1] at hk; simp [hk]
              · rw [e1] at hk; cases hk; omega
    · have hre := read_eof hRr (by omega) hGr (.slice (some ⟨b, 0, none⟩) 512 512)
      have hxi : i = xs.length := by omega
      go_wp2_with (first
        | go_at_call 243; refine hre.mono ?_; rintro e w2 ⟨rfl, hR2, hF2⟩; have he2 := (hGr.fr hF2 (by simp)).eof; clear hre
        | (refine wre 10 oZzC0 ?_)
        | (refine wre 14 oZzC1 ?_)
        | (with_reducible refine wEI ?_; (first | (refine wEN ?_; skip) | (refine wEF rfl (fun K hK => ?_); go_simp) | (refine wEL rfl rfl (fun K hK => ?_); go_simp) | (refine wER rfl (fun K hK => ?_); go_simp) | (refine wEM rfl (fun K hK => ?_); go_simp; try refine ⟨_, _, ⟨rfl, rfl⟩, ?_⟩) | (refine wEG rfl (fun K hK => ?_); go_simp) | (refine wEA rfl (fun K hK => ?_); go_simp))))
      go_ret2
      refine ⟨by show Ending.returned (.tuple #[.int .i64 (RowKit.wrap64 (xs.length : Int)), .nilIface]) = _; rw [wrap64_in (by omega) (by have := L.out; omega)], v1, ?_, ?_, hFr.trans hF2 (by simp)⟩
      · have := hBf.fr hF2 (by simp) (by simp)
        rwa [hxi, List.take_length] at this
      · exact hov.imp id fun ⟨k, e, h1, _⟩ => ⟨k, e, h1⟩
end Go.Proofs.Wx

namespace Go.Proofs.Wx
open Go Go.RowKit
set_option maxRecDepth 1000000 in
set_option maxHeartbeats 12800000 in
theorem memWrite {w : World} {p base b so sc n : Nat} {v : Value} {xs : List UInt8} (hP : Blk w p [v, .int .i64 0] tMem (0, 0)) (hO : OwnF base w v []) (hvp : v.ownBlock ≠ some p) (hbase : base ≤ w.heap.size) (hX : Bs w b so xs) (hn : xs.length = n) (hn5 : n ≤ 512) (hbp : b ≠ p) (hbv : v.ownBlock ≠ some b) :
    Calls Tryz.prog 263 #[.pointer (some ⟨p, 0, none⟩), .slice (some ⟨b, so, none⟩) n sc] w fun e w' =>
      e = .returned (.tuple #[.int .i64 n, .nilIface]) ∧ ∃ v', Blk w' p [v', .int .i64 n] tMem (0, 0) ∧ OwnF base w' v' xs ∧ (v'.ownBlock = v.ownBlock ∨ ∃ k, v'.ownBlock = some k ∧ w.heap.size ≤ k) ∧ Fr (p :: v.ownBlock.toList) w w' := by
  have hc := memWriteAt (sc := sc) hP hO hvp hbase hX hn hn5 hbp hbv
  have hpc := hP.cells
  have hnz : (n : Int) ≤ 512 := by omega
  go_enter Tryz.func263, Tryz.ntmps263
  go_wp2_with (first
    | go_at_call 265; refine hc.mono ?_; rintro e w1 ⟨rfl, v1, hP1, hO1, ho1, hF1⟩; clear hpc; have pc1 := hP1.cells; have pf1 := hP1.free)
  go_ret2
  refine ⟨rfl, v1, Blk.conv hP1.set rfl, hO1.fr (S := [p]) (Fr.setCell (by simp) Fr.refl) (by
    simp
    refine .inr ?_
    rcases ho1 with h | ⟨k, h, h2⟩
    · rw [h]; exact hvp
    · rw [h]; intro e; cases e; have := hP.lt; omega), ho1, Fr.setCell (by simp) hF1⟩
theorem memSize {w : World} {p n : Nat} {v at_ : Value} {g c : Nat} (hP : Blk w p [v, at_] tMem (0, 0)) (hv : v = .slice (some ⟨g, 0, none⟩) n c) :
    Calls Tryz.prog 261 #[.pointer (some ⟨p, 0, none⟩)] w fun e w' => e = .returned (.int .i64 n) ∧ Fr [] w w' := by
  subst hv
  have hpc := hP.cells
  go_enter Tryz.func261, Tryz.ntmps261
  go_wp2
  go_ret
  exact ⟨rfl, Fr.refl⟩
@[go_sem] theorem ahead_mem_Write (a : Addr) (w : World) : (nilAhead 560 120 (.pointer (some a)) "Write").run Tryz.prog w = .ok (some false) w := by kernel_rfl
@[go_sem] theorem meth_mem_Write (a : Addr) (w : World) : (method 560 120 (.pointer (some a)) "Write").run Tryz.prog w = .ok (263, .pointer (some a)) w := by kernel_rfl
@[go_sem] theorem ahead_mem_Size (a : Addr) (w : World) : (nilAhead 560 120 (.pointer (some a)) "Size").run Tryz.prog w = .ok (some false) w := by kernel_rfl
@[go_sem] theorem meth_mem_Size (a : Addr) (w : World) : (method 560 120 (.pointer (some a)) "Size").run Tryz.prog w = .ok (261, .pointer (some a)) w := by kernel_rfl
abbrev MEMI (p : Nat) : Value := .iface 120 (.pointer (some ⟨p, 0, none⟩))
set_option maxRecDepth 1000000 in
set_option maxHeartbeats 12800000 in
theorem zzCopyN {w : World} {r sb p base n i : Nat} {v : Value} {xs : List UInt8} (hR : Rdr w r sb xs i) (hP : Blk w p [v, .int .i64 0] tMem (0, 0)) (hO : OwnF base w v []) (hvp : v.ownBlock ≠ some p) (hbase : base ≤ w.heap.size) (h0 : 0 < n) (hn : n < 512) (hi : i + n ≤ xs.length)
    (hrp : r ≠ p) (hsp : sb ≠ p) (hvr : v.ownBlock ≠ some r) (hvs : v.ownBlock ≠ some sb) :
    Calls Tryz.prog 41 #[MEMI p, .iface 63 (.pointer (some ⟨r, 0, none⟩)), .int .i64 n] w fun e w' => e = .returned (.tuple #[.int .i64 n, .nilIface]) ∧
      ∃ v', Blk w' p [v', .int .i64 n] tMem (0, 0) ∧ OwnF base w' v' ((xs.drop i).take n) ∧ Fr (p :: r :: v.ownBlock.toList) w w' := by
  have hRl := hR.lt
  have hpl := hP.lt
  obtain ⟨gv, cv, ev, hgv, hgl, _⟩ := hO.form
  have hvo : v.ownBlock = some gv := by rw [ev]; rfl
  obtain ⟨b, hb⟩ : ∃ b, b = w.heap.size := ⟨_, rfl⟩
  have hbr : b ≠ r := by omega
  have hbs : b ≠ sb := by omega
  have hbp : b ≠ p := by omega
  have hbv : v.ownBlock ≠ some b := fun e => by rw [hvo] at e; cases e; omega
  obtain ⟨part, hpart⟩ : ∃ part, Hid (part = (xs.drop i).take n) := ⟨_, rfl⟩
  have hpl2 : Hid (part.length = n) := by show _ = _; rw [hpart.out]; simp; omega
  have HB := Lib.hid hb
  have H := Lib.hid (And.intro hR (And.intro hP (And.intro hO (And.intro hbase (And.intro hi (And.intro hvr hvs))))))
  have hnz : (n : Int) < 512 := by omega
  have h0z : (0 : Int) < (n : Int) := by omega
  have hnn : ¬ (n : Int) < 0 := by omega
  clear hb hbase hR hP hO hi hvr hvs ev hvo
  go_enter Tryz.func41, Tryz.ntmps41
  go_wp2_with (first
    | ((with_reducible refine list_alloc 164 (fun K hK => ?_));  refine alloc512K rfl b HB.out (fun w1 hb1 hF1 => ?_))
    | (with_reducible refine wp_loop_rounds 1 ?_; rw [rounds_succ])
    | go_at_call 243; refine (read_more (H.out.1.fr hF1 (by simp) (by simp)) (by have := H.out.2.2.2.2.1; omega) b 0 n 512 _ _ hb1 (by simp; omega) (by omega) hbr hbs).mono ?_; rw [← hpart.out, hpl2.out]; rintro e w2 ⟨rfl, hR2, hb2, hF2⟩
    | go_at_call 263; have hF12 : Fr [r, b] w w2 := Fr.trans (S := [r, b]) (S' := [r, b]) (hF1.mono (by simp)) hF2 (by simp); have hF12d : Fr [r, b] w w2.drew := Fr.drew hF12; have hs2 : Bs w2.drew b 0 part := Bs.drew (Blk.bs (pre := []) (post := (List.replicate 512 (Value.int .u8 0)).drop (0 + part.length)) hb2 (by simp [lay]) rfl); refine (memWrite (sc := 512) (hF12d.blk H.out.2.1 (by simp; exact ⟨Ne.symm hrp, Ne.symm hbp⟩)) (H.out.2.2.1.fr hF12d (by simp; exact ⟨.inr H.out.2.2.2.2.2.1, .inr hbv⟩)) hvp (Nat.le_trans H.out.2.2.2.1 hF12d.size) hs2 hpl2.out (by omega) hbp hbv).mono ?_; rintro e w3 ⟨rfl, v3, hP3, hO3, ho3, hF3⟩
    | (refine wre 10 [(0,.free),(1,.free),(2,.free),(3,.free),(4,.free),(5,.free),(6,.free),(7,.act),(8,.free),(9,.free),(10,.free),(11,.free),(12,.free)] ?_)
    | (refine wre 14 [(0,.free),(1,.free),(2,.free),(3,.look),(4,.free),(5,.free)] ?_)
    | (with_reducible refine wEI ?_; (first | (refine wEN ?_; skip) | (refine wEF rfl (fun K hK => ?_); go_simp) | (refine wEL rfl rfl (fun K hK => ?_); go_simp) | (refine wER rfl (fun K hK => ?_); go_simp) | (refine wEM rfl (fun K hK => ?_); go_simp; try refine ⟨_, _, ⟨rfl, rfl⟩, ?_⟩) | (refine wpE_growp rfl rfl (fun K hK => ?_); simp only [List.getElem_toArray, List.getElem_cons_succ, List.getElem_cons_zero]; (first | ((with_reducible refine op_alloc 164 ?_);  refine alloc512K rfl b HB.out (fun w1 hb1 hF1 => ?_)))) | (refine wEG rfl (fun K hK => ?_); go_simp) | (refine wpE_actp rfl rfl (fun K hK => ?_); simp only [List.getElem_toArray, List.getElem_cons_succ, List.getElem_cons_zero]; (first | ((with_reducible refine op_alloc 164 ?_);  refine alloc512K rfl b HB.out (fun w1 hb1 hF1 => ?_)))) | (refine wEA rfl (fun K hK => ?_); go_simp))))
  go_ret2
  obtain ⟨hR, hP, hO, hbase, hi, hvr, hvs⟩ := H.out
  refine ⟨rfl, v3, hP3, by rw [← hpart.out]; exact hO3, Fr.trans (S := p :: r :: v.ownBlock.toList) (S' := p :: v.ownBlock.toList) (Fr.trans (S := p :: r :: v.ownBlock.toList) (S' := [r, b]) Fr.refl hF12d (fun k hk hl => ?_)) hF3 (fun k hk _ => ?_)⟩
  · simp at hk
    rcases hk with rfl | rfl
    · simp
    · have := HB.out; omega
  · rcases List.mem_cons.1 hk with rfl | h
    · simp
    · exact List.mem_cons_of_mem _ (List.mem_cons_of_mem _ h)
end Go.Proofs.Wx
