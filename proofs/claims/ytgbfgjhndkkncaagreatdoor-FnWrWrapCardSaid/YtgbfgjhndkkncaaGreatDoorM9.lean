import Derived.Test.YtgbfgjhndkkncaaGreatDoorM4
import Derived.Lib.AppendZerosOnto
set_option maxRecDepth 100000
set_option maxHeartbeats 1000000
set_option linter.unusedVariables false
set_option linter.unusedSimpArgs false
namespace Go.Proofs.Wx
open Go Go.RowKit
abbrev oCfr0 : List (Nat × Cls) := [(0,.look),(1,.free),(2,.free),(3,.act),(4,.free)]
abbrev oCfr1 : List (Nat × Cls) := [(0,.free),(1,.free),(2,.free),(3,.look),(4,.free),(5,.look),(6,.free),(7,.free),(8,.free),(9,.free),(10,.act),(11,.free)]
abbrev oCfr2 : List (Nat × Cls) := [(0,.free),(1,.free),(2,.free),(3,.look),(4,.free),(5,.free),(6,.free),(7,.look),(8,.free),(9,.free),(10,.free),(11,.free),(12,.act),(13,.free)]
abbrev oCfr3 : List (Nat × Cls) := [(0,.free),(1,.free),(2,.free),(3,.look),(4,.free),(5,.free),(6,.read),(7,.free),(8,.free),(9,.act),(10,.free)]
abbrev oCfr4 : List (Nat × Cls) := [(0,.free),(1,.free),(2,.free),(3,.free),(4,.look),(5,.free),(6,.free),(7,.free),(8,.free),(9,.look),(10,.free),(11,.free),(12,.act),(13,.free),(14,.free),(15,.act)]
abbrev oCfr5 : List (Nat × Cls) := [(0,.free),(1,.free),(2,.free),(3,.look),(4,.free),(5,.free),(6,.free),(7,.free),(8,.act),(9,.free)]
abbrev oCfr6 : List (Nat × Cls) := [(0,.free),(1,.free),(2,.free),(3,.look),(4,.free),(5,.free),(6,.free),(7,.free),(8,.look),(9,.read),(10,.free),(11,.free),(12,.act),(13,.free)]
theorem bbrSrc (q d r sb : Nat) (xs : List UInt8) (i0 : Nat) : BSrc 215 ⟨q, 0, none⟩ [q, d, r] (xs.take (i0 + 64)) (fun w i => Bbr w q d r sb xs i0 i) 347 :=
  ⟨fun _ => ahead_cid_bufByteReader_ReadByte _ _, fun _ => meth_cid_bufByteReader_ReadByte _ _, fun _ => by kernel_rfl, fun w i h hi => by
    have h1 : i < xs.length := by simp at h; omega
    have h2 : i < i0 + 64 := by simp at h; omega
    rw [List.getElem_take]
    exact bbrReadByte hi h1 h2⟩
theorem take_uv {xs rest : List UInt8} {i0 j n : Nat} (h : xs.drop j = Lib.uvarint n ++ rest) (hl : (Lib.uvarint n).length + j ≤ i0 + 64) :
    (xs.take (i0 + 64)).drop j = Lib.uvarint n ++ rest.take (i0 + 64 - j - (Lib.uvarint n).length) := by
  rw [List.drop_take, h, List.take_append, List.take_of_length_le (by omega)]
theorem toBufByteReader {w : World} (r d : Nat) :
    Calls Tryz.prog 107 #[.iface 63 (.pointer (some ⟨r, 0, none⟩)), .slice (some ⟨d, 0, none⟩) 0 64] w fun e w' => e = .returned (.pointer (some ⟨w.heap.size, 0, none⟩)) ∧
      Blk w' w.heap.size [.iface 63 (.pointer (some ⟨r, 0, none⟩)), .nilIface, .slice (some ⟨d, 0, none⟩) 0 64] 218 (0, 0) ∧ Fr [] w w' := by
  go_enter Tryz.func107, Tryz.ntmps107
  go_wp2
  go_ret
  exact ⟨rfl, Blk.new (cs := [_, _, _]), by exact frP⟩
/-- append(b, make([]byte, k)...) beyond the capacity. -/
theorem appZeros {o : Oper} {a : Act} {K : Act → World → Prop} {Q : Exit → Act → World → Prop} {w : World} (s x : Operand)
    (ho : o.op = .call { callee := .builtin .append, args := #[s, x], argTypes := #[55, 3] })
    (g n cap : Nat) (hs : a.eval s = .slice (some ⟨g, 0, none⟩) n cap) (xs : List UInt8) (hB : Bs w g 0 xs) (hn : xs.length = n)
    (k : Nat) (kz : Int) (hx : a.eval x = .int .i64 kz) (hkz : kz = (k : Int)) (hk : cap < n + k) (hcap : n ≤ cap) (hb : n + k ≤ 1000000)
    (h : ∀ w' C, n + k ≤ C → C ≤ 9223372036854775807 → Blk w' w.heap.size (by8 xs ++ List.replicate (C - n) (.int .u8 0)) 5 (0, 0) → Fr [] w w' → K (a.put o.dst (.slice (some ⟨w.heap.size, 0, none⟩) (n + k) C)) w') : o.wp Tryz.prog a w K Q := by
  subst hkz
  obtain ⟨i, hi, hz, hsz, hby⟩ := info_parts u8_info
  have hol : (Builtin.firstCells i.size n (.slice (some ⟨g, 0, none⟩) n cap)).run Tryz.prog w.drew = .ok (by8 xs).toArray w.drew :=
    run_firstCells_some (P := Tryz.prog) w.drew i.size n _ n cap (by8 xs) (by rw [by8_length, hsz, hn, Nat.mul_one]) (fun j v hv => by
      have hj : j < xs.length := by have := (List.getElem?_eq_some_iff.1 hv).1; rwa [by8_length] at this
      rw [by8_at _ _ hj] at hv
      rw [← hv, Addr.add_lit]; exact hB.cell j hj)
  have hr := Lib.run_append_grow_zeros (P := Tryz.prog) w 55 3 o.type 5 i (.int .u8 0) .i64 .i64 u8_slice (by kernel_rfl) hi hz (some ⟨g, 0, none⟩) n cap (by8 xs) hol k (by omega) (by omega) hk (by omega) (by rw [hby]; omega)
    (growslice_fits hk (by rw [hby]; omega))
  have hge := grownCap_ge w (n + k) cap 5
  have hle := grownCap_le_maxLen w (n + k) cap 5 (by unfold maxLen; omega)
  generalize grownCap w (n + k) cap 5 = C at *
  refine Lib.wp_append_run w s x _ _ ho _ _ hs hx _ _ hr (h _ C hge (by unfold maxLen at hle; omega) ?_ ?_)
  · have e : (by8 xs).toArray ++ Builtin.zeroCells (Value.int .u8 0).cells k ++ Builtin.zeroCells (Value.int .u8 0).cells (C - (n + k)) = (by8 xs ++ List.replicate (C - n) (Value.int .u8 0)).toArray := by
      apply Array.ext'
      have hz : ∀ m, (Builtin.zeroCells (Value.int .u8 0).cells m).toList = List.replicate m (Value.int .u8 0) := fun m => by
        show (madeCells #[Value.int .u8 0] (m * 1)).toList = _
        rw [Nat.mul_one]; exact toList_madeCells_one _ _
      rw [Array.toList_append, Array.toList_append, hz, hz]
      show by8 xs ++ _ ++ _ = by8 xs ++ _
      rw [List.append_assoc, List.replicate_append_replicate, show k + (C - (n + k)) = C - n by omega]
    rw [e]
    exact Blk.new
  · exact (Fr.alloc (Fr.drew Fr.refl))
theorem buf64_len {ys : List UInt8} (h : ys.length ≤ 64) : (buf64 ys).length = 64 := by simp [buf64, by8_length]; omega
theorem buf64_lay {ys zs : List UInt8} (h : ys.length + zs.length ≤ 64) : lay (buf64 ys) ys.length zs = buf64 (ys ++ zs) := by
  simp only [lay, buf64, by8_append]
  rw [List.take_append_of_le_length (by rw [by8_length]; omega), List.take_of_length_le (by rw [by8_length]; omega), List.drop_append, List.drop_eq_nil_of_le (by rw [by8_length]; omega), by8_length, List.drop_replicate, List.append_assoc, List.nil_append, List.append_assoc]
  congr 3; simp; omega
theorem buf64_bs {w : World} {d : Nat} {xs : List UInt8} {T : TypeId} {fr : Nat × Nat} (h : Blk w d (buf64 xs) T fr) : Bs w d 0 xs := Blk.bs (pre := []) h rfl rfl
theorem cidFromReader1 {w : World} {r sb : Nat} {xs : List UInt8} {i : Nat} {c : CidM} {rest : List UInt8} (h : Rdr w r sb xs i) (hx : xs.drop i = c.bytes ++ rest) (h0 : c.v = 1) (hok : c.Ok) :
    Calls Tryz.prog 71 #[.iface 63 (.pointer (some ⟨r, 0, none⟩))] w fun e w' => e = .returned (.tuple #[.int .i64 c.bytes.length, cidV c, .nilIface]) ∧ Rdr w' r sb xs (i + c.bytes.length) ∧ Fr [r] w w' := by
  have hlt := h.lt
  go_enter Tryz.func71, Tryz.ntmps71
  go_wp2_with (first
    | (with_reducible refine list_makeSlice (fun K hK => ?_);  refine makeB _ _ rfl _ _ _ _ 0 64 rfl rfl rfl rfl (by omega) (by omega) ?_)
    | go_at_call 107; refine (toBufByteReader r _).mono ?_; rintro e w1 ⟨rfl, hQ1, hF1⟩
    | (refine wre 5 oCfr0 ?_)
    | (refine wre 6 oCfr1 ?_)
    | (refine wre 10 oCfr2 ?_)
    | (refine wre 14 oCfr1 ?_)
    | (refine wre 15 oCfr3 ?_)
    | (refine wre 20 oCfr1 ?_)
    | (refine wre 24 oCfr1 ?_)
    | (refine wre 27 oCfr1 ?_)
    | (refine wre 33 oCfr4 ?_)
    | (refine wre 37 oCfr5 ?_)
    | (refine wre 40 oCfr1 ?_)
    | (refine wre 41 oCfr6 ?_)
    | (with_reducible refine wEI ?_; (first | (refine wEN ?_; skip) | (refine wEF rfl (fun K hK => ?_); go_simp) | (refine wEL rfl rfl (fun K hK => ?_); go_simp) | (refine wER rfl (fun K hK => ?_); go_simp) | (refine wEM rfl (fun K hK => ?_); go_simp; try refine ⟨_, _, ⟨rfl, rfl⟩, ?_⟩) | (refine wEG rfl (fun K hK => ?_); go_simp) | (refine wpE_actp rfl rfl (fun K hK => ?_); simp only [List.getElem_toArray, List.getElem_cons_succ, List.getElem_cons_zero]; (first | (with_reducible refine op_makeSlice ?_;  refine makeB _ _ rfl _ _ _ _ 0 64 rfl rfl rfl rfl (by omega) (by omega) ?_))) | (refine wEA rfl (fun K hK => ?_); go_simp))))
  have hck : c.codec < 9223372036854775808 := by rcases hok.kind with ⟨h, _⟩ | ⟨_, h, _⟩ <;> omega
  have hcode := hok.code_lt
  have hdl := hok.len
  have hk9 := uv9 hck
  have hk29 := uv9 hcode
  have hk32 := uv2 (n := c.dig.length) (by omega)
  have hx1 : xs.drop i = Lib.uvarint 1 ++ (Lib.uvarint c.codec ++ (mhB c.code c.dig ++ rest)) := by rw [hx]; unfold CidM.bytes; rw [if_neg (by omega)]; simp
  have hx2 : xs.drop (i + 1) = Lib.uvarint c.codec ++ (mhB c.code c.dig ++ rest) := by rw [← List.drop_drop, hx1, uv1]; rfl
  have hx3 : xs.drop (i + 1 + (Lib.uvarint c.codec).length) = Lib.uvarint c.code ++ (Lib.uvarint c.dig.length ++ (c.dig ++ rest)) := by rw [← List.drop_drop, hx2]; simp [mhB]
  have hx4 : xs.drop (i + 1 + (Lib.uvarint c.codec).length + (Lib.uvarint c.code).length) = Lib.uvarint c.dig.length ++ (c.dig ++ rest) := by rw [← List.drop_drop, hx3]; simp
  have hx5 : xs.drop (i + 1 + (Lib.uvarint c.codec).length + (Lib.uvarint c.code).length + (Lib.uvarint c.dig.length).length) = c.dig ++ rest := by rw [← List.drop_drop, hx4]; simp
  have hln : c.bytes.length = 1 + (Lib.uvarint c.codec).length + (Lib.uvarint c.code).length + (Lib.uvarint c.dig.length).length + c.dig.length := by rw [CidM.bytes1 h0]; simp [mhB]; omega
  have hT : ∀ j, i ≤ j → j ≤ i + c.bytes.length → (xs.take j).drop i = c.bytes.take (j - i) := fun j h1 h2 => by
    rw [List.drop_take, hx, List.take_append_of_le_length (by omega)]
  have hi1 : Bbr w1 (w.heap.size + 1 + 1) (w.heap.size + 1) r sb xs i i := by
    have hD := hF1.blk (Blk.new (cs := List.replicate 64 (.int .u8 0))) (by simp)
    refine ⟨?_, ?_, (h.fr (S := []) (Fr.trans (S := []) (by exact frP) hF1 (by simp)) (by simp) (by simp)), Nat.le_refl _, by omega, by omega, by omega, by omega, by omega⟩
    · simpa using hQ1
    · refine Blk.conv (by simpa using hD) ?_
      rw [hT i (Nat.le_refl _) (by omega)]; simp [buf64, by8]
  have hZ1 := hF1.blk (Blk.alloc (Blk.new (cs := [_]))) (by simp)
  have hW1 : Fr [r] w w1 := Fr.trans (S := [r]) (by exact frP) hF1 (by simp)
  have h1n : (Lib.uvarint 1).length = 1 := by rw [uv1]; rfl
  have U1 := readUvarint (bbrSrc _ _ _ _ _ i) hi1 (n := 1) (by decide) (take_uv hx1 (by omega))
  have U2 := fun w' hi => readUvarint (bbrSrc (w.heap.size + 1 + 1) (w.heap.size + 1) r sb xs i) (w := w') (i := i + 1) hi (n := c.codec) (by omega) (take_uv hx2 (by omega))
  have U3 := fun w' hi => readUvarint (bbrSrc (w.heap.size + 1 + 1) (w.heap.size + 1) r sb xs i) (w := w') (i := i + 1 + (Lib.uvarint c.codec).length) hi (n := c.code) (by omega) (take_uv hx3 (by omega))
  have U4 := fun w' hi => readUvarint (bbrSrc (w.heap.size + 1 + 1) (w.heap.size + 1) r sb xs i) (w := w') (i := i + 1 + (Lib.uvarint c.codec).length + (Lib.uvarint c.code).length) hi (n := c.dig.length) (by omega) (take_uv hx4 (by omega))
  rw [h1n] at U1
  have hrl : c.dig.length ≤ (xs.drop (i + 1 + (Lib.uvarint c.codec).length + (Lib.uvarint c.code).length + (Lib.uvarint c.dig.length).length)).length := by rw [hx5]; simp
  have hpre : c.bytes.take (1 + (Lib.uvarint c.codec).length + (Lib.uvarint c.code).length + (Lib.uvarint c.dig.length).length) ++ c.dig = c.bytes := by
    have e : c.bytes = (Lib.uvarint 1 ++ Lib.uvarint c.codec ++ Lib.uvarint c.code ++ Lib.uvarint c.dig.length) ++ c.dig := by unfold CidM.bytes mhB; rw [if_neg (by omega)]; simp
    conv => lhs; lhs; rw [e]
    rw [List.take_append_of_le_length (by simp; omega), List.take_of_length_le (by simp; omega), ← e]
  have hmh : c.bytes.drop (1 + (Lib.uvarint c.codec).length) = mhB c.code c.dig := by unfold CidM.bytes; rw [if_neg (by omega), ← List.append_assoc, List.drop_left' (by simp; omega)]
  have Hpre := Lib.hid hpre
  have Hmh := Lib.hid hmh
  clear hpre hmh
  have HT := Lib.hid hT
  have HL := Lib.hid hln
  have Hx5 := Lib.hid hx5
  have hxl : i + c.bytes.length ≤ xs.length := by
    have h1 := congrArg List.length hx
    have h2 := hok.le.2
    simp at h1; omega
  have hk1 := Lib.uvarint_pos c.codec
  have hk2 := Lib.uvarint_pos c.code
  have hk3 := Lib.uvarint_pos c.dig.length
  have hbl : c.bytes.length ≤ 221 := hok.le.1
  clear hx hx1 hx2 hx3 hx4 hx5 hT hln h1n hQ1 hF1 hi1
  generalize hK1 : (Lib.uvarint c.codec).length = k1 at *
  generalize hK2 : (Lib.uvarint c.code).length = k2 at *
  generalize hK3 : (Lib.uvarint c.dig.length).length = k3 at *
  have HK1 := Lib.hid hK1
  have HK2 := Lib.hid hK2
  have HK3 := Lib.hid hK3
  clear hK1 hK2 hK3
  obtain ⟨q, hq⟩ : ∃ q, q = w.heap.size + 1 + 1 := ⟨_, rfl⟩
  obtain ⟨d, hd⟩ : ∃ d, d = w.heap.size + 1 := ⟨_, rfl⟩
  rw [← hq, ← hd] at U1 U2 U3 U4
  rw [← hq]
  have hqd : q ≠ d ∧ q ≠ r ∧ q ≠ sb ∧ d ≠ r ∧ d ≠ sb ∧ w.heap.size < d ∧ w.heap.size < q := by omega
  have Hq := Lib.hid hq
  have Hd := Lib.hid hd
  clear hq hd
  refine U1.mono ?_; rintro e w2 ⟨rfl, hi2, hF2⟩
  have hW2 : Fr [r] w w2 := hW1.trans hF2 (by simp; omega)
  have hZ2 := hF2.blk hZ1 (by simp; omega)
  clear hZ1
  go_wp2_with fail
  refine (U2 _ hi2).mono ?_; rintro e w3 ⟨rfl, hi3, hF3⟩
  have hW3 : Fr [r] w w3 := hW2.trans hF3 (by simp; omega)
  have hZ3 := hF3.blk hZ2 (by simp; omega)
  clear hZ2
  have hq3 := hi3.hq.cells
  rw [show i + 1 + k1 - i = 1 + k1 by omega] at hq3
  go_wp2_with fail
  refine (U3 _ hi3).mono ?_; rintro e w4 ⟨rfl, hi4, hF4⟩
  have hW4 : Fr [r] w w4 := hW3.trans hF4 (by simp; omega)
  have hZ4 := hF4.blk hZ3 (by simp; omega)
  clear hZ3
  clear hq3
  go_wp2_with fail
  refine (U4 _ hi4).mono ?_; rintro e w5 ⟨rfl, hi5, hF5⟩
  have hW5 : Fr [r] w w5 := hW4.trans hF5 (by simp; omega)
  have hZ5 := hF5.blk hZ4 (by simp; omega)
  clear hZ4
  have hq5 := hi5.hq.cells
  have hqf5 := hi5.hq.free
  rw [show i + 1 + k1 + k2 + k3 - i = 1 + k1 + k2 + k3 by omega] at hq5
  clear U1 U2 U3 U4 hi2 hi3 hi4 hF2 hF3 hF4 hF5 hW1 hW2 hW3 hW4
  have hqd1 := hqd.1
  have hqd2 := Ne.symm hqd1
  have hql := hi5.hq.lt
  have hdl5 := hi5.hd.lt
  by_cases hc64 : 1 + k1 + k2 + k3 + c.dig.length ≤ 64
  · have h64 : (1 : Int) + k1 + k2 + k3 + c.dig.length ≤ 64 := by omega
    go_wp2_with fail
    have hpl : ((xs.take (i + 1 + k1 + k2 + k3)).drop i).length = 1 + k1 + k2 + k3 := by rw [HT.out _ (by omega) (by have := HL.out; omega)]; simp; have := HL.out; omega
    have hb7 : lay (buf64 ((xs.take (i + 1 + k1 + k2 + k3)).drop i)) (1 + k1 + k2 + k3) ((xs.drop (i + 1 + k1 + k2 + k3)).take c.dig.length) = buf64 c.bytes := by
      have h1 := buf64_lay (ys := (xs.take (i + 1 + k1 + k2 + k3)).drop i) (zs := c.dig) (by rw [hpl]; omega)
      rw [hpl] at h1
      rw [Hx5.out, List.take_left, h1, HT.out _ (by omega) (by have := HL.out; omega), show i + 1 + k1 + k2 + k3 - i = 1 + k1 + k2 + k3 by omega, Hpre.out]
    refine (readFull (hi5.hr.fr (S := [q]) (by exact frP) (by simp [Ne.symm hqd.2.1]) (by simp [Ne.symm hqd.2.2.1])) d (1 + k1 + k2 + k3) c.dig.length _ _ _ (Blk.setNe (by simp [hqd1]) hi5.hd) (by rw [buf64_len (by rw [hpl]; omega)]; omega) (by omega) hqd.2.2.2.1 hqd.2.2.2.2.1 (by have := HL.out; omega)).mono ?_
    rintro e w7 ⟨rfl, hR7, hB7, hF7⟩
    rw [hb7] at hB7
    have hF6 : Fr [r] w w7 := (Fr.setCell (S := [r]) (.inr (Nat.le_of_lt hqd.2.2.2.2.2.2)) hW5).trans hF7 (by simp; omega)
    have hB9 := buf64_bs hB7
    have hQ7 := hF7.blk (b := q) (Blk.set (o := 2) (v := .slice (some ⟨d, 0, none⟩) (1 + k1 + k2 + k3 + c.dig.length) 64) hi5.hq) (by simp [hqd.2.1, hqd1])
    have hq7 := hQ7.cells
    have hqf7 := hQ7.free
    have hMh : ∀ w', Fr [] w7 w' → Sl w' (.slice (some ⟨d, 1 + k1, none⟩) (1 + k1 + k2 + k3 + c.dig.length - (1 + k1)) (64 - (1 + k1))) d (mhB c.code c.dig) := fun w' hf =>
      Sl.mk (by have := (hB9.fr hf (by simp)).drop (1 + k1); rw [Hmh.out, Nat.zero_add] at this; exact this) (by rw [← Hmh.out, List.length_drop]; have := HL.out; omega) (by rw [← Hmh.out, List.length_drop]; omega) (by rw [← Hmh.out, List.length_drop]; have := HL.out; omega)
    clear hq5 hqf5
    go_wp2_with fail
    have hZ7 := hF7.blk (Blk.setNe (Ne.symm (Nat.ne_of_lt hqd.2.2.2.2.2.2)) hZ5) (by simp; omega)
    refine (mhFromBytes (dig := c.dig) (rest := []) (hMh _ Fr.refl) hcode (by simp) (by omega)).mono ?_; rintro e w8 ⟨v8, rfl, hF8⟩
    have hQ8 := hF8.blk hQ7 (by simp)
    have hZ8 := hF8.blk hZ7 (by simp)
    have hq8 := hQ8.cells
    have hz8 := hZ8.cells
    have hzf8 := hZ8.free
    have hcv := convBack (c := 64) 55 (.inl rfl) ((hB9.fr hF8 (by simp)).drew) (1 + k1 + k2 + k3 + c.dig.length) (by have := HL.out; omega)
    have hF9 : Fr [r] w w8 := hF6.trans hF8 (by simp)
    have hR8 := hR7.fr hF8 (by simp) (by simp)
    clear hq7 hqf7
    go_wp2_with (first
      | (refine wre 5 oCfr0 ?_)
      | (refine wre 6 oCfr1 ?_)
      | (refine wre 10 oCfr2 ?_)
      | (refine wre 14 oCfr1 ?_)
      | (refine wre 15 oCfr3 ?_)
      | (refine wre 20 oCfr1 ?_)
      | (refine wre 24 oCfr1 ?_)
      | (refine wre 27 oCfr1 ?_)
      | (refine wre 33 oCfr4 ?_)
      | (refine wre 37 oCfr5 ?_)
      | (refine wre 40 oCfr1 ?_)
      | (refine wre 41 oCfr6 ?_)
      | (with_reducible refine wEI ?_; (first | (refine wEN ?_; skip) | (refine wEF rfl (fun K hK => ?_); go_simp) | (refine wEL rfl rfl (fun K hK => ?_); go_simp) | (refine wER rfl (fun K hK => ?_); go_simp) | (refine wEM rfl (fun K hK => ?_); go_simp; try refine ⟨_, _, ⟨rfl, rfl⟩, ?_⟩) | (refine wEG rfl (fun K hK => ?_); go_simp) | (refine wEA rfl (fun K hK => ?_); go_simp))))
    refine bodyPost_ret (v := .tuple #[.int .i64 c.bytes.length, cidV c, .nilIface]) (by simp [results, Tryz.results71, go_sem, hz8, HL.out]) rfl ⟨rfl, ?_, ?_⟩
    · rw [show i + c.bytes.length = i + 1 + k1 + k2 + k3 + c.dig.length by have := HL.out; omega]
      exact hR8.fr (S := [w.heap.size]) (by exact frP) (by simp; omega) (by simp; omega)
    · repeat (first | exact hF9 | (with_reducible refine Fr.drew ?_) | (refine Fr.setCell (.inr (Nat.le_refl _)) ?_))
  · have h64 : (64 : Int) < (1 : Int) + k1 + k2 + k3 + c.dig.length := by omega
    have hpl : ((xs.take (i + 1 + k1 + k2 + k3)).drop i).length = 1 + k1 + k2 + k3 := by rw [HT.out _ (by omega) (by have := HL.out; omega)]; simp; have := HL.out; omega
    have hDb : Bs w5 d 0 ((xs.take (i + 1 + k1 + k2 + k3)).drop i) := buf64_bs hi5.hd
    have HPL := Lib.hid hpl
    clear hpl
    have hgap : d ≠ w5.heap.size ∧ q ≠ w5.heap.size := by omega
    go_wp2_with (first
      | (with_reducible refine list_bi .append (fun K hK => ?_);  refine appZeros _ _ rfl d (1 + k1 + k2 + k3) 64 rfl ((xs.take (i + 1 + k1 + k2 + k3)).drop i) hDb.drew HPL.out c.dig.length _ rfl (by rw [IntWalk.i64_in _ (by omega)]; omega) (by omega) (by omega) (by omega) (fun w6 C hC1 hC2 hB6 hF6 => ?_); have hQ6 := hF6.blk (Blk.drew hi5.hq) (by simp); have hq6 := hQ6.cells; have hqf6 := hQ6.free; clear hq5 hqf5)
      | (refine wre 5 oCfr0 ?_)
      | (refine wre 6 oCfr1 ?_)
      | (refine wre 10 oCfr2 ?_)
      | (refine wre 14 oCfr1 ?_)
      | (refine wre 15 oCfr3 ?_)
      | (refine wre 20 oCfr1 ?_)
      | (refine wre 24 oCfr1 ?_)
      | (refine wre 27 oCfr1 ?_)
      | (refine wre 33 oCfr4 ?_)
      | (refine wre 37 oCfr5 ?_)
      | (refine wre 40 oCfr1 ?_)
      | (refine wre 41 oCfr6 ?_)
      | (with_reducible refine wEI ?_; (first | (refine wEN ?_; skip) | (refine wEF rfl (fun K hK => ?_); go_simp) | (refine wEL rfl rfl (fun K hK => ?_); go_simp) | (refine wER rfl (fun K hK => ?_); go_simp) | (refine wEM rfl (fun K hK => ?_); go_simp; try refine ⟨_, _, ⟨rfl, rfl⟩, ?_⟩) | (refine wEG rfl (fun K hK => ?_); go_simp) | (refine wpE_actp rfl rfl (fun K hK => ?_); simp only [List.getElem_toArray, List.getElem_cons_succ, List.getElem_cons_zero]; (first | (with_reducible refine op_bi .append ?_;  refine appZeros _ _ rfl d (1 + k1 + k2 + k3) 64 rfl ((xs.take (i + 1 + k1 + k2 + k3)).drop i) hDb.drew HPL.out c.dig.length _ rfl (by rw [IntWalk.i64_in _ (by omega)]; omega) (by omega) (by omega) (by omega) (fun w6 C hC1 hC2 hB6 hF6 => ?_); have hQ6 := hF6.blk (Blk.drew hi5.hq) (by simp); have hq6 := hQ6.cells; have hqf6 := hQ6.free; clear hq5 hqf5))) | (refine wEA rfl (fun K hK => ?_); go_simp))))
    have hd6 := hgap.1
    replace hB6 : Blk w6 w5.heap.size (by8 ((xs.take (i + 1 + k1 + k2 + k3)).drop i) ++ List.replicate (C - (1 + k1 + k2 + k3)) (.int .u8 0)) 5 (0, 0) := hB6
    generalize hg5 : w5.heap.size = g at *
    have Hg5 := Lib.hid hg5
    clear hg5
    replace hF6 : Fr [] w5 w6 := Fr.trans (S := []) (Fr.drew Fr.refl) hF6 (by simp)
    have hF6q : Fr [q] w5 (w6.setCell { block := q, off := 2 } (Value.slice (some { block := g, off := 0 }) (1 + k1 + k2 + k3 + c.dig.length) C)) := Fr.setCell (.inl (by simp)) (hF6.mono (by simp))
    have hg6 := hB6.lt
    have hrg : r ≠ g ∧ sb ≠ g := by have := hi5.hr.lt; have := Hg5.out; omega
    have hb7 : lay (by8 ((xs.take (i + 1 + k1 + k2 + k3)).drop i) ++ List.replicate (C - (1 + k1 + k2 + k3)) (.int .u8 0)) (1 + k1 + k2 + k3) ((xs.drop (i + 1 + k1 + k2 + k3)).take c.dig.length) = [] ++ by8 c.bytes ++ List.replicate (C - (1 + k1 + k2 + k3) - c.dig.length) (.int .u8 0) := by
      rw [Hx5.out, List.take_left, HT.out _ (by omega) (by have := HL.out; omega), show i + 1 + k1 + k2 + k3 - i = 1 + k1 + k2 + k3 by omega]
      conv => rhs; rw [← Hpre.out]
      have hl : (by8 (c.bytes.take (1 + k1 + k2 + k3))).length = 1 + k1 + k2 + k3 := by rw [by8_length, List.length_take]; have := HL.out; omega
      simp only [lay, by8_append, List.nil_append]
      rw [List.take_append_of_le_length (by omega), List.take_of_length_le (by omega), List.drop_append, hl, List.drop_eq_nil_of_le (by omega), List.drop_replicate, List.nil_append]
      congr 2; omega
    refine (readFull (hi5.hr.fr hF6q (by simp [Ne.symm hqd.2.1]) (by simp [Ne.symm hqd.2.2.1])) g (1 + k1 + k2 + k3) c.dig.length _ _ _ (Blk.setNe (by simp [hgap.2]) hB6) (by simp [by8_length, HPL.out]; omega) (by omega) (Ne.symm hrg.1) (Ne.symm hrg.2) (by have := HL.out; omega)).mono ?_
    rintro e w7 ⟨rfl, hR7, hB7, hF7⟩
    rw [hb7] at hB7
    have hF67 : Fr [r] w w7 := ((hW5.trans hF6q (by simp; omega)).trans hF7 (by simp; have := Hg5.out; have := hW5.size; omega))
    have hB9 : Bs w7 g 0 c.bytes := Blk.bs (pre := []) hB7 rfl rfl
    have hQ7 := hF7.blk (b := q) (Blk.set (o := 2) (v := .slice (some ⟨g, 0, none⟩) (1 + k1 + k2 + k3 + c.dig.length) C) hQ6) (by simp [hqd.2.1, hgap.2])
    have hq7 := hQ7.cells
    have hqf7 := hQ7.free
    have hCk : ¬ C = 1 + k1 := by omega
    have hMh : ∀ w', Fr [] w7 w' → Sl w' (.slice (some ⟨g, 1 + k1, none⟩) (1 + k1 + k2 + k3 + c.dig.length - (1 + k1)) (C - (1 + k1))) g (mhB c.code c.dig) := fun w' hf =>
      Sl.mk (by have := (hB9.fr hf (by simp)).drop (1 + k1); rw [Hmh.out, Nat.zero_add] at this; exact this) (by rw [← Hmh.out, List.length_drop]; have := HL.out; omega) (by rw [← Hmh.out, List.length_drop]; omega) (by rw [← Hmh.out, List.length_drop]; have := HL.out; omega)
    clear hq6 hqf6
    go_wp2_with fail
    have hZ7 := hF7.blk (b := w.heap.size) (Blk.setNe (Ne.symm (Nat.ne_of_lt hqd.2.2.2.2.2.2)) (hF6.blk hZ5 (by simp))) (by simp; have := hW5.size; have := Hg5.out; omega)
    refine (mhFromBytes (dig := c.dig) (rest := []) (hMh _ Fr.refl) hcode (by simp) (by omega)).mono ?_; rintro e w8 ⟨v8, rfl, hF8⟩
    have hQ8 := hF8.blk hQ7 (by simp)
    have hZ8 := hF8.blk hZ7 (by simp)
    have hq8 := hQ8.cells
    have hz8 := hZ8.cells
    have hzf8 := hZ8.free
    have hcv := convBack (c := C) 55 (.inl rfl) ((hB9.fr hF8 (by simp)).drew) (1 + k1 + k2 + k3 + c.dig.length) (by have := HL.out; omega)
    have hF9 : Fr [r] w w8 := hF67.trans hF8 (by simp)
    have hR8 := hR7.fr hF8 (by simp) (by simp)
    clear hq7 hqf7
    go_wp2_with (first
      | (refine wre 5 oCfr0 ?_)
      | (refine wre 6 oCfr1 ?_)
      | (refine wre 10 oCfr2 ?_)
      | (refine wre 14 oCfr1 ?_)
      | (refine wre 15 oCfr3 ?_)
      | (refine wre 20 oCfr1 ?_)
      | (refine wre 24 oCfr1 ?_)
      | (refine wre 27 oCfr1 ?_)
      | (refine wre 33 oCfr4 ?_)
      | (refine wre 37 oCfr5 ?_)
      | (refine wre 40 oCfr1 ?_)
      | (refine wre 41 oCfr6 ?_)
      | (with_reducible refine wEI ?_; (first | (refine wEN ?_; skip) | (refine wEF rfl (fun K hK => ?_); go_simp) | (refine wEL rfl rfl (fun K hK => ?_); go_simp) | (refine wER rfl (fun K hK => ?_); go_simp) | (refine wEM rfl (fun K hK => ?_); go_simp; try refine ⟨_, _, ⟨rfl, rfl⟩, ?_⟩) | (refine wEG rfl (fun K hK => ?_); go_simp) | (refine wEA rfl (fun K hK => ?_); go_simp))))
    refine bodyPost_ret (v := .tuple #[.int .i64 c.bytes.length, cidV c, .nilIface]) (by simp [results, Tryz.results71, go_sem, hz8, HL.out]) rfl ⟨rfl, ?_, ?_⟩
    · rw [show i + c.bytes.length = i + 1 + k1 + k2 + k3 + c.dig.length by have := HL.out; omega]
      exact hR8.fr (S := [w.heap.size]) (by exact frP) (by simp; omega) (by simp; omega)
    · repeat (first | exact hF9 | (with_reducible refine Fr.drew ?_) | (refine Fr.setCell (.inr (Nat.le_refl _)) ?_))
end Go.Proofs.Wx

namespace Go.Proofs.Wx
open Go Go.RowKit
abbrev oCfr00 : List (Nat × Cls) := [(0,.look),(1,.free),(2,.free),(3,.act),(4,.free)]
abbrev oCfr01 : List (Nat × Cls) := [(0,.free),(1,.free),(2,.free),(3,.look),(4,.free),(5,.look),(6,.free),(7,.free),(8,.free),(9,.free),(10,.act),(11,.free)]
abbrev oCfr02 : List (Nat × Cls) := [(0,.free),(1,.free),(2,.free),(3,.look),(4,.free),(5,.free),(6,.free),(7,.look),(8,.free),(9,.free),(10,.free),(11,.free),(12,.act),(13,.free)]
abbrev oCfr03 : List (Nat × Cls) := [(0,.free),(1,.free),(2,.free),(3,.look),(4,.free),(5,.free),(6,.read),(7,.free),(8,.free),(9,.act),(10,.free)]
abbrev oCfr04 : List (Nat × Cls) := [(0,.free),(1,.free),(2,.free),(3,.free),(4,.look),(5,.free),(6,.free),(7,.free),(8,.free),(9,.look),(10,.free),(11,.free),(12,.act),(13,.free),(14,.free),(15,.act)]
abbrev oCfr05 : List (Nat × Cls) := [(0,.free),(1,.free),(2,.free),(3,.look),(4,.free),(5,.free),(6,.free),(7,.free),(8,.act),(9,.free)]
abbrev oCfr06 : List (Nat × Cls) := [(0,.free),(1,.free),(2,.free),(3,.look),(4,.free),(5,.free),(6,.free),(7,.free),(8,.look),(9,.read),(10,.free),(11,.free),(12,.act),(13,.free)]
theorem cidFromReader0 {w : World} {r sb : Nat} {xs : List UInt8} {i : Nat} {c : CidM} {rest : List UInt8} (h : Rdr w r sb xs i) (hx : xs.drop i = c.bytes ++ rest) (h0 : c.v = 0) (hk : c.code = 18) (hl : c.dig.length = 32) :
    Calls Tryz.prog 71 #[.iface 63 (.pointer (some ⟨r, 0, none⟩))] w fun e w' => e = .returned (.tuple #[.int .i64 c.bytes.length, cidV c, .nilIface]) ∧ Rdr w' r sb xs (i + c.bytes.length) ∧ Fr [r] w w' := by
  have hlt := h.lt
  go_enter Tryz.func71, Tryz.ntmps71
  go_wp2_with (first
    | (with_reducible refine list_makeSlice (fun K hK => ?_);  refine makeB _ _ rfl _ _ _ _ 0 64 rfl rfl rfl rfl (by omega) (by omega) ?_)
    | go_at_call 107; refine (toBufByteReader r _).mono ?_; rintro e w1 ⟨rfl, hQ1, hF1⟩
    | (refine wre 5 oCfr00 ?_)
    | (refine wre 6 oCfr01 ?_)
    | (refine wre 10 oCfr02 ?_)
    | (refine wre 14 oCfr01 ?_)
    | (refine wre 15 oCfr03 ?_)
    | (refine wre 20 oCfr01 ?_)
    | (refine wre 24 oCfr01 ?_)
    | (refine wre 27 oCfr01 ?_)
    | (refine wre 33 oCfr04 ?_)
    | (refine wre 37 oCfr05 ?_)
    | (refine wre 40 oCfr01 ?_)
    | (refine wre 41 oCfr06 ?_)
    | (with_reducible refine wEI ?_; (first | (refine wEN ?_; skip) | (refine wEF rfl (fun K hK => ?_); go_simp) | (refine wEL rfl rfl (fun K hK => ?_); go_simp) | (refine wER rfl (fun K hK => ?_); go_simp) | (refine wEM rfl (fun K hK => ?_); go_simp; try refine ⟨_, _, ⟨rfl, rfl⟩, ?_⟩) | (refine wEG rfl (fun K hK => ?_); go_simp) | (refine wpE_actp rfl rfl (fun K hK => ?_); simp only [List.getElem_toArray, List.getElem_cons_succ, List.getElem_cons_zero]; (first | (with_reducible refine op_makeSlice ?_;  refine makeB _ _ rfl _ _ _ _ 0 64 rfl rfl rfl rfl (by omega) (by omega) ?_))) | (refine wEA rfl (fun K hK => ?_); go_simp))))
  have hb := CidM.bytes0 h0 hk hl
  have hmh : c.bytes = mhB 18 c.dig := by unfold CidM.bytes; rw [if_pos h0, hk]
  have hln : c.bytes.length = 34 := by rw [hb]; simp [hl]
  have h18 : Lib.uvarint 18 = [18] := Lib.uvarint_small (by decide)
  have hx1 : xs.drop i = Lib.uvarint 18 ++ (32 :: c.dig ++ rest) := by rw [hx, hb, h18]; rfl
  have hx2 : (xs.drop (i + 1)).take 33 = 32 :: c.dig := by rw [← List.drop_drop, hx1, h18]; simp [List.take_append, hl]
  have hi1 : Bbr w1 (w.heap.size + 1 + 1) (w.heap.size + 1) r sb xs i i := by
    have hD := hF1.blk (Blk.new (cs := List.replicate 64 (.int .u8 0))) (by simp)
    refine ⟨?_, ?_, (h.fr (S := []) (Fr.trans (S := []) (by exact frP) hF1 (by simp)) (by simp) (by simp)), Nat.le_refl _, by omega, by omega, by omega, by omega, by omega⟩
    · simpa using hQ1
    · refine Blk.conv (by simpa using hD) ?_
      rw [List.drop_take]; simp [buf64, by8]
  have hZ1 := hF1.blk (Blk.alloc (Blk.new (cs := [_]))) (by simp)
  have hW1 : Fr [r] w w1 := Fr.trans (S := [r]) (by exact frP) hF1 (by simp)
  have U1 := readUvarint (bbrSrc _ _ _ _ _ i) hi1 (n := 18) (by decide) (take_uv hx1 (by rw [h18]; simp; omega))
  rw [h18] at U1
  have hxl : i + 34 ≤ xs.length := by
    have h1 := congrArg List.length hx
    simp at h1; omega
  have hT : (xs.take (i + 1)).drop i = [18] := by rw [List.drop_take, hx1, h18]; simp
  have HT := Lib.hid hT
  have Hx2 := Lib.hid hx2
  have Hmh := Lib.hid hmh
  have Hb := Lib.hid hb
  have HL := Lib.hid hln
  clear hx hx1 hx2 hT hb hmh hln h18 hQ1 hF1 hi1 hk h0
  obtain ⟨q, hq⟩ : ∃ q, q = w.heap.size + 1 + 1 := ⟨_, rfl⟩
  obtain ⟨d, hd⟩ : ∃ d, d = w.heap.size + 1 := ⟨_, rfl⟩
  rw [← hq, ← hd] at U1
  rw [← hq]
  have hqd : q ≠ d ∧ q ≠ r ∧ q ≠ sb ∧ d ≠ r ∧ d ≠ sb ∧ w.heap.size < d ∧ w.heap.size < q := by omega
  have Hq := Lib.hid hq
  have Hd := Lib.hid hd
  clear hq hd
  have hqd1 := hqd.1
  have hqd2 := Ne.symm hqd1
  refine U1.mono ?_; rintro e w2 ⟨rfl, hi2, hF2⟩
  have hW2 : Fr [r] w w2 := hW1.trans hF2 (by simp; omega)
  have hZ2 := hF2.blk hZ1 (by simp; omega)
  have hq2 := hi2.hq.cells
  have hqf2 := hi2.hq.free
  simp only [List.length_singleton] at hi2 hq2 hqf2
  rw [show i + 1 - i = 1 by omega] at hq2
  have hD2 := hi2.hd
  rw [HT.out] at hD2
  clear hZ1
  go_wp2_with fail
  have hb7 : lay (buf64 [18]) 1 ((xs.drop (i + 1)).take 33) = buf64 c.bytes := by
    have h1 := buf64_lay (ys := [18]) (zs := 32 :: c.dig) (by simp; omega)
    rw [Hx2.out, Hb.out]; exact h1
  refine (readFull hi2.hr d 1 33 63 _ _ hD2 (by rw [buf64_len (by simp)]; omega) (by omega) hqd.2.2.2.1 hqd.2.2.2.2.1 (by omega)).mono ?_
  rintro e w3 ⟨rfl, hR3, hB3, hF3⟩
  rw [hb7] at hB3
  have hW3 : Fr [r] w w3 := hW2.trans hF3 (by simp; omega)
  have hQ3 := hF3.blk hi2.hq (by simp [hqd.2.1, hqd1])
  have hZ3 := hF3.blk hZ2 (by simp; omega)
  rw [show i + 1 - i = 1 by omega] at hQ3
  have hq3 := hQ3.cells
  have hqf3 := hQ3.free
  have hql3 := hQ3.lt
  have hB9 := buf64_bs hB3
  have hMh : ∀ w', Fr [q] w3 w' → Sl w' (.slice (some ⟨d, 0, none⟩) 34 64) d (mhB 18 c.dig) := fun w' hf =>
    Sl.mk (by have := hB9.fr hf (by simp [hqd2]); rw [Hmh.out] at this; exact this) (by rw [← Hmh.out, HL.out]; omega) (by rw [← Hmh.out, HL.out]; omega) (by rw [← Hmh.out, HL.out])
  clear hq2 hqf2 U1 hF2 hF3 hD2
  go_wp2_with fail
  have hZ4 := Blk.setNe (a := ⟨q, 2, none⟩) (v := .slice (some ⟨d, 0, none⟩) 34 64) (Ne.symm (Nat.ne_of_lt hqd.2.2.2.2.2.2)) hZ3
  have hQ4 := Blk.set (o := 2) (v := .slice (some ⟨d, 0, none⟩) 34 64) hQ3
  refine (mhCast (hMh _ (Fr.setCell (by simp) Fr.refl)) (by omega) (by omega)).mono ?_; rintro e w4 ⟨rfl, hF4⟩
  have hQ5 := hF4.blk hQ4 (by simp)
  have hZ5 := hF4.blk hZ4 (by simp)
  have hq5 := hQ5.cells
  have hz5 := hZ5.cells
  have hzf5 := hZ5.free
  have hcv := convBack (c := 64) 221 (.inr rfl) (((Bs.setNe (a := ⟨q, 2, none⟩) (v := .slice (some ⟨d, 0, none⟩) 34 64) hqd1 hB9).fr hF4 (by simp)).drew) 34 HL.out
  have hF5 : Fr [r] w w4 := (Fr.setCell (.inr (Nat.le_of_lt hqd.2.2.2.2.2.2)) hW3).trans hF4 (by simp)
  have hR5 := (hR3.fr (S := [q]) (Fr.setCell (a := ⟨q, 2, none⟩) (v := .slice (some ⟨d, 0, none⟩) 34 64) (by simp) Fr.refl) (by simp [Ne.symm hqd.2.1]) (by simp [Ne.symm hqd.2.2.1])).fr hF4 (by simp) (by simp)
  clear hq3 hqf3
  go_wp2_with (first
    | (refine wre 5 oCfr00 ?_)
    | (refine wre 6 oCfr01 ?_)
    | (refine wre 10 oCfr02 ?_)
    | (refine wre 14 oCfr01 ?_)
    | (refine wre 15 oCfr03 ?_)
    | (refine wre 20 oCfr01 ?_)
    | (refine wre 24 oCfr01 ?_)
    | (refine wre 27 oCfr01 ?_)
    | (refine wre 33 oCfr04 ?_)
    | (refine wre 37 oCfr05 ?_)
    | (refine wre 40 oCfr01 ?_)
    | (refine wre 41 oCfr06 ?_)
    | (with_reducible refine wEI ?_; (first | (refine wEN ?_; skip) | (refine wEF rfl (fun K hK => ?_); go_simp) | (refine wEL rfl rfl (fun K hK => ?_); go_simp) | (refine wER rfl (fun K hK => ?_); go_simp) | (refine wEM rfl (fun K hK => ?_); go_simp; try refine ⟨_, _, ⟨rfl, rfl⟩, ?_⟩) | (refine wEG rfl (fun K hK => ?_); go_simp) | (refine wEA rfl (fun K hK => ?_); go_simp))))
  refine bodyPost_ret (v := .tuple #[.int .i64 c.bytes.length, cidV c, .nilIface]) (by simp [results, Tryz.results71, go_sem, hz5, HL.out]) rfl ⟨rfl, ?_, ?_⟩
  · rw [show i + c.bytes.length = i + 1 + 33 by have := HL.out; omega]
    exact hR5.fr (S := [w.heap.size]) (by exact frP) (by simp; omega) (by simp; omega)
  · repeat (first | exact hF5 | (with_reducible refine Fr.drew ?_) | (refine Fr.setCell (.inr (Nat.le_refl _)) ?_))
theorem cidFromReader {w : World} {r sb : Nat} {xs : List UInt8} {i : Nat} {c : CidM} {rest : List UInt8} (h : Rdr w r sb xs i) (hx : xs.drop i = c.bytes ++ rest) (hok : c.Ok) :
    Calls Tryz.prog 71 #[.iface 63 (.pointer (some ⟨r, 0, none⟩))] w fun e w' => e = .returned (.tuple #[.int .i64 c.bytes.length, cidV c, .nilIface]) ∧ Rdr w' r sb xs (i + c.bytes.length) ∧ Fr [r] w w' := by
  rcases hok.kind with ⟨h0, _, h1, h2⟩ | ⟨h0, _⟩
  · exact cidFromReader0 h hx h0 h1 h2
  · exact cidFromReader1 h hx h0 hok
end Go.Proofs.Wx
