import Derived.Test.YtgbfgjhndkkncaaGreatDoorM1
import Derived.Test.YtgbfgjhndkkncaaGreatDoorM3
import Derived.Laws.AppendOwn
set_option maxRecDepth 100000
set_option maxHeartbeats 1000000
set_option linter.unusedVariables false
set_option linter.unusedSimpArgs false
namespace Go.Proofs.Wx
open Go Go.RowKit
abbrev oCid0 : List (Nat × Cls) := [(0,.look),(1,.free),(2,.free),(3,.free),(4,.free),(5,.act),(6,.free)]
abbrev oCid1 : List (Nat × Cls) := [(0,.free),(1,.read),(2,.free),(3,.free),(4,.act),(5,.free)]
abbrev oCid2 : List (Nat × Cls) := [(0,.free),(1,.free),(2,.free),(3,.free),(4,.read),(5,.free),(6,.free),(7,.act),(8,.free)]
theorem convBack {w : World} {b o c : Nat} {xs : List UInt8} (T : TypeId) (hT : T = 55 ∨ T = 221) (h : Bs w b o xs) (n : Nat) (hn : xs.length = n) :
    (convert T 9 (.slice (some ⟨b, o, none⟩) n c)).run Tryz.prog w = .ok (.string ⟨xs.toArray⟩) w := by
  subst hn
  rcases hT with rfl | rfl
  all_goals exact run_convert_bytes_back w _ _ 5 _ _ xs (by kernel_rfl) (by kernel_rfl) (by kernel_rfl) (fun j hj => by rw [Addr.add_lit]; exact h.cell j hj)
abbrev cidV (c : CidM) : Value := .agg #[.string ⟨c.bytes.toArray⟩]
theorem cidFromBytes0 {w : World} {v : Value} {b : Nat} {c : CidM} (h : Sl w v b c.bytes) (h0 : c.v = 0) (hk : c.code = 18) (hl : c.dig.length = 32) :
    Calls Tryz.prog 182 #[v] w fun e w' => e = .returned (.tuple #[.int .i64 c.bytes.length, cidV c, .nilIface]) ∧ Fr [] w w' := by
  have hb := CidM.bytes0 h0 hk hl
  have hmh : c.bytes = mhB 18 c.dig := by unfold CidM.bytes; rw [if_pos h0, hk]
  have hln : c.bytes.length = 34 := by rw [hb]; simp [hl]
  obtain ⟨o, cp, rfl, hl2, hcb, hB⟩ := h
  have hc0 : w.cell? ⟨b, o, none⟩ = some (.int .u8 18) := by have := hB.cell 0 (by omega); simpa [hb] using this
  have hc1 : w.cell? ⟨b, o + 1, none⟩ = some (.int .u8 32) := by have := hB.cell 1 (by omega); simpa [hb] using this
  have hlt := hB.lt
  have hal := fun (w' : World) (hf : Fr [] w w') => mhCast (v := .slice (some ⟨b, o, none⟩) 34 cp) (code := 18) (dig := c.dig) (Sl.mk (hmh ▸ hB.fr hf (by simp)) (by rw [← hmh]; exact hl2) (by rw [← hmh]; exact hcb) (by rw [← hmh]; exact hln)) (by omega) (by omega)
  have hcv := fun (w' : World) (hf : Fr [] w w') => convBack (c := cp) 221 (.inr rfl) (hB.fr hf (by simp)) 34 hln
  rw [hln] at hl2 ⊢
  clear hb hmh
  have Hln := Lib.hid hln
  clear hln hl hk h0
  have h34 : 34 ≤ cp := hl2
  go_enter Tryz.func182, Tryz.ntmps182
  go_wp2_with (first
    | go_at_call 108; refine (hal _ (by exact frP)).mono ?_; rintro e w1 ⟨rfl, hF1⟩; have hZ := hF1.blk (Blk.new (cs := [_])) (by simp); have hzc := hZ.cells; have hzf := hZ.free; replace hF1 : Fr [] w w1 := Fr.trans (S := []) (by exact frP) hF1 (by simp); have hcv1 := hcv w1.drew hF1.drew
    | (refine wre 6 oCid0 ?_)
    | (refine wre 7 oCid1 ?_)
    | (refine wre 10 oCid0 ?_)
    | (refine wre 15 oCid0 ?_)
    | (refine wre 18 oCid0 ?_)
    | (refine wre 20 oCid2 ?_)
    | (with_reducible refine wEI ?_; (first | (refine wEN ?_; skip) | (refine wEF rfl (fun K hK => ?_); go_simp) | (refine wEL rfl rfl (fun K hK => ?_); go_simp) | (refine wER rfl (fun K hK => ?_); go_simp) | (refine wEM rfl (fun K hK => ?_); go_simp; try refine ⟨_, _, ⟨rfl, rfl⟩, ?_⟩) | (refine wEG rfl (fun K hK => ?_); go_simp) | (refine wEA rfl (fun K hK => ?_); go_simp))))
  refine bodyPost_ret (v := .tuple #[.int .i64 34, cidV c, .nilIface]) (by simp [results, Tryz.results182, go_sem, hzc]) rfl ⟨rfl, ?_⟩
  repeat (first | exact hF1 | (with_reducible refine Fr.drew ?_) | (refine Fr.setCell (.inr (Nat.le_refl _)) ?_))
theorem cidFromBytes1 {w : World} {v : Value} {b : Nat} {c : CidM} (h : Sl w v b c.bytes) (h0 : c.v = 1) (hok : c.Ok) :
    Calls Tryz.prog 182 #[v] w fun e w' => e = .returned (.tuple #[.int .i64 c.bytes.length, cidV c, .nilIface]) ∧ Fr [] w w' := by
  have hb := CidM.bytes1 h0
  have hck : c.codec < 9223372036854775808 := by rcases hok.kind with ⟨h, _⟩ | ⟨_, h, _⟩ <;> omega
  have hcode := hok.code_lt
  have hdl := hok.len
  have hm2 := mhB_two c.code c.dig
  have hle := hok.le
  have hp := Lib.uvarint_pos c.codec
  have hln : c.bytes.length = 1 + (Lib.uvarint c.codec).length + (mhB c.code c.dig).length := by rw [hb]; simp; omega
  have hd1 : c.bytes.drop 1 = Lib.uvarint c.codec ++ mhB c.code c.dig := by rw [hb]; rfl
  have hd2 : c.bytes.drop (1 + (Lib.uvarint c.codec).length) = mhB c.code c.dig := by rw [← List.drop_drop, hd1]; simp
  have hb1 : c.bytes = Lib.uvarint 1 ++ (Lib.uvarint c.codec ++ mhB c.code c.dig) := by rw [hb, uv1]; rfl
  obtain ⟨o, cp, rfl, hl2, hcb, hB⟩ := h
  have hc0 : w.cell? ⟨b, o, none⟩ = some (.int .u8 1) := by have := hB.cell 0 (by omega); simpa [hb] using this
  have hlt := hB.lt
  have hA := fun (w' : World) (hf : Fr [] w w') => fromUvarint (n := 1) (v := .slice (some ⟨b, o, none⟩) c.bytes.length cp) (Sl.mk (hB.fr hf (by simp)) hl2 hcb rfl) (by omega) hb1
  have hC := fun (w' : World) (hf : Fr [] w w') => fromUvarint (n := c.codec) (v := .slice (some ⟨b, o + 1, none⟩) (c.bytes.length - 1) (cp - 1))
    (Sl.mk (hd1 ▸ (hB.fr hf (by simp)).drop 1) (by rw [← hd1]; simp; omega) (by rw [← hd1]; simp; omega) (by rw [← hd1]; simp)) hck rfl
  have hD := fun (w' : World) (hf : Fr [] w w') => mhFromBytes (code := c.code) (dig := c.dig) (rest := []) (v := .slice (some ⟨b, o + (1 + (Lib.uvarint c.codec).length), none⟩) (c.bytes.length - (1 + (Lib.uvarint c.codec).length)) (cp - (1 + (Lib.uvarint c.codec).length)))
    (Sl.mk (hd2 ▸ (hB.fr hf (by simp)).drop _) (by rw [← hd2]; simp; omega) (by rw [← hd2]; simp; omega) (by rw [← hd2]; simp)) hcode (by simp) (by omega)
  have HL := Lib.hid hln
  rw [uv1] at hA
  clear hb hb1 hd1 hd2 hln
  generalize (Lib.uvarint c.codec).length = k at *
  generalize (mhB c.code c.dig).length = M at *
  have hX := HL.out
  have h1 : ¬ cp = 1 := by omega
  have h2 : ¬ cp = 1 + k := by omega
  have h3 : 2 < c.bytes.length := by omega
  have h4 : 1 + k ≤ c.bytes.length := by omega
  have h5 : 1 + k + M ≤ c.bytes.length := by omega
  have h6 : c.bytes.length ≤ cp := hl2
  have h7 : c.bytes.length < 1000000 := by omega
  have hcv := fun (w' : World) (hf : Fr [] w w') => convBack (c := cp) 55 (.inl rfl) (hB.fr hf (by simp)) ((1 : Int) + (k : Int) + (M : Int)).toNat (by omega)
  have HM : Hid (1 + k + M = c.bytes.length) := Lib.hid (by omega)
  clear hX hle
  go_enter Tryz.func182, Tryz.ntmps182
  go_wp2_with fail
  refine (hA _ (by exact frP)).mono ?_; rintro e w1 ⟨rfl, rfl⟩
  go_wp2_with fail
  refine (hC _ (by exact frP)).mono ?_; rintro e w1 ⟨rfl, rfl⟩
  go_wp2_with fail
  refine (hD _ (by exact frP)).mono ?_; rintro e w1 ⟨v1, rfl, hF1⟩; have hZ := hF1.blk (Blk.new (cs := [_])) (by simp); have hzc := hZ.cells; have hzf := hZ.free; replace hF1 : Fr [] w w1 := Fr.trans (S := []) (by exact frP) hF1 (by simp); have hcv1 := hcv w1.drew hF1.drew
  go_wp2_with (first
    | (refine wre 6 oCid0 ?_)
    | (refine wre 7 oCid1 ?_)
    | (refine wre 10 oCid0 ?_)
    | (refine wre 15 oCid0 ?_)
    | (refine wre 18 oCid0 ?_)
    | (refine wre 20 oCid2 ?_)
    | (with_reducible refine wEI ?_; (first | (refine wEN ?_; skip) | (refine wEF rfl (fun K hK => ?_); go_simp) | (refine wEL rfl rfl (fun K hK => ?_); go_simp) | (refine wER rfl (fun K hK => ?_); go_simp) | (refine wEM rfl (fun K hK => ?_); go_simp; try refine ⟨_, _, ⟨rfl, rfl⟩, ?_⟩) | (refine wEG rfl (fun K hK => ?_); go_simp) | (refine wEA rfl (fun K hK => ?_); go_simp))))
  have e : ((1 : Int) + (k : Int) + (M : Int)) = c.bytes.length := by have := HM.out; omega
  refine bodyPost_ret (v := .tuple #[.int .i64 c.bytes.length, cidV c, .nilIface]) (by simp [results, Tryz.results182, go_sem, hzc, e]) rfl ⟨rfl, ?_⟩
  repeat (first | exact hF1 | (with_reducible refine Fr.drew ?_) | (refine Fr.setCell (.inr (Nat.le_refl _)) ?_))
/-- The bytes of an identifier, cast. -/
theorem cidFromBytes {w : World} {v : Value} {b : Nat} {c : CidM} (h : Sl w v b c.bytes) (hok : c.Ok) :
    Calls Tryz.prog 182 #[v] w fun e w' => e = .returned (.tuple #[.int .i64 c.bytes.length, cidV c, .nilIface]) ∧ Fr [] w w' := by
  rcases hok.kind with ⟨h0, _, h1, h2⟩ | ⟨h0, _⟩
  · exact cidFromBytes0 h h0 h1 h2
  · exact cidFromBytes1 h h0 hok
theorem cidCast {w : World} {v : Value} {b : Nat} {c : CidM} (h : Sl w v b c.bytes) (hok : c.Ok) :
    Calls Tryz.prog 168 #[v] w fun e w' => e = .returned (.tuple #[cidV c, .nilIface]) ∧ Fr [] w w' := by
  have hc := fun (w' : World) (hf : Fr [] w w') => cidFromBytes (h.fr hf (by simp)) hok
  obtain ⟨o, cp, rfl, hl2, hcb, hB⟩ := h
  have hlt := hB.lt
  go_enter Tryz.func168, Tryz.ntmps168
  go_wp2_with (first
    | go_at_call 182; refine (hc _ (by exact frP)).mono ?_; rintro e w1 ⟨rfl, hF1⟩; have hZ := hF1.blk (Blk.new (cs := [_])) (by simp); have hzc := hZ.cells; have hzf := hZ.free; have hzl := hZ.lt; replace hF1 : Fr [] w w1 := Fr.trans (S := []) (by exact frP) hF1 (by simp))
  refine bodyPost_ret (v := .tuple #[cidV c, .nilIface]) (by simp [results, Tryz.results168, go_sem, hzc, hzl]) rfl ⟨rfl, ?_⟩
  repeat (first | exact hF1 | (with_reducible refine Fr.drew ?_) | (with_reducible refine Fr.alloc ?_) | (refine Fr.setCell (.inr (Nat.le_refl _)) ?_))
end Go.Proofs.Wx

namespace Go.Proofs.Wx
open Go Go.RowKit
theorem Fr.of_grown {w w' : World} {row : Option Nat} (h : w.grownBy w' row) : Fr row.toList w w' := by
  obtain ⟨h1, h2, h3, h4, h5⟩ := h
  exact ⟨h1, h2, h3, h4, fun k hk hn => h5 k hk (fun e => hn (by simp [e]))⟩
abbrev Own (base : Nat) (w : World) (T : TypeId) (size : Nat) (v : Value) (n : Nat) (xs : List Value) : Prop := w.ownsRow base T size v n xs
theorem own_fr {base : Nat} {w w' : World} {T : TypeId} {size : Nat} {v : Value} {n : Nat} {xs : List Value} {S : List Nat} (h : w.ownsRow base T size v n xs) (hf : Fr S w w') (hS : ∀ k ∈ S, k < base ∨ v.ownBlock ≠ some k) : w'.ownsRow base T size v n xs := by
  refine ⟨h.1, ?_⟩
  rcases h.2 with h2 | ⟨g, cap, cur, rfl, hb, hg, h3⟩
  · exact .inl h2
  · refine .inr ⟨g, cap, cur, rfl, hb, ?_, h3⟩
    rw [hf.block g (Array.getElem?_eq_some_iff.1 hg).1 (fun hm => by rcases hS g hm with h | h; omega; simp [Value.ownBlock] at h)]; exact hg
/-- append of some elements to a row that the call owns. -/
theorem appOwn {o : Oper} {a : Act} {K : Act → World → Prop} {Q : Exit → Act → World → Prop} {w : World} (s x : Operand) (t : TypeId)
    (ho : o.op = .call { callee := .builtin .append, args := #[s, x], argTypes := #[t, t] })
    (base : Nat) (e : TypeId) (z : Value) (size bytes : Nat) (ht : Tryz.prog.underlying t = some (.slice e)) (hi : (Tryz.prog.info? e).map (fun i => (i.zero, i.size, i.bytes)) = some (some z, size, bytes)) (hzs : z.cells.size = size) (hsz : 0 < size)
    (v : Value) (n : Nat) (xs : List Value) (hs : a.eval s = v) (hown : w.ownsRow base e size v n xs)
    (ad : Addr) (m c : Nat) (news : List Value) (hx : a.eval x = .slice (some ad) m c) (hl : news.length = m * size) (hnews : ∀ j u, news[j]? = some u → w.cell? (ad.add j) = some u) (h1 : ∀ u ∈ news, u.oneCell' = true)
    (h63 : n + m ≤ 1000000000000) (hbytes : (n + m) * bytes ≤ 140737488355328) (hbase : base ≤ w.heap.size)
    (h : ∀ v' w', w'.ownsRow base e size v' (n + m) (xs ++ news) → Fr v.ownBlock.toList w w' → K (a.put o.dst v') w') : o.wp Tryz.prog a w K Q := by
  obtain ⟨i, hi, hz, hs2, hby⟩ := info_parts hi
  exact wp_append_own w s x t ho base e i z size bytes ht hi hz hs2 hby hzs hsz v n xs hs hown ad m c news hx hl hnews h1 (by unfold maxLen; omega) hbytes hbase fun v' w' h2 h3 _ => h v' w' h2 (Fr.of_grown h3)
/-- The block of an owned row is one of the call's own. -/
theorem own_ge {base : Nat} {w : World} {T : TypeId} {size : Nat} {v : Value} {n : Nat} {xs : List Value} (h : w.ownsRow base T size v n xs) : ∀ k ∈ v.ownBlock.toList, base ≤ k := by
  intro k hk
  rcases h.2 with ⟨rfl, _⟩ | ⟨g, cap, cur, rfl, hb, _⟩
  · simp [Value.ownBlock] at hk
  · simp [Value.ownBlock] at hk; omega
end Go.Proofs.Wx

namespace Go.Proofs.Wx
open Go Go.RowKit
abbrev oDec0 : List (Nat × Cls) := [(0,.look),(1,.free),(2,.free)]
theorem u8_and31 : ∀ b : Nat, b < 256 → bits .and .u8 (b : Int) 31 = ((b % 32 : Nat) : Int) := by
  decide +kernel
abbrev decC (z : Nat) (st : Value) (ph : Nat) (lf : Value) : List Value :=
  [.bool true, .bool false, .int .i64 0, .bool false, .bool false, .bool false, .bool false, .iface 320 (.pointer (some ⟨z, 0, none⟩)), st, .int .u8 ph, lf]
/-- d is a Decoder over the stream z. -/
abbrev DB (w : World) (d z : Nat) (st : Value) (ph : Nat) (lf : Value) : Prop := Blk w d (decC z st ph lf) 298 (0, 0)
def loB (n : Nat) : Nat := if n < 24 then n else 24
def exB (n : Nat) : List UInt8 := if n < 24 then [] else [UInt8.ofNat n]
theorem hdB_eq (M n : Nat) : hdB M n = UInt8.ofNat (M * 32 + loB n) :: exB n := by
  unfold hdB loB exB; split <;> rfl
theorem decodeUint {ea : Addr} {w : World} {d z q r sb : Nat} {st lf : Value} {ph : Nat} {xs rest : List UInt8} {i M n : Nat} (hD : DB w d z st ph lf) (h : Slk w z q r sb xs i) (hG : Gl ea w) (hdz : d ≠ z) (hdq : d ≠ q) (hdr : d ≠ r) (hx : xs.drop i = exB n ++ rest) (hM : M < 8) (hn : n < 256) :
    Calls Tryz.prog 202 #[.pointer (some ⟨d, 0, none⟩), .int .u8 (M * 32 + loB n : Nat)] w fun e w' =>
      e = .returned (.tuple #[.int .u64 n, .nilIface]) ∧ Slk w' z q r sb xs (i + (exB n).length) ∧ Fr [z, q, r] w w' := by
  have hc := hD.cells
  rcases Nat.lt_or_ge n 24 with h24 | h24
  · have e1 : loB n = n := if_pos h24
    have e2 : exB n = [] := if_pos h24
    have hv := u8_and31 (M * 32 + n) (by omega)
    rw [show (M * 32 + n) % 32 = n by omega] at hv
    rw [e1, e2]
    generalize M * 32 + n = m at *
    have hn1 : (n : Int) ≤ 23 := by omega
    go_enter Tryz.func202, Tryz.ntmps202
    go_wp2_with (first
      | (refine wre 11 oDec0 ?_)
      | (refine wre 19 oDec0 ?_)
      | (refine wre 27 oDec0 ?_)
      | (refine wre 35 oDec0 ?_)
      | (with_reducible refine wEI ?_; (first | (refine wEN ?_; skip) | (refine wEF rfl (fun K hK => ?_); go_simp) | (refine wEL rfl rfl (fun K hK => ?_); go_simp) | (refine wER rfl (fun K hK => ?_); go_simp) | (refine wEM rfl (fun K hK => ?_); go_simp; try refine ⟨_, _, ⟨rfl, rfl⟩, ?_⟩) | (refine wEG rfl (fun K hK => ?_); go_simp) | (refine wEA rfl (fun K hK => ?_); go_simp))))
    go_ret2
    exact ⟨rfl, h, Fr.refl⟩
  · have e1 : loB n = 24 := if_neg (by omega)
    have e2 : exB n = [UInt8.ofNat n] := if_neg (by omega)
    have hv := u8_and31 (M * 32 + 24) (by omega)
    rw [show (M * 32 + 24) % 32 = 24 by omega] at hv
    rw [e2] at hx
    have hi : i < xs.length := by have := congrArg List.length hx; simp at this; omega
    have hxi : xs[i].toNat = n := by
      rw [List.drop_eq_getElem_cons hi] at hx
      simp only [List.cons_append, List.nil_append, List.cons.injEq] at hx
      rw [hx.1]; simp; omega
    have hrd := slkReadn1 h hi hG
    rw [hxi] at hrd
    rw [e1, e2]
    clear hx hxi e1 e2
    generalize M * 32 + 24 = m at *
    have hzq := h.zq
    go_enter Tryz.func202, Tryz.ntmps202
    go_wp2_with (first
      | go_at_call 363; refine hrd.mono ?_; rintro e w1 ⟨rfl, hR1, hF1⟩; have hD1 := hF1.blk hD (by simp [hdz, hdq, hdr]); have hc1 := hD1.cells; clear hc
      | (refine wre 11 oDec0 ?_)
      | (refine wre 19 oDec0 ?_)
      | (refine wre 27 oDec0 ?_)
      | (refine wre 35 oDec0 ?_)
      | (with_reducible refine wEI ?_; (first | (refine wEN ?_; skip) | (refine wEF rfl (fun K hK => ?_); go_simp) | (refine wEL rfl rfl (fun K hK => ?_); go_simp) | (refine wER rfl (fun K hK => ?_); go_simp) | (refine wEM rfl (fun K hK => ?_); go_simp; try refine ⟨_, _, ⟨rfl, rfl⟩, ?_⟩) | (refine wEG rfl (fun K hK => ?_); go_simp) | (refine wEA rfl (fun K hK => ?_); go_simp))))
    go_ret2
    exact ⟨rfl, hR1, hF1⟩
theorem decodeLen {ea : Addr} {w : World} {d z q r sb : Nat} {st lf : Value} {ph : Nat} {xs rest : List UInt8} {i M n : Nat} (hD : DB w d z st ph lf) (h : Slk w z q r sb xs i) (hG : Gl ea w) (hdz : d ≠ z) (hdq : d ≠ q) (hdr : d ≠ r) (hx : xs.drop i = exB n ++ rest) (hM : M < 8) (hn : n < 256) :
    Calls Tryz.prog 206 #[.pointer (some ⟨d, 0, none⟩), .int .u8 (M * 32 + loB n : Nat)] w fun e w' =>
      e = .returned (.tuple #[.int .i64 n, .nilIface]) ∧ Slk w' z q r sb xs (i + (exB n).length) ∧ Fr [z, q, r] w w' := by
  have hu := decodeUint hD h hG hdz hdq hdr hx hM hn
  generalize M * 32 + loB n = m at *
  generalize (exB n).length = k at *
  have hn1 : (n : Int) < 256 := by omega
  go_enter Tryz.func206, Tryz.ntmps206
  go_wp2_with (first
    | go_at_call 202; refine hu.mono ?_; rintro e w1 ⟨rfl, hR1, hF1⟩)
  go_ret2
  exact ⟨rfl, hR1, hF1⟩
theorem exB_drop {xs rest : List UInt8} {i n : Nat} (hx : xs.drop i = exB n ++ rest) : xs.drop (i + (exB n).length) = rest := by
  rw [← List.drop_drop, hx]; simp
theorem decodeBytes {ea : Addr} {w : World} {d z q r sb : Nat} {st lf : Value} {ph : Nat} {xs rest : List UInt8} {i M n : Nat} (hD : DB w d z st ph lf) (h : Slk w z q r sb xs i) (hG : Gl ea w) (hdz : d ≠ z) (hdq : d ≠ q) (hdr : d ≠ r) (hx : xs.drop i = exB n ++ rest) (hM : M < 8) (hn : n < 256) (h0 : 0 < n) (hl : n ≤ rest.length) :
    Calls Tryz.prog 204 #[.pointer (some ⟨d, 0, none⟩), .int .u8 (M * 32 + loB n : Nat)] w fun e w' =>
      ∃ v b, e = .returned (.tuple #[v, .nilIface]) ∧ Slk w' z q r sb xs (i + (exB n).length + n) ∧ w.heap.size ≤ b ∧ Sl w' v b (rest.take n) ∧ Fr [z, q, r] w w' := by
  have hu := decodeLen hD h hG hdz hdq hdr hx hM hn
  have hd : xs.drop (i + (exB n).length) = rest := exB_drop hx
  have hle : i + (exB n).length + n ≤ xs.length := by have := congrArg List.length hd; simp at this; omega
  have hr := fun (w' : World) (hS : Slk w' z q r sb xs (i + (exB n).length)) (hG : Gl ea w') => slkReadn hS hle hG h0 (by omega)
  rw [hd] at hr
  clear hx hd hle
  have hge := (⟨h.hs.hr.ge, h.ge⟩ : _ ∧ _)
  generalize M * 32 + loB n = m at *
  generalize (exB n).length = k at *
  generalize rest.take n = X at *
  have hn1 : (n : Int) < 256 := by omega
  go_enter Tryz.func204, Tryz.ntmps204
  go_wp2_with (first
    | go_at_call 206; refine hu.mono ?_; rintro e w1 ⟨rfl, hR1, hF1⟩; have hD1 := hF1.blk hD (by simp [hdz, hdq, hdr]); have hc1 := hD1.cells
    | go_at_call 362; refine (hr _ hR1 (hG.fr hF1 (by simp; omega))).mono ?_; rintro e w2 ⟨v, b, rfl, hR2, hb2, hS2, hF2⟩)
  go_ret2
  have hs1 := hF1.size
  exact ⟨_, _, rfl, hR2, by omega, hS2, hF1.trans hF2 (by simp)⟩
theorem decodeString {ea : Addr} {w : World} {d z q r sb : Nat} {st lf : Value} {ph : Nat} {xs rest : List UInt8} {i M n : Nat} (hD : DB w d z st ph lf) (h : Slk w z q r sb xs i) (hG : Gl ea w) (hdz : d ≠ z) (hdq : d ≠ q) (hdr : d ≠ r) (hx : xs.drop i = exB n ++ rest) (hM : M < 8) (hn : n < 32) (h0 : 0 < n) (hl : n ≤ rest.length) :
    Calls Tryz.prog 205 #[.pointer (some ⟨d, 0, none⟩), .int .u8 (M * 32 + loB n : Nat)] w fun e w' =>
      e = .returned (.tuple #[.string ⟨(rest.take n).toArray⟩, .nilIface]) ∧ Slk w' z q r sb xs (i + (exB n).length + n) ∧ Fr [z, q, r] w w' := by
  have hu := decodeLen hD h hG hdz hdq hdr hx hM (by omega)
  have hd : xs.drop (i + (exB n).length) = rest := exB_drop hx
  have hle : i + (exB n).length + n ≤ xs.length := by have := congrArg List.length hd; simp at this; omega
  have hr := fun (w' : World) (hS : Slk w' z q r sb xs (i + (exB n).length)) (hG : Gl ea w') => slkReadnzc hS hle hG h0 hn
  have hX : (rest.take n).length = n := by simp; omega
  rw [hd] at hr
  clear hx hd hle
  have hge := (⟨h.hs.hr.ge, h.ge⟩ : _ ∧ _)
  generalize M * 32 + loB n = m at *
  generalize (exB n).length = k at *
  generalize rest.take n = X at *
  have hn1 : (n : Int) < 32 := by omega
  go_enter Tryz.func205, Tryz.ntmps205
  go_wp2_with (first
    | go_at_call 206; refine hu.mono ?_; rintro e w1 ⟨rfl, hR1, hF1⟩; have hD1 := hF1.blk hD (by simp [hdz, hdq, hdr]); have hc1 := hD1.cells
    | go_at_call 364; refine (hr _ hR1 (hG.fr hF1 (by simp; omega))).mono ?_; rintro e w2 ⟨rfl, hR2, hB2, hF2⟩; have hcv := convBack (c := 32) 55 (.inl rfl) hB2 n hX)
  go_ret2
  exact ⟨rfl, hR2, hF1.trans hF2 (by simp)⟩
end Go.Proofs.Wx

namespace Go.Proofs.Wx
open Go Go.RowKit
abbrev oDec21 : List (Nat × Cls) := [(0,.look),(1,.free),(2,.free)]
/-- append of one element that fits. -/
theorem appOne {o : Oper} {a : Act} {K : Act → World → Prop} {Q : Exit → Act → World → Prop} {w : World} (S E : TypeId) (hS : Tryz.prog.underlying S = some (.slice E)) (hi : (Tryz.prog.info? E).map (·.size) = some 1) (s x : Operand)
    (ho : o.op = .call { callee := .builtin .append, args := #[s, x], argTypes := #[S, S] })
    (g n cap : Nat) (cs : List Value) (hg : Blk w g cs E (0, 0)) (hs : a.eval s = .slice (some ⟨g, 0, none⟩) n cap)
    (ab ao c : Nat) (v : Value) (hx : a.eval x = .slice (some ⟨ab, ao, none⟩) 1 c) (hv : w.cell? ⟨ab, ao, none⟩ = some v) (h1 : v.oneCell' = true) (hroom : n + 1 ≤ cap) (hfit : n + 1 ≤ cs.length)
    (h : ∀ w', Blk w' g (cs.set n v) E (0, 0) → Fr [g] w w' → K (a.put o.dst (.slice (some ⟨g, 0, none⟩) (n + 1) cap)) w') : o.wp Tryz.prog a w K Q := by
  obtain ⟨i, hi, hsz⟩ := Option.map_eq_some_iff.1 hi
  have hr := run_append_room (P := Tryz.prog) w S o.type E i hS hi g n cap cs.toArray hg ⟨ab, ao, none⟩ 1 c [v] (by simp [hsz])
    (fun j u hu => by
      obtain ⟨rfl, rfl⟩ : j = 0 ∧ v = u := by cases j with | zero => simpa using hu | succ j => simp at hu
      rw [Addr.add_lit, Nat.add_zero]; exact hv) (by simpa using h1) hroom (by simp [hsz]; omega)
  rw [hsz, Nat.mul_one] at hr
  unfold Oper.wp execOp
  simp only [ho, resolve, invoke, builtin, Sem.run_bind, Sem.run_pure, Result.andThen_ok, List.map_toArray, List.map_cons, List.map_nil, hs, hx, hr]
  have := h _ (Blk.setRow (cs' := cs.set n v) hg) (Fr.setRow (.inl (by simp)) Fr.refl)
  rw [List.set_eq_take_append_cons_drop, if_pos (by omega)] at this
  simpa [Oper.upon] using this
theorem ph_slice : Tryz.prog.underlying 295 = some (.slice 296) := by kernel_rfl
theorem ph_size : (Tryz.prog.info? 296).map (·.size) = some 1 := by kernel_rfl
theorem int_slice : Tryz.prog.underlying 49 = some (.slice 3) := by kernel_rfl
theorem int_size : (Tryz.prog.info? 3).map (·.size) = some 1 := by kernel_rfl
theorem pushPhase {w : World} {d z sk n ph : Nat} {lf : Value} {cs : List Value} (hD : DB w d z (.slice (some ⟨sk, 0, none⟩) n 10) ph lf) (hs : Blk w sk cs 296 (0, 0)) (hl : cs.length = 10) (hn : n < 10) (hne : d ≠ sk) (p : Nat) :
    Calls Tryz.prog 201 #[.pointer (some ⟨d, 0, none⟩), .int .u8 p] w fun e w' =>
      e = .returned (.tuple #[]) ∧ DB w' d z (.slice (some ⟨sk, 0, none⟩) (n + 1) 10) p lf ∧ Blk w' sk (cs.set n (.int .u8 ph)) 296 (0, 0) ∧ Fr [d, sk] w w' := by
  have hc := hD.cells
  have hf := hD.free
  have hsl := hs.lt
  have hdl := hD.lt
  go_enter Tryz.func201, Tryz.ntmps201
  go_wp2_with (first
    | (with_reducible refine list_bi .append (fun K hK => ?_);  refine appOne _ _ ph_slice ph_size _ _ rfl sk n 10 cs (by exact blkP) rfl _ _ _ (.int .u8 ph) rfl (by simp) rfl (by omega) (by omega) (fun w1 hB1 hF1 => ?_); have hD1 := hF1.blk (b := d) (by exact blkP) (by simp [hne]); have hc1 := hD1.cells; have hf1 := hD1.free; replace hF1 : Fr [d, sk] w w1 := Fr.trans (S := [d, sk]) (by exact frP) hF1 (by simp); clear hc hf)
    | (refine wre 0 [(0,.free),(1,.free),(2,.free),(3,.free),(4,.look),(5,.free),(6,.free),(7,.free),(8,.look),(9,.make),(10,.act),(11,.free),(12,.free),(13,.act)] ?_)
    | (with_reducible refine wEI ?_; (first | (refine wEN ?_; skip) | (refine wEF rfl (fun K hK => ?_); go_simp) | (refine wEL rfl rfl (fun K hK => ?_); go_simp) | (refine wER rfl (fun K hK => ?_); go_simp) | (refine wEM rfl (fun K hK => ?_); go_simp; try refine ⟨_, _, ⟨rfl, rfl⟩, ?_⟩) | (refine wEG rfl (fun K hK => ?_); go_simp) | (refine wpE_actp rfl rfl (fun K hK => ?_); simp only [List.getElem_toArray, List.getElem_cons_succ, List.getElem_cons_zero]; (first | (with_reducible refine op_bi .append ?_;  refine appOne _ _ ph_slice ph_size _ _ rfl sk n 10 cs (by exact blkP) rfl _ _ _ (.int .u8 ph) rfl (by simp) rfl (by omega) (by omega) (fun w1 hB1 hF1 => ?_); have hD1 := hF1.blk (b := d) (by exact blkP) (by simp [hne]); have hc1 := hD1.cells; have hf1 := hD1.free; replace hF1 : Fr [d, sk] w w1 := Fr.trans (S := [d, sk]) (by exact frP) hF1 (by simp); clear hc hf))) | (refine wEA rfl (fun K hK => ?_); go_simp))))
  go_end0
  refine ⟨rfl, ?_, ?_, ?_⟩
  · exact blkP
  · exact blkP
  · exact frP

/-- d is a Decoder that stands at i of xs, in a phase; cs, cl hold its two stacks. -/
structure Dec (w : World) (d z q r sb sk lf : Nat) (xs : List UInt8) (i : Nat) (cs : List Value) (n ph : Nat) (cl : List Value) (m : Nat) : Prop where
  hd : DB w d z (.slice (some ⟨sk, 0, none⟩) n 10) ph (.slice (some ⟨lf, 0, none⟩) m 10)
  hs : Slk w z q r sb xs i
  hk : Blk w sk cs 296 (0, 0)
  hl : Blk w lf cl 3 (0, 0)
  lk : cs.length = 10
  ll : cl.length = 10
  dn : d ≠ z ∧ d ≠ q ∧ d ≠ r ∧ d ≠ sb ∧ d ≠ sk ∧ d ≠ lf
  sn : sk ≠ z ∧ sk ≠ q ∧ sk ≠ r ∧ sk ≠ sb ∧ sk ≠ lf
  ln : lf ≠ z ∧ lf ≠ q ∧ lf ≠ r ∧ lf ≠ sb
  ge : 26 ≤ d ∧ 26 ≤ sk ∧ 26 ≤ lf
/-- t is none of the decoder's blocks. -/
def Off (t d z q r sb sk lf : Nat) : Prop := t ≠ d ∧ t ≠ z ∧ t ≠ q ∧ t ≠ r ∧ t ≠ sb ∧ t ≠ sk ∧ t ≠ lf ∧ 26 ≤ t
section
variable {w w' : World} {d z q r sb sk lf : Nat} {xs : List UInt8} {i : Nat} {cs : List Value} {n ph : Nat} {cl : List Value} {m : Nat}
theorem Dec.fr {S : List Nat} (h : Dec w d z q r sb sk lf xs i cs n ph cl m) (hf : Fr S w w') (h1 : ∀ k ∈ S, k ≠ d ∧ k ≠ z ∧ k ≠ q ∧ k ≠ r ∧ k ≠ sb ∧ k ≠ sk ∧ k ≠ lf) : Dec w' d z q r sb sk lf xs i cs n ph cl m := by
  obtain ⟨hd, hs, hk, hl, a1, a2, a3, a4, a5, a6⟩ := h
  have o : ∀ x, (x = d ∨ x = z ∨ x = q ∨ x = r ∨ x = sb ∨ x = sk ∨ x = lf) → x ∉ S := fun x hx hm => by have := h1 x hm; omega
  exact ⟨hf.blk hd (o _ (by simp)), hs.fr hf (o _ (by simp)) (o _ (by simp)) (o _ (by simp)) (o _ (by simp)), hf.blk hk (o _ (by simp)), hf.blk hl (o _ (by simp)), a1, a2, a3, a4, a5, a6⟩
/-- What reads of the stream leaves. -/
theorem Dec.read {j : Nat} (h : Dec w d z q r sb sk lf xs i cs n ph cl m) (hs : Slk w' z q r sb xs j) (hf : Fr [z, q, r] w w') : Dec w' d z q r sb sk lf xs j cs n ph cl m := by
  obtain ⟨hd, _, hk, hl, a, b, e, f, g, l⟩ := h
  exact ⟨hf.blk hd (by simp [e]), hs, hf.blk hk (by simp [f]), hf.blk hl (by simp [g]), a, b, e, f, g, l⟩
end
abbrev tk (fz : Value) (ty len : Nat) (str bs : Value) (u : Nat) (tg : Bool) (tag : Nat) : List Value :=
  [.int .u8 ty, .int .i64 len, str, bs, .bool false, .int .i64 0, .int .u64 u, fz, .bool tg, .int .i64 tag]
theorem loB_le (n : Nat) : loB n ≤ 24 := by unfold loB; split <;> omega
theorem hlpBytes {ea : Addr} {w : World} {d z q r sb sk lf t : Nat} {xs rest : List UInt8} {i k : Nat} {cs : List Value} {n ph : Nat} {cl : List Value} {m : Nat} {fz str bs : Value} {ty len u tag : Nat} {tg : Bool}
    (h : Dec w d z q r sb sk lf xs i cs n ph cl m) (ht : Blk w t (tk fz ty len str bs u tg tag) 264 (0, 0)) (ho : Off t d z q r sb sk lf) (hG : Gl ea w)
    (hx : xs.drop i = exB k ++ rest) (hk : k < 256) (h0 : 0 < k) (hl : k ≤ rest.length) :
    Calls Tryz.prog 181 #[.pointer (some ⟨d, 0, none⟩), .int .u8 (2 * 32 + loB k : Nat), .pointer (some ⟨t, 0, none⟩)] w fun e w' =>
      ∃ v b, e = .returned (.tuple #[.bool true, .nilIface]) ∧ Dec w' d z q r sb sk lf xs (i + (exB k).length + k) cs n ph cl m ∧ w.heap.size ≤ b ∧ Sl w' v b (rest.take k) ∧ Blk w' t (tk fz 120 len str v u tg tag) 264 (0, 0) ∧ Fr [z, q, r, t] w w' := by
  obtain ⟨o1, o2, o3, o4, o5, o6, o7, o8⟩ := ho
  have hge := (⟨h.hs.hs.hr.ge, h.hs.ge⟩ : _ ∧ _)
  have hrd := fun (w' : World) (hf : Fr [t] w w') => decodeBytes (M := 2) (hf.blk h.hd (by simp [Ne.symm o1])) (h.hs.fr hf (by simp [Ne.symm o2]) (by simp [Ne.symm o3]) (by simp [Ne.symm o4]) (by simp [Ne.symm o5])) (hG.fr hf (by simp; omega)) h.dn.1 h.dn.2.1 h.dn.2.2.1 hx (by omega) hk h0 hl
  have hlo := loB_le k
  have hm1 : (64 : Int) ≤ ((2 * 32 + loB k : Nat) : Int) := by omega
  have hm2 : ((2 * 32 + loB k : Nat) : Int) ≤ 88 := by omega
  clear hlo hx
  generalize 2 * 32 + loB k = mb at *
  generalize i + (exB k).length + k = j at *
  generalize rest.take k = X at *
  have hc := ht.cells
  have hf := ht.free
  go_enter Tryz.func181, Tryz.ntmps181
  go_wp2_with (first
    | go_at_call 204; refine (hrd _ (by exact frP)).mono ?_; rintro e w1 ⟨v, b, rfl, hR1, hb1, hS1, hF1⟩; have hSv := hS1; obtain ⟨ov, cv, rfl, hl1, hcb1, hB1⟩ := hS1; have hT1 := hF1.blk (b := t) (by exact blkP) (by simp [o2, o3, o4]); have hc1 := hT1.cells; have hf1 := hT1.free; clear hc hf
    | (refine wre 66 oDec21 ?_)
    | (refine wre 72 oDec21 ?_)
    | (refine wre 78 oDec21 ?_)
    | (refine wre 84 oDec21 ?_)
    | (refine wre 91 oDec21 ?_)
    | (with_reducible refine wEI ?_; (first | (refine wEN ?_; skip) | (refine wEF rfl (fun K hK => ?_); go_simp) | (refine wEL rfl rfl (fun K hK => ?_); go_simp) | (refine wER rfl (fun K hK => ?_); go_simp) | (refine wEM rfl (fun K hK => ?_); go_simp; try refine ⟨_, _, ⟨rfl, rfl⟩, ?_⟩) | (refine wEG rfl (fun K hK => ?_); go_simp) | (refine wEA rfl (fun K hK => ?_); go_simp))))
  go_ret2
  have hb2 : w.heap.size ≤ b := by simpa [World.setCell] using hb1
  have hbt : b ≠ t := by have := ht.lt; omega
  have hD1 := (h.fr (S := [t]) (w' := w.setCell ⟨t, 0, none⟩ (.int .u8 120)) (by exact frP) (by simp [o1, o2, o3, o4, o5, o6, o7])).read hR1 hF1
  refine ⟨_, b, rfl, hD1.fr (S := [t]) (by exact frP) (by simp [o1, o2, o3, o4, o5, o6, o7]), hb2, hSv.fr (S := [t]) (by exact frP) (by simp [hbt]), ?_, ?_⟩
  · exact blkP
  · exact Fr.setCell (by simp) (Fr.trans (S := [z, q, r, t]) (by exact frP) hF1 (by simp))

theorem hlpUint {ea : Addr} {w : World} {d z q r sb sk lf t : Nat} {xs rest : List UInt8} {i k : Nat} {cs : List Value} {n ph : Nat} {cl : List Value} {m : Nat} {fz str bs : Value} {ty len u tag : Nat} {tg : Bool}
    (h : Dec w d z q r sb sk lf xs i cs n ph cl m) (ht : Blk w t (tk fz ty len str bs u tg tag) 264 (0, 0)) (ho : Off t d z q r sb sk lf) (hG : Gl ea w)
    (hx : xs.drop i = exB k ++ rest) (hk : k < 256) :
    Calls Tryz.prog 181 #[.pointer (some ⟨d, 0, none⟩), .int .u8 (0 * 32 + loB k : Nat), .pointer (some ⟨t, 0, none⟩)] w fun e w' =>
      e = .returned (.tuple #[.bool true, .nilIface]) ∧ Dec w' d z q r sb sk lf xs (i + (exB k).length) cs n ph cl m ∧ Blk w' t (tk fz 117 len str bs k tg tag) 264 (0, 0) ∧ Fr [z, q, r, t] w w' := by
  obtain ⟨o1, o2, o3, o4, o5, o6, o7, o8⟩ := ho
  have hge := (⟨h.hs.hs.hr.ge, h.hs.ge⟩ : _ ∧ _)
  have hrd := fun (w' : World) (hf : Fr [t] w w') => decodeUint (M := 0) (hf.blk h.hd (by simp [Ne.symm o1])) (h.hs.fr hf (by simp [Ne.symm o2]) (by simp [Ne.symm o3]) (by simp [Ne.symm o4]) (by simp [Ne.symm o5])) (hG.fr hf (by simp; omega)) h.dn.1 h.dn.2.1 h.dn.2.2.1 hx (by omega) hk
  have hlo := loB_le k
  have hm2 : ((0 * 32 + loB k : Nat) : Int) ≤ 24 := by omega
  clear hlo hx
  generalize 0 * 32 + loB k = mb at *
  generalize i + (exB k).length = j at *
  have hc := ht.cells
  have hf := ht.free
  go_enter Tryz.func181, Tryz.ntmps181
  go_wp2_with (first
    | go_at_call 202; refine (hrd _ (by exact frP)).mono ?_; rintro e w1 ⟨rfl, hR1, hF1⟩; have hT1 := hF1.blk (b := t) (by exact blkP) (by simp [o2, o3, o4]); have hc1 := hT1.cells; have hf1 := hT1.free; clear hc hf
    | (refine wre 66 oDec21 ?_)
    | (refine wre 72 oDec21 ?_)
    | (refine wre 78 oDec21 ?_)
    | (refine wre 84 oDec21 ?_)
    | (refine wre 91 oDec21 ?_)
    | (with_reducible refine wEI ?_; (first | (refine wEN ?_; skip) | (refine wEF rfl (fun K hK => ?_); go_simp) | (refine wEL rfl rfl (fun K hK => ?_); go_simp) | (refine wER rfl (fun K hK => ?_); go_simp) | (refine wEM rfl (fun K hK => ?_); go_simp; try refine ⟨_, _, ⟨rfl, rfl⟩, ?_⟩) | (refine wEG rfl (fun K hK => ?_); go_simp) | (refine wEA rfl (fun K hK => ?_); go_simp))))
  go_ret2
  have hD1 := (h.fr (S := [t]) (w' := w.setCell ⟨t, 0, none⟩ (.int .u8 117)) (by exact frP) (by simp [o1, o2, o3, o4, o5, o6, o7])).read hR1 hF1
  refine ⟨rfl, hD1.fr (S := [t]) (by exact frP) (by simp [o1, o2, o3, o4, o5, o6, o7]), ?_, ?_⟩
  · exact blkP
  · exact Fr.setCell (by simp) (Fr.trans (S := [z, q, r, t]) (by exact frP) hF1 (by simp))
theorem hlpString {ea : Addr} {w : World} {d z q r sb sk lf t : Nat} {xs rest : List UInt8} {i k : Nat} {cs : List Value} {n ph : Nat} {cl : List Value} {m : Nat} {fz str bs : Value} {ty len u tag : Nat} {tg : Bool}
    (h : Dec w d z q r sb sk lf xs i cs n ph cl m) (ht : Blk w t (tk fz ty len str bs u tg tag) 264 (0, 0)) (ho : Off t d z q r sb sk lf) (hG : Gl ea w)
    (hx : xs.drop i = exB k ++ rest) (hk : k < 32) (h0 : 0 < k) (hl : k ≤ rest.length) :
    Calls Tryz.prog 181 #[.pointer (some ⟨d, 0, none⟩), .int .u8 (3 * 32 + loB k : Nat), .pointer (some ⟨t, 0, none⟩)] w fun e w' =>
      e = .returned (.tuple #[.bool true, .nilIface]) ∧ Dec w' d z q r sb sk lf xs (i + (exB k).length + k) cs n ph cl m ∧ Blk w' t (tk fz 115 len (.string ⟨(rest.take k).toArray⟩) bs u tg tag) 264 (0, 0) ∧ Fr [z, q, r, t] w w' := by
  obtain ⟨o1, o2, o3, o4, o5, o6, o7, o8⟩ := ho
  have hge := (⟨h.hs.hs.hr.ge, h.hs.ge⟩ : _ ∧ _)
  have hrd := fun (w' : World) (hf : Fr [t] w w') => decodeString (M := 3) (hf.blk h.hd (by simp [Ne.symm o1])) (h.hs.fr hf (by simp [Ne.symm o2]) (by simp [Ne.symm o3]) (by simp [Ne.symm o4]) (by simp [Ne.symm o5])) (hG.fr hf (by simp; omega)) h.dn.1 h.dn.2.1 h.dn.2.2.1 hx (by omega) hk h0 hl
  have hlo := loB_le k
  have hm1 : (96 : Int) ≤ ((3 * 32 + loB k : Nat) : Int) := by omega
  have hm2 : ((3 * 32 + loB k : Nat) : Int) ≤ 120 := by omega
  clear hlo hx
  generalize 3 * 32 + loB k = mb at *
  generalize i + (exB k).length + k = j at *
  generalize rest.take k = X at *
  have hc := ht.cells
  have hf := ht.free
  go_enter Tryz.func181, Tryz.ntmps181
  go_wp2_with (first
    | go_at_call 205; refine (hrd _ (by exact frP)).mono ?_; rintro e w1 ⟨rfl, hR1, hF1⟩; have hT1 := hF1.blk (b := t) (by exact blkP) (by simp [o2, o3, o4]); have hc1 := hT1.cells; have hf1 := hT1.free; clear hc hf
    | (refine wre 66 oDec21 ?_)
    | (refine wre 72 oDec21 ?_)
    | (refine wre 78 oDec21 ?_)
    | (refine wre 84 oDec21 ?_)
    | (refine wre 91 oDec21 ?_)
    | (with_reducible refine wEI ?_; (first | (refine wEN ?_; skip) | (refine wEF rfl (fun K hK => ?_); go_simp) | (refine wEL rfl rfl (fun K hK => ?_); go_simp) | (refine wER rfl (fun K hK => ?_); go_simp) | (refine wEM rfl (fun K hK => ?_); go_simp; try refine ⟨_, _, ⟨rfl, rfl⟩, ?_⟩) | (refine wEG rfl (fun K hK => ?_); go_simp) | (refine wEA rfl (fun K hK => ?_); go_simp))))
  go_ret2
  have hD1 := (h.fr (S := [t]) (w' := w.setCell ⟨t, 0, none⟩ (.int .u8 115)) (by exact frP) (by simp [o1, o2, o3, o4, o5, o6, o7])).read hR1 hF1
  refine ⟨rfl, hD1.fr (S := [t]) (by exact frP) (by simp [o1, o2, o3, o4, o5, o6, o7]), ?_, ?_⟩
  · exact blkP
  · exact Fr.setCell (by simp) (Fr.trans (S := [z, q, r, t]) (by exact frP) hF1 (by simp))
end Go.Proofs.Wx
