import Derived.Test.YtgbfgjhndkkncaaGreatDoorM2
set_option maxRecDepth 100000
set_option maxHeartbeats 1000000
set_option linter.unusedVariables false
set_option linter.unusedSimpArgs false
namespace Go.Proofs.Wx
open Go Go.RowKit
abbrev oMh2 : List (Nat × Cls) := [(0,.free),(1,.free),(2,.free),(3,.free),(4,.free),(5,.free),(6,.free)]
/-- A slice that reads as these bytes, in block b. -/
def Sl (w : World) (v : Value) (b : Nat) (xs : List UInt8) : Prop := ∃ o c, v = .slice (some ⟨b, o, none⟩) xs.length c ∧ xs.length ≤ c ∧ (xs.length < 1000000000000 ∧ c ≤ 9223372036854775807) ∧ Bs w b o xs
theorem Sl.fr {w w' : World} {v : Value} {b : Nat} {xs : List UInt8} {S : List Nat} (h : Sl w v b xs) (hf : Fr S w w') (hn : b ∉ S) : Sl w' v b xs := by
  obtain ⟨o, c, h1, h2, h3, h4⟩ := h; exact ⟨o, c, h1, h2, h3, h4.fr hf hn⟩
theorem Sl.back {w w' : World} {v : Value} {b : Nat} {xs : List UInt8} {S : List Nat} (h : Sl w' v b xs) (hf : Fr S w w') (hb : b < w.heap.size) (hn : b ∉ S) : Sl w v b xs := by
  obtain ⟨o, c, h1, h2, h3, h4⟩ := h
  exact ⟨o, c, h1, h2, h3, hb, fun k hk => by rw [← World.cell?_of_block (w := w) (hf.block b hb hn)]; exact h4.cell k hk⟩
theorem Sl.drop {w : World} {b o c k : Nat} {xs : List UInt8} (h4 : Bs w b o xs) (h2 : xs.length ≤ c) (h3 : xs.length < 1000000000000 ∧ c ≤ 9223372036854775807) (hk : k ≤ xs.length) :
    Sl w (.slice (if c = k then some ⟨b, o, none⟩ else some ⟨b, o + k, none⟩) (xs.length - k) (c - k)) b (xs.drop k) := by
  by_cases hc : c = k
  · refine ⟨o, c - k, by simp [hc], by simp; omega, by simp; omega, ⟨h4.lt, fun j hj => ?_⟩⟩
    simp at hj; omega
  · exact ⟨o + k, c - k, by simp [hc], by simp; omega, by simp; omega, h4.drop k⟩
theorem Sl.lt {w : World} {v : Value} {b : Nat} {xs : List UInt8} (h : Sl w v b xs) : b < w.heap.size := by obtain ⟨o, c, h1, h2, h3, h4⟩ := h; exact h4.lt
def fuRel (xs : List UInt8) (n : Nat) (rest : List UInt8) (x s i : Value) : Prop :=
  ∃ k q m : Nat, k ≤ 8 ∧ i = .int .i64 k ∧ s = .int .u64 (7 * k : Nat) ∧ x = .int .u64 (q : Nat) ∧ UvAt n k q m ∧ (k = 0 ∨ 0 < m) ∧ xs.drop k = Lib.uvarint m ++ rest ∧
    (Lib.uvarint n).length = k + (Lib.uvarint m).length
theorem fromUvarint {w : World} {v : Value} {b n : Nat} {xs rest : List UInt8} (h : Sl w v b xs) (hn : n < 9223372036854775808) (hx : xs = Lib.uvarint n ++ rest) :
    Calls Tryz.prog 183 #[v] w fun e w' => e = .returned (.tuple #[.int .u64 n, .int .i64 (Lib.uvarint n).length, .nilIface]) ∧ w = w' := by
  obtain ⟨o, c, rfl, hl, hcb, hB⟩ := h
  have hx' : xs.drop 0 = Lib.uvarint n ++ rest := by simpa using hx
  clear hx
  have hlen : xs.length < 1000000000000 := by omega
  go_enter Tryz.func183, Tryz.ntmps183
  go_wp2_with fail
  go_loop [5, 6, 11] (fun x s i => fuRel xs n rest x s i) (fun _ s _ => 100 - (intOf s).toNat)
  case atStart => exact ⟨0, 0, n, by omega, rfl, rfl, rfl, UvAt.start n, .inl rfl, hx', by simp⟩
  case round =>
    clear hx'
    obtain ⟨k, q, m, hk, rfl, rfl, rfl, hu, hm0, hxk, hl⟩ := hrel
    obtain ⟨hlt, hb⟩ := uv_bound hxk
    have hc := hB.cell k hlt
    have hu1 := hu.last hn
    have hu2 := hu.next hn
    have hst := hu.step
    have hsm := hu.small hn
    by_cases hm : m < 128
    · rw [if_pos hm] at hb
      obtain ⟨hb1, hb2, hb3⟩ := hb
      rw [hb1] at hc
      have Hl := Lib.hid (show k + 1 = (Lib.uvarint n).length by omega)
      have Hu := Lib.hid hu1
      clear hxk hl hb1 hb2 hb3 hu1 hu2 hst hu hsm
      rcases Nat.lt_or_ge k 8 with hk8 | hk8
      · have h56 : ¬ ((k : Int) = 8) := by omega
        have h56' : (k : Int) < 9 := by omega
        go_wp2
        all_goals
          go_ret3
          refine ⟨?_, rfl⟩
          rw [← Hl.out]
          first
            | (simp [Hu.out]; done)
            | (have h0 : m = 0 := by assumption
               have h2 := Hu.out
               simp [h0, show IntKind.u64.wrap 0 = 0 by rfl] at h2
               simp [h2]; done)
      · obtain rfl : k = 8 := by omega
        have hm00 : ¬ m = 0 := by omega
        go_wp2
        go_ret3
        have := Hu.out
        refine ⟨?_, rfl⟩
        rw [← Hl.out]
        rw [IntWalk.u64_in _ (by omega)] at this
        simpa using this
    · rw [if_neg hm] at hb
      obtain ⟨hb1, hb2, hb3⟩ := hb
      rw [hb1] at hc
      have hk7 := hsm (by omega)
      have Hl := Lib.hid (show (Lib.uvarint n).length = k + 1 + (Lib.uvarint (m / 128)).length by omega)
      have Hx := Lib.hid hb2
      have Hu := Lib.hid hu2
      have Hst := Lib.hid hst
      have hlo : m % 128 + 128 < 256 := by omega
      have hlo' : 128 ≤ m % 128 + 128 := by omega
      have Hr : Hid ((m % 128 + 128) % 128 = m % 128) := Lib.hid (by omega)
      generalize m % 128 + 128 = b at *
      have h56 : (k : Int) < 8 := by omega
      clear hxk hl hb1 hb2 hb3 hu1 hu2 hst hu hsm
      go_wp2
      all_goals
        go_round
        case rel =>
          refine ⟨k + 1, _, m / 128, by omega, by go_num, by go_num, ?_, Hst.out, .inr (by omega), Hx.out, Hl.out⟩
          rw [← Hu.out, ← Hr.out, ← and127 b hlo]
        case measure => simp [intOf]; omega
theorem Sl.drew {w : World} {v : Value} {b : Nat} {xs : List UInt8} (h : Sl w v b xs) : Sl w.drew v b xs := h.fr (S := []) (Fr.drew Fr.refl) (by simp)
theorem Sl.take {w : World} {b o c k : Nat} {xs : List UInt8} (h4 : Bs w b o xs) (h2 : xs.length ≤ c) (h3 : xs.length < 1000000000000 ∧ c ≤ 9223372036854775807) (hk : k ≤ xs.length) :
    Sl w (.slice (some ⟨b, o, none⟩) k c) b (xs.take k) := ⟨o, c, by simp; omega, by simp; omega, by simp; omega, h4.take k⟩
theorem Sl.mk {w : World} {b o c n : Nat} {xs : List UInt8} (h4 : Bs w b o xs) (h2 : xs.length ≤ c) (h3 : xs.length < 1000000000000 ∧ c ≤ 9223372036854775807) (hn : xs.length = n) :
    Sl w (.slice (some ⟨b, o, none⟩) n c) b xs := ⟨o, c, by rw [hn], h2, h3, h4⟩
theorem mhUvarint {w : World} {v : Value} {b n : Nat} {xs rest : List UInt8} (h : Sl w v b xs) (hn : n < 9223372036854775808) (hx : xs = Lib.uvarint n ++ rest) :
    Calls Tryz.prog 170 #[v] w fun e w' => ∃ v', e = .returned (.tuple #[.int .u64 n, v', .nilIface]) ∧ Sl w v' b rest ∧ w' = w.drew := by
  have hc := fromUvarint h hn hx
  obtain ⟨o, c, rfl, hl, hcb, hB⟩ := h
  have hp := Lib.uvarint_pos n
  have hle : (Lib.uvarint n).length ≤ xs.length := by rw [hx]; simp
  have hd : xs.drop (Lib.uvarint n).length = rest := by rw [hx]; simp
  have hS := Sl.drop hB hl hcb hle
  rw [hd] at hS
  have HS := Lib.hid hS
  clear hS hx hd
  have hlen : xs.length < 1000000000000 := by omega
  generalize (Lib.uvarint n).length = k at *
  have hk : ¬ ((k : Int) = 0) := by omega
  have hk' : 0 ≤ (k : Int) := by omega
  go_enter Tryz.func170, Tryz.ntmps170
  go_wp2_with (first
    | go_at_call 183; refine hc.mono ?_; rintro e w1 ⟨rfl, rfl⟩
    | (refine wre 5 [(0,.free),(1,.free),(2,.look),(3,.free),(4,.free),(5,.free)] ?_)
    | (refine wre 7 [(0,.free),(1,.free),(2,.free),(3,.free),(4,.free),(5,.look),(6,.free),(7,.free),(8,.free)] ?_)
    | (refine wre 8 oMh2 ?_)
    | (with_reducible refine wEI ?_; (first | (refine wEN ?_; skip) | (refine wEF rfl (fun K hK => ?_); go_simp) | (refine wEL rfl rfl (fun K hK => ?_); go_simp) | (refine wER rfl (fun K hK => ?_); go_simp) | (refine wEM rfl (fun K hK => ?_); go_simp; try refine ⟨_, _, ⟨rfl, rfl⟩, ?_⟩) | (refine wEG rfl (fun K hK => ?_); go_simp) | (refine wEA rfl (fun K hK => ?_); go_simp))))
  all_goals
    go_ret3
    refine ⟨_, rfl, ?_, rfl⟩
    have h1 := HS.out
    first | (simpa using h1; done) | (simpa [*] using h1; done)
theorem readMh {w : World} {v : Value} {b code : Nat} {xs dig rest : List UInt8} (h : Sl w v b xs) (hn : code < 9223372036854775808) (hx : xs = mhB code dig ++ rest) (hd : dig.length < 2147483647) :
    Calls Tryz.prog 134 #[v] w fun e w' => ∃ v', e = .returned (.tuple #[.int .i64 (mhB code dig).length, .int .u64 code, v', .nilIface]) ∧ Sl w v' b dig ∧ w' = w.drew.drew.drew := by
  have hx' : xs = Lib.uvarint code ++ (Lib.uvarint dig.length ++ (dig ++ rest)) := by rw [hx]; simp [mhB]
  have h2 := mhB_two code dig
  have hxl : xs.length = (mhB code dig).length + rest.length := by rw [hx]; simp
  have hlm : (mhB code dig).length = (Lib.uvarint code).length + ((Lib.uvarint dig.length).length + dig.length) := by simp [mhB]
  have hc := mhUvarint h hn hx'
  obtain ⟨o, c, rfl, hl, hcb, hB⟩ := h
  have hc2 := fun w v (h : Sl w v b (Lib.uvarint dig.length ++ (dig ++ rest))) => mhUvarint (n := dig.length) h (by omega) rfl
  have Hxl := Lib.hid hxl
  have Hlm := Lib.hid hlm
  have hlen : xs.length < 1000000000000 := by omega
  have hge : 2 ≤ xs.length := by omega
  have hge' : (mhB code dig).length ≤ xs.length := by omega
  clear hx hx' hxl hlm
  generalize (mhB code dig).length = M at *
  go_enter Tryz.func134, Tryz.ntmps134
  go_wp2_with fail
  refine hc.mono ?_; rintro e w1 ⟨v1, rfl, hS1, rfl⟩
  go_wp2_with fail
  refine (hc2 _ _ hS1.drew).mono ?_; rintro e w1 ⟨v2, rfl, hS2, rfl⟩
  obtain ⟨o2, c2, rfl, hl2, hcb2, hB2⟩ := hS2
  have ht : Sl w (.slice (some ⟨b, o2, none⟩) dig.length c2) b dig := by
    have := Sl.take (k := dig.length) hB2 hl2 hcb2 (by simp)
    simpa using this.fr (S := []) (w' := w) ⟨rfl, rfl, rfl, Nat.le_refl _, fun _ _ _ => rfl⟩ (by simp)
  have Ht := Lib.hid ht
  have hlc : (dig ++ rest).length = dig.length + rest.length := by simp
  rw [hlc] at hl2
  simp only [hlc]
  have hMl : (xs.length : Int) - ((dig.length : Int) + rest.length) + dig.length = M := by have := Hxl.out; have := Hlm.out; omega
  have HMl := Lib.hid hMl
  clear ht hlc hB2 hc hc2 hMl
  go_wp2_with (first
    | (refine wre 3 [(0,.look),(1,.free),(2,.free),(3,.free),(4,.free)] ?_)
    | (refine wre 17 [(0,.free),(1,.free),(2,.free),(3,.free),(4,.free),(5,.free),(6,.free),(7,.free),(8,.free)] ?_)
    | (with_reducible refine wEI ?_; (first | (refine wEN ?_; skip) | (refine wEF rfl (fun K hK => ?_); go_simp) | (refine wEL rfl rfl (fun K hK => ?_); go_simp) | (refine wER rfl (fun K hK => ?_); go_simp) | (refine wEM rfl (fun K hK => ?_); go_simp; try refine ⟨_, _, ⟨rfl, rfl⟩, ?_⟩) | (refine wEG rfl (fun K hK => ?_); go_simp) | (refine wEA rfl (fun K hK => ?_); go_simp))))
  refine bodyPost_ret (results_tmp4 rfl _ _ _) rfl ⟨_, ?_, Ht.out, rfl⟩
  rw [← HMl.out]; rfl
theorem mhFromBytes {w : World} {v : Value} {b code : Nat} {xs dig rest : List UInt8} (h : Sl w v b xs) (hn : code < 9223372036854775808) (hx : xs = mhB code dig ++ rest) (hd : dig.length < 2147483647) :
    Calls Tryz.prog 109 #[v] w fun e w' => ∃ v', e = .returned (.tuple #[.int .i64 (mhB code dig).length, v', .nilIface]) ∧ Fr [] w w' := by
  have hc := readMh h hn hx hd
  have hl : (mhB code dig).length ≤ xs.length := by rw [hx]; simp
  obtain ⟨o, c, rfl, hl2, hcb, hB⟩ := h
  clear hx
  generalize (mhB code dig).length = M at *
  go_enter Tryz.func109, Tryz.ntmps109
  go_wp2_with (first
    | go_at_call 134; refine hc.mono ?_; rintro e w1 ⟨v1, rfl, hS1, rfl⟩
    | (refine wre 4 oMh2 ?_)
    | (with_reducible refine wEI ?_; (first | (refine wEN ?_; skip) | (refine wEF rfl (fun K hK => ?_); go_simp) | (refine wEL rfl rfl (fun K hK => ?_); go_simp) | (refine wER rfl (fun K hK => ?_); go_simp) | (refine wEM rfl (fun K hK => ?_); go_simp; try refine ⟨_, _, ⟨rfl, rfl⟩, ?_⟩) | (refine wEG rfl (fun K hK => ?_); go_simp) | (refine wEA rfl (fun K hK => ?_); go_simp))))
  go_ret3
  exact ⟨_, rfl, by exact frP⟩
/-- multihash.Decode of the bytes of one multihash. -/
def DmAt (w : World) (p : Nat) (code : Nat) (b : Nat) (dig : List UInt8) : Prop := ∃ v, Blk w p [.int .u64 code, .string ⟨#[]⟩, .int .i64 dig.length, v] 302 (0, 0) ∧ Sl w v b dig
theorem mhDecode {w : World} {v : Value} {b code : Nat} {dig : List UInt8} (h : Sl w v b (mhB code dig)) (hn : code < 9223372036854775808) (hd : dig.length < 2147483647) :
    Calls Tryz.prog 169 #[v] w fun e w' => ∃ v', e = .returned (.tuple #[.agg #[.int .u64 code, .string ⟨#[]⟩, .int .i64 dig.length, v'], .nilIface]) ∧ Sl w' v' b dig ∧ Fr [] w w' := by
  have hc := fun w' (h : Sl w' v b (mhB code dig)) => readMh (rest := []) h hn (by simp) hd
  have hal := fun (ob : Obj) => h.fr (S := []) (w' := w.alloc ob) (by exact frP) (by simp)
  obtain ⟨o, c, rfl, hl2, hcb, hB⟩ := h
  generalize (mhB code dig).length = M at *
  go_enter Tryz.func169, Tryz.ntmps169
  go_wp2_with (first
    | go_at_call 134; refine (hc _ (hal _)).mono ?_; rintro e w1 ⟨v1, rfl, hS1, rfl⟩; have hS2 := hS1; obtain ⟨o1, c1, rfl, hl1, hcb1, hB1⟩ := hS1)
  refine bodyPost_ret (v := .tuple #[.agg #[.int .u64 code, .string ⟨#[]⟩, .int .i64 dig.length, .slice (some ⟨b, o1, none⟩) dig.length c1], .nilIface]) (by simp [results, Tryz.results169, go_sem]) rfl ⟨_, rfl, ?_, ?_⟩
  · exact (hS2.back (w := w) (S := []) (by exact frP) hB.lt (by simp)).fr (S := []) (by exact frP) (by simp)
  · exact frP
theorem mhDecodeP {w : World} {v : Value} {b code : Nat} {dig : List UInt8} (h : Sl w v b (mhB code dig)) (hn : code < 9223372036854775808) (hd : dig.length < 2147483647) :
    Calls Tryz.prog 133 #[v] w fun e w' => ∃ p, e = .returned (.tuple #[.pointer (some ⟨p, 0, none⟩), .nilIface]) ∧ w.heap.size ≤ p ∧ DmAt w' p code b dig ∧ Fr [] w w' := by
  have hc := mhDecode h hn hd
  have hlt := h.lt
  go_enter Tryz.func133, Tryz.ntmps133
  go_wp2_with (first
    | go_at_call 169; refine hc.mono ?_; rintro e w1 ⟨v1, rfl, hS1, hF1⟩; have hS2 := hS1; obtain ⟨o1, c1, rfl, hl1, hcb1, hB1⟩ := hS1)
  go_ret2
  refine ⟨_, rfl, hF1.size, ?_, ?_⟩
  · exact ⟨_, Blk.new (cs := [_, _, _, _]), hS2.fr (S := []) (by exact frP) (by simp)⟩
  · exact frP
theorem mhCast {w : World} {v : Value} {b code : Nat} {dig : List UInt8} (h : Sl w v b (mhB code dig)) (hn : code < 9223372036854775808) (hd : dig.length < 2147483647) :
    Calls Tryz.prog 108 #[v] w fun e w' => e = .returned (.tuple #[v, .nilIface]) ∧ Fr [] w w' := by
  have hc := mhDecodeP h hn hd
  obtain ⟨o, c, rfl, hl2, hcb, hB⟩ := h
  generalize (mhB code dig).length = M at *
  go_enter Tryz.func108, Tryz.ntmps108
  go_wp2_with (first
    | go_at_call 133; refine hc.mono ?_; rintro e w1 ⟨p, rfl, hp, hS1, hF1⟩)
  go_ret2
  exact ⟨rfl, hF1⟩
end Go.Proofs.Wx

namespace Go.Proofs.Wx
open Go Go.RowKit
@[go_sem] theorem eql_nil_err (a : Addr) (w : World) : (binOp .eql 61 .nilIface (.iface 193 (.pointer (some a)))).run Tryz.prog w = .ok (.bool false) w := by kernel_rfl
@[go_sem] theorem ahead_shared_readerToScanner_Read (a : Addr) (w : World) : (nilAhead 560 321 (.pointer (some a)) "Read").run Tryz.prog w = .ok (some false) w := by kernel_rfl
@[go_sem] theorem meth_shared_readerToScanner_Read (a : Addr) (w : World) : (method 560 321 (.pointer (some a)) "Read").run Tryz.prog w = .ok (369, .pointer (some a)) w := by kernel_rfl
@[go_sem] theorem ahead_shared_readerToScanner_ReadByte (a : Addr) (w : World) : (nilAhead 560 321 (.pointer (some a)) "ReadByte").run Tryz.prog w = .ok (some false) w := by kernel_rfl
@[go_sem] theorem meth_shared_readerToScanner_ReadByte (a : Addr) (w : World) : (method 560 321 (.pointer (some a)) "ReadByte").run Tryz.prog w = .ok (370, .pointer (some a)) w := by kernel_rfl
/-- q is a readerToScanner over the bytes.Reader r. -/
structure Rts (w : World) (q r sb : Nat) (xs : List UInt8) (i : Nat) : Prop where
  hq : ∃ l s b : Nat, Blk w q [.iface 63 (.pointer (some ⟨r, 0, none⟩)), .int .u8 l, .int .u8 s, .int .u8 b] 323 (0, 0) ∧ s ≠ 1
  hr : Rdr w r sb xs i
  qr : q ≠ r
  qs : q ≠ sb
theorem Rts.fr {w w' : World} {q r sb : Nat} {xs : List UInt8} {i : Nat} {S : List Nat} (h : Rts w q r sb xs i) (hf : Fr S w w') (h1 : q ∉ S) (h2 : r ∉ S) (h3 : sb ∉ S) : Rts w' q r sb xs i := by
  obtain ⟨⟨l, s, b, hB, hs⟩, hr, h4, h5⟩ := h
  exact ⟨⟨l, s, b, hf.blk hB h1, hs⟩, hr.fr hf h2 h3, h4, h5⟩
theorem rtsRead {ea : Addr} {w : World} {q r sb : Nat} {xs : List UInt8} {i : Nat} (h : Rts w q r sb xs i)
    (pb po pl pc : Nat) (cs : List Value) (T : TypeId) (hp : Blk w pb cs T (0, 0)) (hpl : po + pl ≤ cs.length) (hpc : pl < 1000000000000) (hpq : pb ≠ q) (hpr : pb ≠ r) (hps : pb ≠ sb) (hi : i + pl ≤ xs.length) (h0 : 0 < pl) (hG : Gl ea w) (hpg : 26 ≤ pb) :
    Calls Tryz.prog 369 #[.pointer (some ⟨q, 0, none⟩), .slice (some ⟨pb, po, none⟩) pl pc] w fun e w' =>
      e = .returned (.tuple #[.int .i64 pl, .nilIface]) ∧ Rts w' q r sb xs (i + pl) ∧ Blk w' pb (lay cs po ((xs.drop i).take pl)) T (0, 0) ∧ Fr [q, r, pb] w w' := by
  obtain ⟨⟨l, s, b, hB, hs⟩, hR, hqr, hqs⟩ := h
  have hl : ((xs.drop i).take pl).length = pl := by simp; omega
  have hrd := fun (w' : World) (hf : Fr [] w w') => read_more (hR.fr hf (by simp) (by simp)) (by omega) pb po pl pc cs T (hf.blk hp (by simp)) hpl hpc hpr hps
  rw [hl] at hrd
  have hc := hB.cells
  have hf := hB.free
  have hrg := hR.ge
  have hqr' := Ne.symm hqr
  have hqs' := Ne.symm hqs
  have hpq' := Ne.symm hpq
  have hs' : ¬ (s : Int) = 1 := by omega
  have hlast : ∀ w', Blk w' pb (lay cs po ((xs.drop i).take pl)) T (0, 0) → ∃ v : Nat, w'.cell? ⟨pb, po + (pl - 1), none⟩ = some (.int .u8 v) := fun w' hb => by
    have := (Blk.bs (pre := cs.take po) (o := po) hb rfl (by simp; omega)).cell (pl - 1) (by rw [hl]; omega)
    exact ⟨_, this⟩
  have HL := Lib.hid hlast
  clear hlast hl
  generalize (xs.drop i).take pl = X at *
  go_enter Tryz.func369, Tryz.ntmps369
  go_wp2_with (first
    | go_at_call 243; refine (hrd _ (by exact frP)).mono ?_; rintro e w1 ⟨rfl, hR1, hB1, hF1⟩; obtain ⟨v1, hv1⟩ := HL.out _ hB1; have he1 := (hG.fr (Fr.trans (S := [r, pb]) (by exact frP) hF1 (by simp)) (by simp; omega)).eof; have hQ1 := hF1.blk hB (by simp [hqr, hpq']); have hc1 := hQ1.cells; have hf1 := hQ1.free; clear hc hf)
  go_ret2
  refine ⟨by simp, and_of (and_of (by exact frP) fun hF => ?_) fun hF => ⟨⟨v1, 2, b, ?_, by omega⟩, hR1.fr (S := [q]) (by exact frP) (by simp [hqr']) (by simp [hqs']), hqr, hqs⟩⟩
  all_goals exact blkP
/-- Read into the scanner's own byte. -/
theorem rtsReadOwn {ea : Addr} {w : World} {q r sb : Nat} {xs : List UInt8} {i : Nat} (h : Rts w q r sb xs i) (hi : i < xs.length) (hG : Gl ea w) (hpg : 26 ≤ q) :
    Calls Tryz.prog 369 #[.pointer (some ⟨q, 0, none⟩), .slice (some ⟨q, 3, none⟩) 1 1] w fun e w' =>
      e = .returned (.tuple #[.int .i64 1, .nilIface]) ∧ Rts w' q r sb xs (i + 1) ∧ w'.cell? ⟨q, 3, none⟩ = some (.int .u8 (xs[i].toNat : Nat)) ∧ Fr [q, r] w w' := by
  obtain ⟨⟨l, s, b, hB, hs⟩, hR, hqr, hqs⟩ := h
  have hl : (xs.drop i).take 1 = [xs[i]] := by rw [List.drop_eq_getElem_cons hi]; rfl
  have hrd := fun (w' : World) (hf : Fr [] w w') => read_more (hR.fr hf (by simp) (by simp)) hi q 3 1 1 _ _ (hf.blk hB (by simp)) (by simp) (by omega) hqr hqs
  rw [hl] at hrd
  have hrg := hR.ge
  have hqr' := Ne.symm hqr
  have hqs' := Ne.symm hqs
  have hs' : ¬ (s : Int) = 1 := by omega
  have hc := hB.cells
  have hf := hB.free
  generalize xs[i] = X at *
  simp only [lay, List.length_singleton, List.take_succ_cons, List.take_zero, by8, List.map_cons, List.map_nil, List.drop_succ_cons, List.cons_append, List.nil_append, List.append_nil, List.drop_nil] at hrd
  go_enter Tryz.func369, Tryz.ntmps369
  go_wp2_with (first
    | go_at_call 243; refine (hrd _ (by exact frP)).mono ?_; rintro e w1 ⟨rfl, hR1, hB1, hF1⟩; have he1 := (hG.fr (Fr.trans (S := [r, q]) (by exact frP) hF1 (by simp)) (by simp; omega)).eof; have hc1 := hB1.cells; have hf1 := hB1.free; clear hc hf)
  go_ret2
  refine ⟨by simp, and_of (and_of (by exact frP) fun hF => ?_) fun hF => ⟨⟨X.toNat, 2, X.toNat, ?_, by omega⟩, hR1.fr (S := [q]) (by exact frP) (by simp [hqr']) (by simp [hqs']), hqr, hqs⟩⟩
  · refine Blk.cell (cs := [.iface 63 (.pointer (some ⟨r, 0, none⟩)), .int .u8 X.toNat, .int .u8 2, .int .u8 X.toNat]) (T := 323) (fr := (0, 0)) ?_ 3
    exact blkP
  · exact blkP
theorem rtsReadByte {ea : Addr} {w : World} {q r sb : Nat} {xs : List UInt8} {i : Nat} (h : Rts w q r sb xs i) (hi : i < xs.length) (hG : Gl ea w) (hpg : 26 ≤ q) :
    Calls Tryz.prog 370 #[.pointer (some ⟨q, 0, none⟩)] w fun e w' =>
      e = .returned (.tuple #[.int .u8 (xs[i].toNat : Nat), .nilIface]) ∧ Rts w' q r sb xs (i + 1) ∧ Fr [q, r] w w' := by
  have hrd := fun (w' : World) (hf : Fr [] w w') => rtsReadOwn (h.fr hf (by simp) (by simp) (by simp)) hi (hG.fr hf (by simp)) hpg
  have hrg := h.hr.ge
  go_enter Tryz.func370, Tryz.ntmps370
  go_wp2_with (first
    | go_at_call 369; refine (hrd _ (by exact frP)).mono ?_; rintro e w1 ⟨rfl, hR1, hc1, hF1⟩; have he1 := (hG.fr (Fr.trans (S := [q, r]) (by exact frP) hF1 (by simp)) (by simp; omega)).eof)
  go_ret2
  exact ⟨rfl, hR1.fr (S := []) (by exact frP) (by simp) (by simp) (by simp), by exact frP⟩
end Go.Proofs.Wx

namespace Go.Proofs.Wx
open Go Go.RowKit
abbrev oSlk22 : List (Nat × Cls) := [(0,.free),(1,.free),(2,.free),(3,.free),(4,.look),(5,.free),(6,.free),(7,.free),(8,.act),(9,.free),(10,.free),(11,.act)]
abbrev oSlk23 : List (Nat × Cls) := [(0,.free),(1,.free),(2,.free),(3,.look),(4,.free),(5,.free),(6,.free),(7,.free),(8,.act),(9,.free),(10,.free),(11,.free),(12,.free),(13,.free)]
abbrev oSlk24 : List (Nat × Cls) := [(0,.free),(1,.free),(2,.free),(3,.free),(4,.look),(5,.free),(6,.free),(7,.free),(8,.free),(9,.free),(10,.free),(11,.act),(12,.free),(13,.free),(14,.act)]
theorem rtsReadAtLeast {ea : Addr} {w : World} {q r sb : Nat} {xs : List UInt8} {i : Nat} (h : Rts w q r sb xs i)
    (pb po pl pc : Nat) (cs : List Value) (T : TypeId) (hp : Blk w pb cs T (0, 0)) (hpl : po + pl ≤ cs.length) (hpc : pl < 1000000000000) (hpq : pb ≠ q) (hpr : pb ≠ r) (hps : pb ≠ sb) (hi : i + pl ≤ xs.length) (h0 : 0 < pl) (hG : Gl ea w) (hpg : 26 ≤ pb) :
    Calls Tryz.prog 132 #[.iface 321 (.pointer (some ⟨q, 0, none⟩)), .slice (some ⟨pb, po, none⟩) pl pc, .int .i64 pl] w fun e w' =>
      e = .returned (.tuple #[.int .i64 pl, .nilIface]) ∧ Rts w' q r sb xs (i + pl) ∧ Blk w' pb (lay cs po ((xs.drop i).take pl)) T (0, 0) ∧ Fr [q, r, pb] w w' := by
  have hc := fun (w' : World) (hf : Fr [] w w') => rtsRead (h.fr hf (by simp) (by simp) (by simp)) pb po pl pc cs T (hf.blk hp (by simp)) hpl hpc hpq hpr hps hi h0 (hG.fr hf (by simp)) hpg
  clear hi
  go_enter Tryz.func132, Tryz.ntmps132
  go_wp2_with (first
    | (with_reducible refine wp_loop_rounds 2 ?_); rw [rounds_succ]
    | (with_reducible rw [rounds_succ])
    | go_at_call 369; refine (hc _ (by exact frP)).mono ?_; rintro e w1 ⟨rfl, hR1, hB1, hF1⟩; replace hF1 : Fr [q, r, pb] w w1 := Fr.trans (S := [q, r, pb]) (by exact frP) hF1 (by simp)
    | (refine wre 2 [(0,.look),(1,.free),(2,.free)] ?_)
    | (refine wre 5 [(0,.free),(1,.free),(2,.free),(3,.free),(4,.free),(5,.free),(6,.free),(7,.act),(8,.free),(9,.free),(10,.free),(11,.free),(12,.free)] ?_)
    | (with_reducible refine wEI ?_; (first | (refine wEN ?_; skip) | (refine wEF rfl (fun K hK => ?_); go_simp) | (refine wEL rfl rfl (fun K hK => ?_); go_simp) | (refine wER rfl (fun K hK => ?_); go_simp) | (refine wEM rfl (fun K hK => ?_); go_simp; try refine ⟨_, _, ⟨rfl, rfl⟩, ?_⟩) | (refine wEG rfl (fun K hK => ?_); go_simp) | (refine wEA rfl (fun K hK => ?_); go_simp))))
  go_ret2
  exact ⟨rfl, hR1, hB1, hF1⟩
/-- z is a SlickReaderStream over the scanner q over the bytes.Reader r. -/
structure Slk (w : World) (z q r sb : Nat) (xs : List UInt8) (i : Nat) : Prop where
  hz : ∃ (scr : List Value), scr.length = 32 ∧ Blk w z (.iface 321 (.pointer (some ⟨q, 0, none⟩)) :: (scr ++ [.int .i64 i, .slice none 0 0, .bool false])) 328 (0, 0)
  hs : Rts w q r sb xs i
  zq : z ≠ q
  zr : z ≠ r
  zs : z ≠ sb
  ge : 26 ≤ z ∧ 26 ≤ q
theorem Slk.fr {w w' : World} {z q r sb : Nat} {xs : List UInt8} {i : Nat} {S : List Nat} (h : Slk w z q r sb xs i) (hf : Fr S w w') (h0 : z ∉ S) (h1 : q ∉ S) (h2 : r ∉ S) (h3 : sb ∉ S) : Slk w' z q r sb xs i := by
  obtain ⟨⟨scr, a1, hB⟩, hr, h4, h5, h6, h7⟩ := h
  exact ⟨⟨scr, a1, hf.blk hB h0⟩, hr.fr hf h1 h2 h3, h4, h5, h6, h7⟩
theorem slk_cells {w : World} {z : Nat} {a b c d : Value} {scr : List Value} {T : TypeId} (hl : scr.length = 32) (hB : Blk w z (a :: (scr ++ [b, c, d])) T (0, 0)) :
    w.cell? ⟨z, 0, none⟩ = some a ∧ w.cell? ⟨z, 33, none⟩ = some b ∧ w.cell? ⟨z, 34, none⟩ = some c ∧ w.cell? ⟨z, 35, none⟩ = some d := by
  refine ⟨by rw [hB.cells]; rfl, ?_, ?_, ?_⟩
  all_goals
    rw [hB.cells, List.getElem?_cons_succ, List.getElem?_append_right (by omega), hl]; rfl
theorem slk_set {a b b' c d : Value} {scr : List Value} (hl : scr.length = 32) : (a :: (scr ++ [b, c, d])).set 33 b' = a :: (scr ++ [b', c, d]) := by
  rw [List.set_cons_succ, List.set_append_right _ _ (by omega), hl]; rfl
theorem slkReadn1 {ea : Addr} {w : World} {z q r sb : Nat} {xs : List UInt8} {i : Nat} (h : Slk w z q r sb xs i) (hi : i < xs.length) (hG : Gl ea w) :
    Calls Tryz.prog 363 #[.pointer (some ⟨z, 0, none⟩)] w fun e w' =>
      e = .returned (.tuple #[.int .u8 (xs[i].toNat : Nat), .nilIface]) ∧ Slk w' z q r sb xs (i + 1) ∧ Fr [z, q, r] w w' := by
  have h' := h
  obtain ⟨⟨scr, hl, hB⟩, hS, hzq, hzr, hzs, hg1, hg2⟩ := h
  have hxl : xs.length < 1000000000000 := by obtain ⟨a, b, c, d⟩ := hS.hr; exact d.2.2.2.2.1.1
  have hrd := rtsReadByte hS hi hG hg2
  obtain ⟨c0, c1, c2, c3⟩ := slk_cells hl hB
  go_enter Tryz.func363, Tryz.ntmps363
  go_wp2_with (first
    | go_at_call 370; refine hrd.mono ?_; rintro e w1 ⟨rfl, hR1, hF1⟩; have hB1 := hF1.blk hB (by simp [hzq, hzr]); obtain ⟨d0, d1, d2, d3⟩ := slk_cells hl hB1; have hf1 := hB1.free; clear c0 c1 c2 c3)
  go_ret2
  refine ⟨rfl, ⟨⟨scr, hl, ?_⟩, hR1.fr (S := [z]) (by exact frP) (by simp [Ne.symm hzq]) (by simp [Ne.symm hzr]) (by simp [Ne.symm hzs]), hzq, hzr, hzs, hg1, hg2⟩, ?_⟩
  · exact Blk.conv (Blk.set hB1) (by rw [slk_set hl]; simp)
  · refine Fr.setCell (by simp) ?_
    exact frP

theorem slkPartS {ea : Addr} {w : World} {z q r sb : Nat} {xs : List UInt8} {i n : Nat} (h : Slk w z q r sb xs i) (hi : i + n ≤ xs.length) (hG : Gl ea w) (h0 : 0 < n) (hn : n < 32) :
    Calls Tryz.prog 368 #[.pointer (some ⟨z, 0, none⟩), .int .i64 n] w fun e w' =>
      e = .returned (.tuple #[.slice (some ⟨z, 1, none⟩) n 32, .nilIface]) ∧ Slk w' z q r sb xs (i + n) ∧ Bs w' z 1 ((xs.drop i).take n) ∧ Fr [z, q, r] w w' := by
  obtain ⟨⟨scr, hl, hB⟩, hS, hzq, hzr, hzs, hg1, hg2⟩ := h
  have hxl : xs.length < 1000000000000 := by obtain ⟨a, b, c, d⟩ := hS.hr; exact d.2.2.2.2.1.1
  have hX : ((xs.drop i).take n).length = n := by simp; omega
  have hrd := fun (w' : World) (hf : Fr [] w w') => rtsReadAtLeast (hS.fr hf (by simp) (by simp) (by simp)) z 1 n 32 _ _ (hf.blk hB (by simp)) (by simp; omega) (by omega) hzq hzr hzs hi h0 (hG.fr hf (by simp)) hg1
  generalize (xs.drop i).take n = X at *
  have hlay : lay (.iface 321 (.pointer (some ⟨q, 0, none⟩)) :: (scr ++ [.int .i64 i, .slice none 0 0, .bool false])) 1 X = .iface 321 (.pointer (some ⟨q, 0, none⟩)) :: ((by8 X ++ scr.drop n) ++ [.int .i64 i, .slice none 0 0, .bool false]) := by
    simp only [lay, hX]
    rw [show 1 + n = n + 1 by omega, List.drop_succ_cons, List.drop_append_of_le_length (by omega)]
    simp
  have hl2 : (by8 X ++ scr.drop n).length = 32 := by simp [by8_length, hX, hl]; omega
  rw [hlay] at hrd
  obtain ⟨c0, c1, c2, c3⟩ := slk_cells hl hB
  have hpos : (0 : Int) < n := by omega
  have hn1 : (n : Int) ≤ 32 := by omega
  have hn2 : 0 ≤ (n : Int) := by omega
  have hn3 : (n : Int) < 32 := by omega
  clear hlay
  go_enter Tryz.func368, Tryz.ntmps368
  go_wp2_with (first
    | go_at_call 132; refine (hrd _ (by exact frP)).mono ?_; rintro e w1 ⟨rfl, hR1, hB1, hF1⟩; obtain ⟨d0, d1, d2, d3⟩ := slk_cells hl2 hB1; have hf1 := hB1.free; clear c0 c1 c2 c3
    | (refine wre 8 oSlk22 ?_)
    | (refine wre 29 oSlk23 ?_)
    | (refine wre 32 oSlk24 ?_)
    | (with_reducible refine wEI ?_; (first | (refine wEN ?_; skip) | (refine wEF rfl (fun K hK => ?_); go_simp) | (refine wEL rfl rfl (fun K hK => ?_); go_simp) | (refine wER rfl (fun K hK => ?_); go_simp) | (refine wEM rfl (fun K hK => ?_); go_simp; try refine ⟨_, _, ⟨rfl, rfl⟩, ?_⟩) | (refine wEG rfl (fun K hK => ?_); go_simp) | (refine wEA rfl (fun K hK => ?_); go_simp))))
  go_ret2
  have hBz : Blk _ z (.iface 321 (.pointer (some ⟨q, 0, none⟩)) :: ((by8 X ++ scr.drop n) ++ [.int .i64 (i + n : Nat), .slice none 0 0, .bool false])) _ _ := Blk.conv (Blk.set (o := 33) (v := .int .i64 ((i : Int) + n)) hB1) (by rw [slk_set hl2]; simp)
  refine ⟨rfl, ⟨⟨_, hl2, hBz⟩, hR1.fr (S := [z]) (by exact frP) (by simp [Ne.symm hzq]) (by simp [Ne.symm hzr]) (by simp [Ne.symm hzs]), hzq, hzr, hzs, hg1, hg2⟩, ?_, ?_⟩
  · exact Blk.bs (pre := [.iface 321 (.pointer (some ⟨q, 0, none⟩))]) (post := scr.drop n ++ [.int .i64 (i + n : Nat), .slice none 0 0, .bool false]) hBz (by simp) rfl
  · refine Fr.setCell (by simp) ?_
    exact frP
theorem slkPartL {ea : Addr} {w : World} {z q r sb : Nat} {xs : List UInt8} {i n : Nat} (h : Slk w z q r sb xs i) (hi : i + n ≤ xs.length) (hG : Gl ea w) (hn : 32 ≤ n) (hn2 : n ≤ 4096) :
    Calls Tryz.prog 368 #[.pointer (some ⟨z, 0, none⟩), .int .i64 n] w fun e w' =>
      ∃ b, e = .returned (.tuple #[.slice (some ⟨b, 0, none⟩) n n, .nilIface]) ∧ Slk w' z q r sb xs (i + n) ∧ w.heap.size ≤ b ∧ Bs w' b 0 ((xs.drop i).take n) ∧ Fr [z, q, r] w w' := by
  obtain ⟨⟨scr, hl, hB⟩, hS, hzq, hzr, hzs, hg1, hg2⟩ := h
  have hxl : xs.length < 1000000000000 := by obtain ⟨a, b, c, d⟩ := hS.hr; exact d.2.2.2.2.1.1
  have hX : ((xs.drop i).take n).length = n := by simp; omega
  have hlt := hB.lt
  have hql : q < w.heap.size := by obtain ⟨⟨l, s, b, h, _⟩, _⟩ := hS; exact h.lt
  have hrl := hS.hr.lt
  have hrd := fun (w' : World) (b : Nat) (hb : w.heap.size ≤ b) (hf : Fr [] w w') (hbb : Blk w' b (List.replicate n (.int .u8 0)) 5 (0, 0)) => rtsReadAtLeast (hS.fr hf (by simp) (by simp) (by simp)) b 0 n n _ _ hbb (by simp) (by omega) (by omega) (by omega) (by omega) hi (by omega) (hG.fr hf (by simp)) (by omega)
  generalize (xs.drop i).take n = X at *
  have hlay : lay (List.replicate n (Value.int .u8 0)) 0 X = by8 X := by simp [lay, hX]
  rw [hlay] at hrd
  obtain ⟨c0, c1, c2, c3⟩ := slk_cells hl hB
  have hpos : (0 : Int) < n := by omega
  have hn1 : (n : Int) ≤ 4096 := by omega
  have hn3 : ¬ (n : Int) < 32 := by omega
  have hn4 : ¬ (4096 : Int) < n := by omega
  have hn5 : ¬ (n : Int) = 0 := by omega
  have hgb := hG.size
  clear hlay
  go_enter Tryz.func368, Tryz.ntmps368
  go_wp2_with (first
    | (with_reducible refine wp_loop_rounds 2 ?_); rw [rounds_succ]
    | (with_reducible rw [rounds_succ])
    | (with_reducible refine list_makeSlice (fun K hK => ?_);  refine makeB _ _ rfl _ _ _ _ 0 n rfl rfl rfl rfl (by omega) (by omega) ?_)
    | go_at_call 132; refine (hrd _ w.heap.size (Nat.le_refl _) (by exact frP) (by exact blkP)).mono ?_; rintro e w1 ⟨rfl, hR1, hB1, hF1⟩; have hZ1 := hF1.blk hB.alloc (by simp; omega); obtain ⟨d0, d1, d2, d3⟩ := slk_cells hl hZ1; have hf1 := hZ1.free; clear c0 c1 c2 c3
    | (refine wre 8 oSlk22 ?_)
    | (refine wre 29 oSlk23 ?_)
    | (refine wre 32 oSlk24 ?_)
    | (with_reducible refine wEI ?_; (first | (refine wEN ?_; skip) | (refine wEF rfl (fun K hK => ?_); go_simp) | (refine wEL rfl rfl (fun K hK => ?_); go_simp) | (refine wER rfl (fun K hK => ?_); go_simp) | (refine wEM rfl (fun K hK => ?_); go_simp; try refine ⟨_, _, ⟨rfl, rfl⟩, ?_⟩) | (refine wEG rfl (fun K hK => ?_); go_simp) | (refine wpE_actp rfl rfl (fun K hK => ?_); simp only [List.getElem_toArray, List.getElem_cons_succ, List.getElem_cons_zero]; (first | (with_reducible refine op_makeSlice ?_;  refine makeB _ _ rfl _ _ _ _ 0 n rfl rfl rfl rfl (by omega) (by omega) ?_))) | (refine wEA rfl (fun K hK => ?_); go_simp))))
  go_ret2
  refine ⟨_, rfl, ⟨⟨scr, hl, Blk.conv (Blk.set (o := 33) (v := .int .i64 ((i : Int) + n)) hZ1) (by rw [slk_set hl]; simp)⟩, hR1.fr (S := [z]) (by exact frP) (by simp [Ne.symm hzq]) (by simp [Ne.symm hzr]) (by simp [Ne.symm hzs]), hzq, hzr, hzs, hg1, hg2⟩, Nat.le_refl _, ?_, ?_⟩
  · exact Bs.setNe (by simp; omega) (Blk.bs (pre := []) (post := []) hB1 (by simp) rfl)
  · exact Fr.setCell (by simp) (Fr.trans (S := [z, q, r]) (by exact frP) hF1 (by simp))
/-- append of bytes to no slice: a new block. -/
theorem appNil {o : Oper} {a : Act} {K : Act → World → Prop} {Q : Exit → Act → World → Prop} {w : World} (s x : Operand)
    (ho : o.op = .call { callee := .builtin .append, args := #[s, x], argTypes := #[55, 55] })
    (hs : a.eval s = .slice none 0 0) (b so m c : Nat) (xs : List UInt8) (hx : a.eval x = .slice (some ⟨b, so, none⟩) m c) (hB : Bs w b so xs) (hm : xs.length = m) (h0 : 0 < m) (hb : m ≤ 1000000000000)
    (h : ∀ w' C, m ≤ C → C ≤ 9223372036854775807 → Bs w' w.heap.size 0 xs → Fr [] w w' → K (a.put o.dst (.slice (some ⟨w.heap.size, 0, none⟩) m C)) w') : o.wp Tryz.prog a w K Q := by
  obtain ⟨i, hi, hz, hsz, hby⟩ := info_parts u8_info
  have hr := run_append_nil (P := Tryz.prog) w 55 o.type 5 i (.int .u8 0) u8_slice hi hz ⟨b, so, none⟩ m c (by8 xs) (by rw [by8_length, hsz, hm]; omega)
    (fun j v hv => by
      have hj : j < xs.length := by have := (List.getElem?_eq_some_iff.1 hv).1; rwa [by8_length] at this
      rw [by8_at _ _ hj] at hv
      rw [← hv, Addr.add_lit]; exact hB.cell j hj) h0 (by omega) (by rw [hby]; omega)
  have hge := grownCap_ge w m 0 5
  have hle := grownCap_le_maxLen w m 0 5 (by unfold maxLen; omega)
  generalize grownCap w m 0 5 = C at *
  unfold Oper.wp execOp
  simp only [ho, resolve, invoke, builtin, Sem.run_bind, Sem.run_pure, Result.andThen_ok, List.map_toArray, List.map_cons, List.map_nil, hs, hx, hr]
  refine h _ C hge (by unfold maxLen at hle; omega) ?_ (Fr.alloc (Fr.drew Fr.refl))
  refine Blk.bs (pre := []) (post := (Builtin.zeroCells (Value.int .u8 0).cells (C - m)).toList) (cs := by8 xs ++ (Builtin.zeroCells (Value.int .u8 0).cells (C - m)).toList) (T := 5) (fr := (0, 0)) ?_ (by simp) rfl
  have : (by8 xs).toArray ++ Builtin.zeroCells (Value.int .u8 0).cells (C - m) = (by8 xs ++ (Builtin.zeroCells (Value.int .u8 0).cells (C - m)).toList).toArray := by simp
  rw [this]
  exact Blk.new (w := w.drew)

theorem slkReadn {ea : Addr} {w : World} {z q r sb : Nat} {xs : List UInt8} {i n : Nat} (h : Slk w z q r sb xs i) (hi : i + n ≤ xs.length) (hG : Gl ea w) (h0 : 0 < n) (hn2 : n ≤ 4096) :
    Calls Tryz.prog 362 #[.pointer (some ⟨z, 0, none⟩), .int .i64 n] w fun e w' =>
      ∃ v b, e = .returned (.tuple #[v, .nilIface]) ∧ Slk w' z q r sb xs (i + n) ∧ w.heap.size ≤ b ∧ Sl w' v b ((xs.drop i).take n) ∧ Fr [z, q, r] w w' := by
  have hX : ((xs.drop i).take n).length = n := by simp; omega
  have hlt : z < w.heap.size ∧ q < w.heap.size ∧ r < w.heap.size ∧ sb < w.heap.size := by
    obtain ⟨⟨scr, hl, hB⟩, hS, _⟩ := h
    have hql : q < w.heap.size := by obtain ⟨⟨l, s, b, h, _⟩, _⟩ := hS; exact h.lt
    exact ⟨hB.lt, hql, hS.hr.lt⟩
  rcases Nat.lt_or_ge n 32 with h32 | h32
  · have hrd := slkPartS h hi hG h0 h32
    generalize (xs.drop i).take n = X at *
    have hn3 : (n : Int) < 32 := by omega
    go_enter Tryz.func362, Tryz.ntmps362
    go_wp2_with (first
      | go_at_call 368; refine hrd.mono ?_; rintro e w1 ⟨rfl, hR1, hB1, hF1⟩
      | (with_reducible refine list_bi .append (fun K hK => ?_);  refine appNil _ _ rfl rfl z 1 n 32 X rfl hB1 hX h0 (by omega) (fun w2 C hC1 hC2 hB2 hF2 => ?_)))
    go_ret2
    have hs := hF1.size
    exact ⟨_, _, rfl, hR1.fr hF2 (by simp) (by simp) (by simp) (by simp), hs, ⟨0, C, by rw [hX]; rfl, by omega, by omega, hB2⟩, hF1.trans hF2 (by simp)⟩
  · have hrd := slkPartL h hi hG h32 hn2
    generalize (xs.drop i).take n = X at *
    have hn3 : ¬ (n : Int) < 32 := by omega
    go_enter Tryz.func362, Tryz.ntmps362
    go_wp2_with (first
      | go_at_call 368; refine hrd.mono ?_; rintro e w1 ⟨b, rfl, hR1, hb1, hB1, hF1⟩)
    go_ret2
    exact ⟨_, _, rfl, hR1, hb1, ⟨0, n, by rw [hX]; rfl, by omega, by omega, hB1⟩, hF1⟩
theorem slkReadnzc {ea : Addr} {w : World} {z q r sb : Nat} {xs : List UInt8} {i n : Nat} (h : Slk w z q r sb xs i) (hi : i + n ≤ xs.length) (hG : Gl ea w) (h0 : 0 < n) (h32 : n < 32) :
    Calls Tryz.prog 364 #[.pointer (some ⟨z, 0, none⟩), .int .i64 n] w fun e w' =>
      e = .returned (.tuple #[.slice (some ⟨z, 1, none⟩) n 32, .nilIface]) ∧ Slk w' z q r sb xs (i + n) ∧ Bs w' z 1 ((xs.drop i).take n) ∧ Fr [z, q, r] w w' := by
  have hrd := slkPartS h hi hG h0 h32
  generalize (xs.drop i).take n = X at *
  go_enter Tryz.func364, Tryz.ntmps364
  go_wp2_with (first
    | go_at_call 368; refine hrd.mono ?_; rintro e w1 ⟨rfl, hR1, hB1, hF1⟩)
  go_ret2
  exact ⟨rfl, hR1, hB1, hF1⟩
end Go.Proofs.Wx

namespace Go.Proofs.Wx
open Go
/-- The head of a CBOR item whose number is below 256. -/
def hdB (M n : Nat) : List UInt8 := if n < 24 then [UInt8.ofNat (M * 32 + n)] else [UInt8.ofNat (M * 32 + 24), UInt8.ofNat n]
def linkB (c : CidM) : List UInt8 := hdB 6 42 ++ (hdB 2 (c.bytes.length + 1) ++ 0 :: c.bytes)
def rootsB (l : List CidM) : List UInt8 := l.flatMap linkB
def sRoots : List UInt8 := [114, 111, 111, 116, 115]
def sVersion : List UInt8 := [118, 101, 114, 115, 105, 111, 110]
/-- The map of a header of version 1. -/
def hbB (l : List CidM) : List UInt8 := hdB 5 2 ++ (hdB 3 5 ++ (sRoots ++ (hdB 4 l.length ++ (rootsB l ++ (hdB 3 7 ++ (sVersion ++ hdB 0 1))))))
def headerB (l : List CidM) : List UInt8 := Lib.uvarint (hbB l).length ++ hbB l
structure BlkM where
  cid : CidM
  data : List UInt8
def BlkM.inner (b : BlkM) : List UInt8 := b.cid.bytes ++ b.data
def secB (b : BlkM) : List UInt8 := Lib.uvarint b.inner.length ++ b.inner
def secsB (l : List BlkM) : List UInt8 := l.flatMap secB
structure CarM where
  roots : List CidM
  blocks : List BlkM
def CarM.bytes (c : CarM) : List UInt8 := headerB c.roots ++ secsB c.blocks
structure CarM.Ok (c : CarM) : Prop where
  roots : c.roots.length ≤ 50
  blocks : c.blocks.length ≤ 50
  root : ∀ x ∈ c.roots, x.Ok
  cid : ∀ b ∈ c.blocks, b.cid.Ok
  data : ∀ b ∈ c.blocks, b.data.length ≤ 32768
theorem hdB_length (M n : Nat) : 1 ≤ (hdB M n).length ∧ (hdB M n).length ≤ 2 := by unfold hdB; split <;> simp
theorem linkB_length {c : CidM} (h : c.Ok) : (linkB c).length ≤ 230 := by
  have h1 := hdB_length 6 42
  have h2 := hdB_length 2 (c.bytes.length + 1)
  have := h.le
  simp [linkB]; omega
theorem rootsB_length : ∀ {l : List CidM}, (∀ x ∈ l, x.Ok) → (rootsB l).length ≤ 230 * l.length
  | [], _ => by simp [rootsB]
  | c :: l, h => by
    have h1 := linkB_length (h c (by simp))
    have h2 := rootsB_length (l := l) fun x hx => h x (by simp [hx])
    simp [rootsB] at *; omega
theorem hbB_length {l : List CidM} (hl : l.length ≤ 50) (h : ∀ x ∈ l, x.Ok) : (hbB l).length ≤ 12000 ∧ 1 ≤ (hbB l).length := by
  have h1 := hdB_length 5 2
  have h2 := hdB_length 3 5
  have h3 := hdB_length 4 l.length
  have h4 := hdB_length 3 7
  have h5 := hdB_length 0 1
  have h6 := rootsB_length h
  simp [hbB, sRoots, sVersion]; omega
theorem headerB_length {l : List CidM} (hl : l.length ≤ 50) (h : ∀ x ∈ l, x.Ok) : (headerB l).length ≤ 12002 ∧ 1 ≤ (headerB l).length := by
  have h1 := hbB_length hl h
  have h2 := uv2 (n := (hbB l).length) (by omega)
  simp [headerB]; omega
theorem inner_length {b : BlkM} (h : b.cid.Ok) (hd : b.data.length ≤ 32768) : b.inner.length ≤ 32989 ∧ 3 ≤ b.inner.length := by
  have := h.le
  simp [BlkM.inner]; omega
theorem uv3 {n : Nat} (h : n < 2097152) : (Lib.uvarint n).length ≤ 3 := Lib.uvarint_length 2 n (by omega)
theorem secB_length {b : BlkM} (h : b.cid.Ok) (hd : b.data.length ≤ 32768) : (secB b).length ≤ 32992 ∧ 3 ≤ (secB b).length := by
  have h1 := inner_length h hd
  have := uv3 (n := b.inner.length) (by omega)
  simp [secB]; omega
theorem secsB_length : ∀ {l : List BlkM}, (∀ b ∈ l, b.cid.Ok) → (∀ b ∈ l, b.data.length ≤ 32768) → (secsB l).length ≤ 32992 * l.length
  | [], _, _ => by simp [secsB]
  | b :: l, h, hd => by
    have h1 := secB_length (h b (by simp)) (hd b (by simp))
    have h2 := secsB_length (l := l) (fun x hx => h x (by simp [hx])) fun x hx => hd x (by simp [hx])
    simp [secsB] at *; omega
theorem CarM.Ok.length {c : CarM} (h : c.Ok) : c.bytes.length ≤ 1700000 ∧ 1 ≤ c.bytes.length := by
  have h1 := headerB_length h.roots h.root
  have h2 := secsB_length h.cid h.data
  have := h.blocks
  simp [CarM.bytes]; omega
/-- The entries of the index that is made of sections that begin at a place: those of identity hashes apart. -/
def entsAt : Nat → List BlkM → List (CidM × Nat)
  | _, [] => []
  | p, b :: l => (if b.cid.code = 0 then [] else [(b.cid, p)]) ++ entsAt (p + (secB b).length) l
def CarM.ents (c : CarM) : List (CidM × Nat) := entsAt (headerB c.roots).length c.blocks
theorem entsAt_length : ∀ (p : Nat) (l : List BlkM), (entsAt p l).length ≤ l.length
  | _, [] => by simp [entsAt]
  | p, b :: l => by
    have := entsAt_length (p + (secB b).length) l
    simp only [entsAt, List.length_append, List.length_cons]
    split <;> simp <;> omega
end Go.Proofs.Wx
