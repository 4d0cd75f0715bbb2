import Derived.Test.YtgbfgjhndkkncaaGreatDoorM1
import Derived.Lib.Varint
import Derived.Lib.VarintBits
import Derived.IntWalk
set_option maxRecDepth 100000
set_option maxHeartbeats 1000000
set_option linter.unusedVariables false
set_option linter.unusedSimpArgs false
namespace Go.Proofs.Wx
open Go Go.RowKit
def ifacePtr (P : Program) (t tx : TypeId) : Bool :=
  match P.underlying t, P.underlying tx, P.info? tx with
  | some (.interface _), some (.pointer e), some i => i.comparable && (P.info? e).isSome
  | _, _, _ => false
theorem run_eql_iface_same {P : Program} (w : World) {t tx : TypeId} (a : Addr) (h : ifacePtr P t tx = true) :
    (binOp .eql t (.iface tx (.pointer (some a))) (.iface tx (.pointer (some a)))).run P w = .ok (.bool true) w := by
  unfold ifacePtr at h
  split at h <;> rename_i ht hx hi
  · simp only [Bool.and_eq_true] at h
    obtain ⟨hcc, h2⟩ := h
    obtain ⟨j, hj⟩ := Option.isSome_iff_exists.1 h2
    have h : ∀ d : Nat, (Op.equalIn (d + 2) t (.iface tx (.pointer (some a))) (.iface tx (.pointer (some a)))).run P w = .ok true w := fun d => by
      rw [Op.equalIn]
      simp [run_underlying ht, typeInfo, hi, hcc]
      rw [Op.equalIn]
      simp [run_underlying hx, sizeOf, typeInfo, hj, sameAddr]
    simp only [binOp]
    simp [Op.equal, Op.maxDepth, h 9998]
  · cases h
@[go_sem] theorem eq_err (a : Addr) (w : World) : (binOp .eql 61 (.iface 193 (.pointer (some a))) (.iface 193 (.pointer (some a)))).run Tryz.prog w = .ok (.bool true) w :=
  run_eql_iface_same w _ (by kernel_rfl)
@[go_sem] theorem ta_rd_byteReader (a : Addr) (w : World) : (Instr.typeAssert (.iface 63 (.pointer (some a))) 132 212 true).run Tryz.prog w = .ok (.tuple #[.iface 63 (.pointer (some a)), .bool true]) w := by kernel_rfl
@[go_sem] theorem ta_rd_byteReadSeeker (a : Addr) (w : World) : (Instr.typeAssert (.iface 63 (.pointer (some a))) 132 134 true).run Tryz.prog w = .ok (.tuple #[.iface 63 (.pointer (some a)), .bool true]) w := by kernel_rfl
@[go_sem] theorem ahead_bytes_Reader_Read (a : Addr) (w : World) : (nilAhead 560 63 (.pointer (some a)) "Read").run Tryz.prog w = .ok (some false) w := by kernel_rfl
@[go_sem] theorem meth_bytes_Reader_Read (a : Addr) (w : World) : (method 560 63 (.pointer (some a)) "Read").run Tryz.prog w = .ok (243, .pointer (some a)) w := by kernel_rfl
@[go_sem] theorem ahead_bytes_Reader_ReadByte (a : Addr) (w : World) : (nilAhead 560 63 (.pointer (some a)) "ReadByte").run Tryz.prog w = .ok (some false) w := by kernel_rfl
@[go_sem] theorem meth_bytes_Reader_ReadByte (a : Addr) (w : World) : (method 560 63 (.pointer (some a)) "ReadByte").run Tryz.prog w = .ok (244, .pointer (some a)) w := by kernel_rfl
@[go_sem] theorem ahead_bytes_Reader_Seek (a : Addr) (w : World) : (nilAhead 560 63 (.pointer (some a)) "Seek").run Tryz.prog w = .ok (some false) w := by kernel_rfl
@[go_sem] theorem meth_bytes_Reader_Seek (a : Addr) (w : World) : (method 560 63 (.pointer (some a)) "Seek").run Tryz.prog w = .ok (245, .pointer (some a)) w := by kernel_rfl
@[go_sem] theorem ahead_bytes_Reader_UnreadByte (a : Addr) (w : World) : (nilAhead 560 63 (.pointer (some a)) "UnreadByte").run Tryz.prog w = .ok (some false) w := by kernel_rfl
@[go_sem] theorem meth_bytes_Reader_UnreadByte (a : Addr) (w : World) : (method 560 63 (.pointer (some a)) "UnreadByte").run Tryz.prog w = .ok (386, .pointer (some a)) w := by kernel_rfl
@[go_sem] theorem ahead_bytes_Reader_Len (a : Addr) (w : World) : (nilAhead 560 63 (.pointer (some a)) "Len").run Tryz.prog w = .ok (some false) w := by kernel_rfl
@[go_sem] theorem meth_bytes_Reader_Len (a : Addr) (w : World) : (method 560 63 (.pointer (some a)) "Len").run Tryz.prog w = .ok (242, .pointer (some a)) w := by kernel_rfl
@[go_sem] theorem ahead_bytes_Buffer_Write (a : Addr) (w : World) : (nilAhead 560 65 (.pointer (some a)) "Write").run Tryz.prog w = .ok (some false) w := by kernel_rfl
@[go_sem] theorem meth_bytes_Buffer_Write (a : Addr) (w : World) : (method 560 65 (.pointer (some a)) "Write").run Tryz.prog w = .ok (251, .pointer (some a)) w := by kernel_rfl
@[go_sem] theorem ahead_cid_bufByteReader_ReadByte (a : Addr) (w : World) : (nilAhead 560 215 (.pointer (some a)) "ReadByte").run Tryz.prog w = .ok (some false) w := by kernel_rfl
@[go_sem] theorem meth_cid_bufByteReader_ReadByte (a : Addr) (w : World) : (method 560 215 (.pointer (some a)) "ReadByte").run Tryz.prog w = .ok (347, .pointer (some a)) w := by kernel_rfl
@[go_sem] theorem ahead_index_MultihashIndexSorted_Codec (a : Addr) (w : World) : (nilAhead 560 128 (.pointer (some a)) "Codec").run Tryz.prog w = .ok (some false) w := by kernel_rfl
@[go_sem] theorem meth_index_MultihashIndexSorted_Codec (a : Addr) (w : World) : (method 560 128 (.pointer (some a)) "Codec").run Tryz.prog w = .ok (266, .pointer (some a)) w := by kernel_rfl
@[go_sem] theorem ahead_index_MultihashIndexSorted_Load (a : Addr) (w : World) : (nilAhead 560 128 (.pointer (some a)) "Load").run Tryz.prog w = .ok (some false) w := by kernel_rfl
@[go_sem] theorem meth_index_MultihashIndexSorted_Load (a : Addr) (w : World) : (method 560 128 (.pointer (some a)) "Load").run Tryz.prog w = .ok (268, .pointer (some a)) w := by kernel_rfl
@[go_sem] theorem ahead_index_MultihashIndexSorted_Marshal (a : Addr) (w : World) : (nilAhead 560 128 (.pointer (some a)) "Marshal").run Tryz.prog w = .ok (some false) w := by kernel_rfl
@[go_sem] theorem meth_index_MultihashIndexSorted_Marshal (a : Addr) (w : World) : (method 560 128 (.pointer (some a)) "Marshal").run Tryz.prog w = .ok (269, .pointer (some a)) w := by kernel_rfl
@[go_sem] theorem ahead_impl_memory_Write (a : Addr) (w : World) : (nilAhead 560 120 (.pointer (some a)) "Write").run Tryz.prog w = .ok (some false) w := by kernel_rfl
@[go_sem] theorem meth_impl_memory_Write (a : Addr) (w : World) : (method 560 120 (.pointer (some a)) "Write").run Tryz.prog w = .ok (263, .pointer (some a)) w := by kernel_rfl
@[go_sem] theorem ahead_impl_memory_Size (a : Addr) (w : World) : (nilAhead 560 120 (.pointer (some a)) "Size").run Tryz.prog w = .ok (some false) w := by kernel_rfl
@[go_sem] theorem meth_impl_memory_Size (a : Addr) (w : World) : (method 560 120 (.pointer (some a)) "Size").run Tryz.prog w = .ok (261, .pointer (some a)) w := by kernel_rfl
@[go_sem] theorem ahead_impl_memory_Truncate (a : Addr) (w : World) : (nilAhead 560 120 (.pointer (some a)) "Truncate").run Tryz.prog w = .ok (some false) w := by kernel_rfl
@[go_sem] theorem meth_impl_memory_Truncate (a : Addr) (w : World) : (method 560 120 (.pointer (some a)) "Truncate").run Tryz.prog w = .ok (262, .pointer (some a)) w := by kernel_rfl
@[go_sem] theorem ahead_shared_SlickReaderStream_Readn1 (a : Addr) (w : World) : (nilAhead 560 320 (.pointer (some a)) "Readn1").run Tryz.prog w = .ok (some false) w := by kernel_rfl
@[go_sem] theorem meth_shared_SlickReaderStream_Readn1 (a : Addr) (w : World) : (method 560 320 (.pointer (some a)) "Readn1").run Tryz.prog w = .ok (363, .pointer (some a)) w := by kernel_rfl
@[go_sem] theorem ahead_shared_SlickReaderStream_Readnzc (a : Addr) (w : World) : (nilAhead 560 320 (.pointer (some a)) "Readnzc").run Tryz.prog w = .ok (some false) w := by kernel_rfl
@[go_sem] theorem meth_shared_SlickReaderStream_Readnzc (a : Addr) (w : World) : (method 560 320 (.pointer (some a)) "Readnzc").run Tryz.prog w = .ok (364, .pointer (some a)) w := by kernel_rfl
@[go_sem] theorem ahead_shared_SlickReaderStream_Readn (a : Addr) (w : World) : (nilAhead 560 320 (.pointer (some a)) "Readn").run Tryz.prog w = .ok (some false) w := by kernel_rfl
@[go_sem] theorem meth_shared_SlickReaderStream_Readn (a : Addr) (w : World) : (method 560 320 (.pointer (some a)) "Readn").run Tryz.prog w = .ok (362, .pointer (some a)) w := by kernel_rfl
@[go_sem] theorem ahead_shared_SlickReaderStream_Readb (a : Addr) (w : World) : (nilAhead 560 320 (.pointer (some a)) "Readb").run Tryz.prog w = .ok (some false) w := by kernel_rfl
@[go_sem] theorem meth_shared_SlickReaderStream_Readb (a : Addr) (w : World) : (method 560 320 (.pointer (some a)) "Readb").run Tryz.prog w = .ok (361, .pointer (some a)) w := by kernel_rfl
@[go_sem] theorem ahead_shared_SlickReaderStream_Unreadn1 (a : Addr) (w : World) : (nilAhead 560 320 (.pointer (some a)) "Unreadn1").run Tryz.prog w = .ok (some false) w := by kernel_rfl
@[go_sem] theorem meth_shared_SlickReaderStream_Unreadn1 (a : Addr) (w : World) : (method 560 320 (.pointer (some a)) "Unreadn1").run Tryz.prog w = .ok (367, .pointer (some a)) w := by kernel_rfl
end Go.Proofs.Wx

namespace Go.Proofs.Wx
open Go
theorem or_low (q m k : Nat) (hq : q < 2 ^ (7 * k)) (hb : q + m * 2 ^ (7 * k) < 18446744073709551616) :
    bits .or .u64 (q : Nat) ((m : Int) * 2 ^ (7 * k)) = ((q + m * 2 ^ (7 * k) : Nat) : Int) := by
  have h1 : ((m : Int) * 2 ^ (7 * k)) = ((m * 2 ^ (7 * k) : Nat) : Int) := by push_cast; rfl
  rw [h1]
  have := bits_join_low .u64 64 (by decide) wraps_u64 (7 * k) (q : Nat) ((m * 2 ^ (7 * k) : Nat) : Int) (by omega) (by exact_mod_cast hq) (by push_cast; omega) (by omega)
    (by have : (m * 2 ^ (7 * k)) % 2 ^ (7 * k) = 0 := Nat.mul_mod_left _ _
        exact_mod_cast this) (by push_cast; omega)
  rw [this]; push_cast; rfl
theorem and127 (b : Nat) (h : b < 256) : IntKind.u64.wrap (bits .and .u8 (b : Int) 127) = ((b % 128 : Nat) : Int) := by
  rw [u8_and127 _ (by omega) (by omega), IntWalk.u64_in _ (by omega)]; rfl
/-- What reading a varint has, k bytes in. -/
structure UvAt (n k q m : Nat) : Prop where
  lt : q < 2 ^ (7 * k)
  eq : n = q + m * 2 ^ (7 * k)
theorem UvAt.start (n : Nat) : UvAt n 0 0 n := ⟨by simp, by simp⟩
theorem UvAt.step {n k q m : Nat} (h : UvAt n k q m) : UvAt n (k + 1) (q + (m % 128) * 2 ^ (7 * k)) (m / 128) := by
  have e : 2 ^ (7 * (k + 1)) = 128 * 2 ^ (7 * k) := by rw [show 7 * (k + 1) = 7 + 7 * k by omega, Nat.pow_add]
  have h1 := h.lt
  have h2 := h.eq
  generalize 2 ^ (7 * k) = P at *
  have h3 : m % 128 * P ≤ 127 * P := Nat.mul_le_mul_right _ (by omega)
  refine ⟨by rw [e]; omega, ?_⟩
  rw [e, h2, ← Nat.mul_assoc]
  have : m = m % 128 + m / 128 * 128 := by omega
  have h4 : m * P = (m % 128) * P + m / 128 * 128 * P := by rw [← Nat.add_mul]; congr 1
  omega
theorem UvAt.small {n k q m : Nat} (h : UvAt n k q m) (hn : n < 9223372036854775808) (hm : 128 ≤ m) : k ≤ 7 := by
  have h2 := h.eq
  rcases Nat.lt_or_ge k 8 with hk | hk
  · omega
  · have : 2 ^ 56 ≤ 2 ^ (7 * k) := Nat.pow_le_pow_right (by decide) (by omega)
    have h3 : 128 * 2 ^ 56 ≤ m * 2 ^ (7 * k) := Nat.mul_le_mul hm this
    omega
theorem UvAt.last {n k q m : Nat} (h : UvAt n k q m) (hn : n < 9223372036854775808) : bits .or .u64 (q : Nat) (IntKind.u64.wrap ((m : Int) * 2 ^ (7 * k))) = (n : Nat) := by
  have h2 := h.eq
  have e : ((m : Int) * 2 ^ (7 * k)) = ((m * 2 ^ (7 * k) : Nat) : Int) := by push_cast; rfl
  have : IntKind.u64.wrap ((m : Int) * 2 ^ (7 * k)) = (m : Int) * 2 ^ (7 * k) := by
    rw [e]; exact IntWalk.u64_in _ (by omega)
  rw [this, or_low q m k h.lt (by omega), ← h2]
theorem UvAt.next {n k q m : Nat} (h : UvAt n k q m) (hn : n < 9223372036854775808) : bits .or .u64 (q : Nat) (IntKind.u64.wrap (((m % 128 : Nat) : Int) * 2 ^ (7 * k))) = ((q + (m % 128) * 2 ^ (7 * k) : Nat) : Int) := by
  have h2 := h.eq
  have h3 : m % 128 * 2 ^ (7 * k) ≤ m * 2 ^ (7 * k) := Nat.mul_le_mul_right _ (Nat.mod_le _ _)
  have e : (((m % 128 : Nat) : Int) * 2 ^ (7 * k)) = ((m % 128 * 2 ^ (7 * k) : Nat) : Int) := by push_cast; rfl
  have : IntKind.u64.wrap (((m % 128 : Nat) : Int) * 2 ^ (7 * k)) = ((m % 128 : Nat) : Int) * 2 ^ (7 * k) := by
    rw [e]; exact IntWalk.u64_in _ (by omega)
  rw [this, or_low q (m % 128) k h.lt (by omega)]
end Go.Proofs.Wx

namespace Go.Proofs.Wx
open Go Go.RowKit
/-- p, of dynamic type T, hands out the bytes of xs one by one; I w i: it stands at i. -/
structure BSrc (T : TypeId) (p : Addr) (S : List Nat) (xs : List UInt8) (I : World → Nat → Prop) (f : Nat) : Prop where
  ahead : ∀ w, (nilAhead 560 T (.pointer (some p)) "ReadByte").run Tryz.prog w = .ok (some false) w
  meth : ∀ w, (method 560 T (.pointer (some p)) "ReadByte").run Tryz.prog w = .ok (f, .pointer (some p)) w
  enter : ∀ w, (callFunc f #[.pointer (some p)]).run Tryz.prog w = .ok (.enter f #[.pointer (some p)]) w
  call : ∀ w i (h : i < xs.length), I w i → Calls Tryz.prog f #[.pointer (some p)] w fun e w' => e = .returned (.tuple #[.int .u8 (xs[i].toNat : Nat), .nilIface]) ∧ I w' (i + 1) ∧ Fr S w w'

theorem uv_bound {xs rest : List UInt8} {m i : Nat} (hx : xs.drop i = Lib.uvarint m ++ rest) :
    ∃ h : i < xs.length, if m < 128 then xs[i].toNat = m ∧ xs.drop (i + 1) = rest ∧ (Lib.uvarint m).length = 1 else
      xs[i].toNat = m % 128 + 128 ∧ xs.drop (i + 1) = Lib.uvarint (m / 128) ++ rest ∧ (Lib.uvarint m).length = 1 + (Lib.uvarint (m / 128)).length := by
  have hp := Lib.uvarint_pos m
  have h : i < xs.length := by
    rcases Nat.lt_or_ge i xs.length with h | h
    · exact h
    · rw [List.drop_eq_nil_of_le h] at hx
      have := congrArg List.length hx
      simp at this; omega
  refine ⟨h, ?_⟩
  rw [List.drop_eq_getElem_cons h] at hx
  by_cases hm : m < 128
  · rw [Lib.uvarint_small hm] at hx
    simp only [List.cons_append, List.nil_append, List.cons.injEq] at hx
    rw [if_pos hm, hx.1]
    exact ⟨by simp; omega, hx.2, by rw [Lib.uvarint_small hm]; rfl⟩
  · rw [Lib.uvarint_big (by omega)] at hx
    simp only [List.cons_append, List.cons.injEq] at hx
    rw [if_neg hm, hx.1]
    exact ⟨by simp; omega, hx.2, by rw [Lib.uvarint_big (by omega)]; simp; omega⟩

def uvRel (S : List Nat) (xs : List UInt8) (I : World → Nat → Prop) (n i : Nat) (rest : List UInt8) (w : World) (x s : Value) (wr : World) : Prop :=
  ∃ k q m : Nat, k ≤ 8 ∧ s = .int .u64 (7 * k : Nat) ∧ x = .int .u64 (q : Nat) ∧ UvAt n k q m ∧ (k = 0 ∨ 0 < m) ∧ xs.drop (i + k) = Lib.uvarint m ++ rest ∧
    (Lib.uvarint n).length = k + (Lib.uvarint m).length ∧ I wr (i + k) ∧ Fr S w wr
theorem readUvarint {T : TypeId} {p : Addr} {S : List Nat} {xs : List UInt8} {I : World → Nat → Prop} {f : Nat} (hs : BSrc T p S xs I f) {w : World} {i n : Nat} {rest : List UInt8} (hi : I w i) (hn : n < 2 ^ 63)
    (hx : xs.drop i = Lib.uvarint n ++ rest) :
    Calls Tryz.prog 70 #[.iface T (.pointer (some p))] w fun e w' => e = .returned (.tuple #[.int .u64 n, .nilIface]) ∧ I w' (i + (Lib.uvarint n).length) ∧ Fr S w w' := by
  have hah := hs.ahead
  have hme := hs.meth
  have hen := hs.enter
  have hn' : n < 9223372036854775808 := hn
  clear hn
  go_enter Tryz.func70, Tryz.ntmps70
  go_wp2_with fail
  go_loopw [4, 5] (fun x s wr => uvRel S xs I n i rest w x s wr) (fun _ s _ => 100 - (intOf s).toNat)
  case atStart => exact ⟨0, 0, n, by omega, rfl, rfl, UvAt.start n, .inl rfl, hx, by simp, hi, Fr.refl⟩
  case round =>
    clear hx hi
    obtain ⟨k, q, m, hk, rfl, rfl, hu, hm0, hxk, hl, hI, hF⟩ := hrel
    obtain ⟨hlt, hb⟩ := uv_bound hxk
    have hc := hs.call _ _ hlt hI
    have hu1 := hu.last hn'
    have hu2 := hu.next hn'
    have hst := hu.step
    have hsm := hu.small hn'
    by_cases hm : m < 128
    · rw [if_pos hm] at hb
      obtain ⟨hb1, hb2, hb3⟩ := hb
      rw [hb1] at hc
      have Hl := Lib.hid (show i + k + 1 = i + (Lib.uvarint n).length by omega)
      have Hu := Lib.hid hu1
      clear hxk hl hb1 hb2 hb3 hu1 hu2 hst hu hsm
      rcases Nat.lt_or_ge k 8 with hk8 | hk8
      · have h56 : ¬ (7 * (k : Int) = 56) := by omega
        have h56' : 7 * (k : Int) < 63 := by omega
        go_wp2_with (refine hc.mono ?_; rintro e w1 ⟨rfl, hI1, hF1⟩)
        all_goals
          go_ret2
          refine ⟨?_, Hl.out ▸ hI1, Fr.trans hF hF1 (fun _ h _ => h)⟩
          first
            | (simp [Hu.out]; done)
            | (have h0 : m = 0 := by assumption
               have h2 := Hu.out
               simp [h0, show IntKind.u64.wrap 0 = 0 by rfl] at h2
               simp [h2]; done)
      · obtain rfl : k = 8 := by omega
        have hm00 : ¬ m = 0 := by omega
        go_wp2_with (refine hc.mono ?_; rintro e w1 ⟨rfl, hI1, hF1⟩)
        go_ret2
        have := Hu.out
        refine ⟨?_, Hl.out ▸ hI1, Fr.trans hF hF1 (fun _ h _ => h)⟩
        rw [IntWalk.u64_in _ (by omega)] at this
        simpa using this
    · rw [if_neg hm] at hb
      obtain ⟨hb1, hb2, hb3⟩ := hb
      rw [hb1] at hc
      have hk7 := hsm (by omega)
      have Hl := Lib.hid (show (Lib.uvarint n).length = k + 1 + (Lib.uvarint (m / 128)).length by omega)
      have Hx := Lib.hid hb2
      have Hu := Lib.hid hu2
      have Hst := Lib.hid hst
      have hlo : m % 128 + 128 < 256 := by omega
      have hlo' : 128 ≤ m % 128 + 128 := by omega
      have Hr : Hid ((m % 128 + 128) % 128 = m % 128) := Lib.hid (by omega)
      generalize m % 128 + 128 = b at *
      have h56 : 7 * (k : Int) < 56 := by omega
      clear hxk hl hb1 hb2 hb3 hu1 hu2 hst hu hsm
      go_wp2_with (refine hc.mono ?_; rintro e w1 ⟨rfl, hI1, hF1⟩)
      all_goals
        go_roundw
        case rel =>
          refine ⟨k + 1, _, m / 128, by omega, by go_num, ?_, Hst.out, .inr (by omega), Hx.out, Hl.out, hI1, Fr.trans hF hF1 (fun _ h _ => h)⟩
          rw [← Hu.out, ← Hr.out, ← and127 b hlo]
        case measure => simp [intOf]; omega
end Go.Proofs.Wx

namespace Go.Proofs.Wx
open Go Go.RowKit
abbrev oR20 : List (Nat × Cls) := [(0,.look),(1,.free),(2,.free)]
abbrev oR21 : List (Nat × Cls) := [(0,.free),(1,.free),(2,.free),(3,.free),(4,.free),(5,.free),(6,.free),(7,.act),(8,.free),(9,.free),(10,.free),(11,.free),(12,.free)]
theorem rdSrc (r sb : Nat) (xs : List UInt8) : BSrc 63 ⟨r, 0, none⟩ [r] xs (fun w i => Rdr w r sb xs i) 244 :=
  ⟨fun _ => ahead_bytes_Reader_ReadByte _ _, fun _ => meth_bytes_Reader_ReadByte _ _, fun _ => by kernel_rfl, fun _ _ h hi => readByte_more hi h⟩
theorem readUvarint_eof {ea : Addr} {w : World} {r sb : Nat} {xs : List UInt8} {i : Nat} (h : Rdr w r sb xs i) (hi : xs.length ≤ i) (hG : Gl ea w) :
    Calls Tryz.prog 70 #[.iface 63 (.pointer (some ⟨r, 0, none⟩))] w fun e w' => e = .returned (.tuple #[.int .u64 0, EOF ea]) ∧ Rdr w' r sb xs i ∧ Fr [r] w w' := by
  have hge := h.ge
  have hc := readByte_eof h hi hG
  go_enter Tryz.func70, Tryz.ntmps70
  go_wp2_with (first
    | (with_reducible refine wp_loop_rounds 1 ?_); rw [rounds_succ]
    | go_at_call 244; refine hc.mono ?_; rintro e w1 ⟨rfl, hR1, hF1⟩; have he := (hG.fr hF1 (by simp; omega)).eof
    | (refine wre 11 oR20 ?_)
    | (refine wre 14 oR20 ?_)
    | (with_reducible refine wEI ?_; (first | (refine wEN ?_; skip) | (refine wEF rfl (fun K hK => ?_); go_simp) | (refine wEL rfl rfl (fun K hK => ?_); go_simp) | (refine wER rfl (fun K hK => ?_); go_simp) | (refine wEM rfl (fun K hK => ?_); go_simp; try refine ⟨_, _, ⟨rfl, rfl⟩, ?_⟩) | (refine wEG rfl (fun K hK => ?_); go_simp) | (refine wEA rfl (fun K hK => ?_); go_simp))))
  go_ret2
  exact ⟨rfl, hR1, hF1⟩
theorem readAtLeast {w : World} {r sb : Nat} {xs : List UInt8} {i : Nat} (h : Rdr w r sb xs i)
    (pb po pl pc : Nat) (cs : List Value) (T : TypeId) (hp : Blk w pb cs T (0, 0)) (hpl : po + pl ≤ cs.length) (hpc : pl < 1000000000000) (hpr : pb ≠ r) (hps : pb ≠ sb) (hi : i + pl ≤ xs.length) (h0 : 0 < pl) :
    Calls Tryz.prog 132 #[.iface 63 (.pointer (some ⟨r, 0, none⟩)), .slice (some ⟨pb, po, none⟩) pl pc, .int .i64 pl] w fun e w' =>
      e = .returned (.tuple #[.int .i64 pl, .nilIface]) ∧ Rdr w' r sb xs (i + pl) ∧ Blk w' pb (lay cs po ((xs.drop i).take pl)) T (0, 0) ∧ Fr [r, pb] w w' := by
  have hl : ((xs.drop i).take pl).length = pl := by simp; omega
  have hc := fun w (h : Rdr w r sb xs i) hp => read_more h (by omega) pb po pl pc cs T hp hpl hpc hpr hps
  rw [hl] at hc
  clear hl
  go_enter Tryz.func132, Tryz.ntmps132
  go_wp2_with (first
    | (with_reducible refine wp_loop_rounds 2 ?_); rw [rounds_succ]
    | (with_reducible rw [rounds_succ])
    | go_at_call 243; refine (hc _ (h.fr (S := []) (by exact frP) (by simp) (by simp)) (by exact blkP)).mono ?_; rintro e w1 ⟨rfl, hR1, hB1, hF1⟩; replace hF1 : Fr [r, pb] w w1 := Fr.trans (S := [r, pb]) (by exact frP) hF1 (by simp)
    | (refine wre 2 oR20 ?_)
    | (refine wre 5 oR21 ?_)
    | (with_reducible refine wEI ?_; (first | (refine wEN ?_; skip) | (refine wEF rfl (fun K hK => ?_); go_simp) | (refine wEL rfl rfl (fun K hK => ?_); go_simp) | (refine wER rfl (fun K hK => ?_); go_simp) | (refine wEM rfl (fun K hK => ?_); go_simp; try refine ⟨_, _, ⟨rfl, rfl⟩, ?_⟩) | (refine wEG rfl (fun K hK => ?_); go_simp) | (refine wEA rfl (fun K hK => ?_); go_simp))))
  go_ret2
  exact ⟨rfl, hR1, hB1, hF1⟩
theorem readAtLeast_zero {w : World} (v p : Value) (hp : ∃ a c, p = .slice a 0 c) :
    Calls Tryz.prog 132 #[v, p, .int .i64 0] w fun e w' => e = .returned (.tuple #[.int .i64 0, .nilIface]) ∧ w = w' := by
  obtain ⟨a, c, rfl⟩ := hp
  go_enter Tryz.func132, Tryz.ntmps132
  go_wp2_with (first
    | (with_reducible refine wp_loop_rounds 1 ?_); rw [rounds_succ]
    | (with_reducible rw [rounds_succ])
    | (refine wre 2 oR20 ?_)
    | (refine wre 5 oR21 ?_)
    | (with_reducible refine wEI ?_; (first | (refine wEN ?_; skip) | (refine wEF rfl (fun K hK => ?_); go_simp) | (refine wEL rfl rfl (fun K hK => ?_); go_simp) | (refine wER rfl (fun K hK => ?_); go_simp) | (refine wEM rfl (fun K hK => ?_); go_simp; try refine ⟨_, _, ⟨rfl, rfl⟩, ?_⟩) | (refine wEG rfl (fun K hK => ?_); go_simp) | (refine wEA rfl (fun K hK => ?_); go_simp))))
  go_ret2
  exact ⟨rfl, rfl⟩
theorem readFull {w : World} {r sb : Nat} {xs : List UInt8} {i : Nat} (h : Rdr w r sb xs i)
    (pb po pl pc : Nat) (cs : List Value) (T : TypeId) (hp : Blk w pb cs T (0, 0)) (hpl : po + pl ≤ cs.length) (hpc : pl < 1000000000000) (hpr : pb ≠ r) (hps : pb ≠ sb) (hi : i + pl ≤ xs.length) :
    Calls Tryz.prog 105 #[.iface 63 (.pointer (some ⟨r, 0, none⟩)), .slice (some ⟨pb, po, none⟩) pl pc] w fun e w' =>
      e = .returned (.tuple #[.int .i64 pl, .nilIface]) ∧ Rdr w' r sb xs (i + pl) ∧ Blk w' pb (lay cs po ((xs.drop i).take pl)) T (0, 0) ∧ Fr [r, pb] w w' := by
  rcases Nat.eq_zero_or_pos pl with h0 | h0
  · subst h0
    go_enter Tryz.func105, Tryz.ntmps105
    go_wp2_with (first
      | go_at_call 132; refine (readAtLeast_zero _ _ ⟨_, _, rfl⟩).mono ?_; rintro e w1 ⟨rfl, rfl⟩)
    go_ret2
    exact ⟨rfl, h, hp.conv (by simp [lay, by8]), Fr.refl⟩
  · go_enter Tryz.func105, Tryz.ntmps105
    go_wp2_with (first
      | go_at_call 132; refine (readAtLeast h pb po pl pc cs T hp hpl hpc hpr hps hi h0).mono ?_; rintro e w1 ⟨rfl, hR1, hB1, hF1⟩)
    go_ret2
    exact ⟨rfl, hR1, hB1, hF1⟩
/-- Whether a bytes.Reader is one of these interfaces. -/
theorem toByteReader (a : Addr) (w : World) : Calls Tryz.prog 159 #[.iface 63 (.pointer (some a))] w fun e w' => e = .returned (.iface 63 (.pointer (some a))) ∧ w = w' := by
  go_enter Tryz.func159, Tryz.ntmps159
  go_wp2
  go_ret
  exact ⟨rfl, rfl⟩
theorem toByteReadSeeker (a : Addr) (w : World) : Calls Tryz.prog 67 #[.iface 63 (.pointer (some a))] w fun e w' => e = .returned (.iface 63 (.pointer (some a))) ∧ w = w' := by
  go_enter Tryz.func67, Tryz.ntmps67
  go_wp2
  go_ret
  exact ⟨rfl, rfl⟩
theorem ldReadSize {w : World} {r sb : Nat} {xs : List UInt8} {i n : Nat} {rest : List UInt8} (h : Rdr w r sb xs i) (hx : xs.drop i = Lib.uvarint n ++ rest) (m : Int) (hn : (n : Int) ≤ m) (hn2 : n < 1000000000000) (z : Bool) (h0 : 0 < n) :
    Calls Tryz.prog 128 #[.iface 63 (.pointer (some ⟨r, 0, none⟩)), .bool z, .int .u64 m] w fun e w' =>
      e = .returned (.tuple #[.int .u64 n, .nilIface]) ∧ Rdr w' r sb xs (i + (Lib.uvarint n).length) ∧ Fr [r] w w' := by
  have hc := readUvarint (rdSrc r sb xs) h (show n < 2 ^ 63 by omega) hx
  clear hx
  go_enter Tryz.func128, Tryz.ntmps128
  go_wp2_with (first
    | go_at_call 159; refine (toByteReader _ _).mono ?_; rintro e w1 ⟨rfl, rfl⟩
    | go_at_call 70; refine hc.mono ?_; rintro e w1 ⟨rfl, hR1, hF1⟩
    | (refine wre 4 oR20 ?_)
    | (refine wre 7 oR20 ?_)
    | (refine wre 9 oR20 ?_)
    | (with_reducible refine wEI ?_; (first | (refine wEN ?_; skip) | (refine wEF rfl (fun K hK => ?_); go_simp) | (refine wEL rfl rfl (fun K hK => ?_); go_simp) | (refine wER rfl (fun K hK => ?_); go_simp) | (refine wEM rfl (fun K hK => ?_); go_simp; try refine ⟨_, _, ⟨rfl, rfl⟩, ?_⟩) | (refine wEG rfl (fun K hK => ?_); go_simp) | (refine wEA rfl (fun K hK => ?_); go_simp))))
  go_ret2
  exact ⟨rfl, hR1, hF1⟩
theorem ldRead {w : World} {r sb : Nat} {xs : List UInt8} {i n : Nat} {rest : List UInt8} (h : Rdr w r sb xs i) (hx : xs.drop i = Lib.uvarint n ++ rest) (m : Int) (hn : (n : Int) ≤ m) (hn2 : n < 1000000000000) (z : Bool) (h0 : 0 < n) (hr : n ≤ rest.length) :
    Calls Tryz.prog 102 #[.iface 63 (.pointer (some ⟨r, 0, none⟩)), .bool z, .int .u64 m] w fun e w' =>
      ∃ b, e = .returned (.tuple #[.slice (some ⟨b, 0, none⟩) n n, .nilIface]) ∧ w.heap.size ≤ b ∧ Rdr w' r sb xs (i + (Lib.uvarint n).length + n) ∧ Blk w' b (by8 (rest.take n)) 5 (0, 0) ∧ Fr [r] w w' := by
  have hlen : i + (Lib.uvarint n).length + n ≤ xs.length := by
    have := congrArg List.length hx
    have hp := Lib.uvarint_pos n
    simp at this; omega
  have hd : (xs.drop (i + (Lib.uvarint n).length)).take n = rest.take n := by
    rw [← List.drop_drop, hx]; simp
  have hlt := h.lt
  have hc := ldReadSize h hx m hn hn2 z h0
  clear hx
  have Hd := Lib.hid hd
  clear hd
  go_enter Tryz.func102, Tryz.ntmps102
  go_wp2_with (first
    | go_at_call 128; refine hc.mono ?_; rintro e w1 ⟨rfl, hR1, hF1⟩
    | (with_reducible refine list_makeSlice (fun K hK => ?_);  refine makeB _ _ rfl _ _ _ _ n n rfl rfl rfl rfl (Nat.le_refl _) (by omega) ?_)
    | go_at_call 105; have hs1 := hF1.size; refine (readFull (hR1.fr (S := []) (by exact frP) (by simp) (by simp)) _ 0 n n (List.replicate n (.int .u8 0)) _ Blk.new (by simp) (by omega) (by omega) (by omega) hlen).mono ?_; rintro e w2 ⟨rfl, hR2, hB2, hF2⟩; replace hF2 : Fr [r] w w2 := Fr.trans (S := [r]) (by exact frP) hF2 (by simp; omega))
  go_ret2
  refine ⟨_, rfl, hF1.size, hR2, ?_, hF2⟩
  exact hB2.conv (by rw [Hd.out]; simp [lay, by8, Nat.min_eq_left hr])
end Go.Proofs.Wx

namespace Go.Proofs.Wx
open Go Go.RowKit
/-- What a slice of capacity 64 holds that has so many bytes. -/
def buf64 (ys : List UInt8) : List Value := by8 ys ++ List.replicate (64 - ys.length) (.int .u8 0)
theorem buf64_snoc {ys : List UInt8} {x : UInt8} (h : ys.length < 64) : lay (buf64 ys) ys.length [x] = buf64 (ys ++ [x]) := by
  have e : List.replicate (64 - ys.length) (Value.int .u8 0) = .int .u8 0 :: List.replicate (64 - (ys ++ [x]).length) (.int .u8 0) := by
    rw [← List.replicate_succ]; congr 1; simp; omega
  simp only [lay, buf64, by8_append]
  rw [e]
  simp [by8_length, List.drop_append]
structure Bbr (w : World) (q d r sb : Nat) (xs : List UInt8) (i0 i : Nat) : Prop where
  hq : Blk w q [.iface 63 (.pointer (some ⟨r, 0, none⟩)), .nilIface, .slice (some ⟨d, 0, none⟩) (i - i0) 64] 218 (0, 0)
  hd : Blk w d (buf64 ((xs.take i).drop i0)) 5 (0, 0)
  hr : Rdr w r sb xs i
  le : i0 ≤ i
  qd : q ≠ d
  qr : q ≠ r
  qs : q ≠ sb
  dr : d ≠ r
  ds : d ≠ sb
theorem bbrReadByte {w : World} {q d r sb : Nat} {xs : List UInt8} {i0 i : Nat} (h : Bbr w q d r sb xs i0 i) (hi : i < xs.length) (h64 : i < i0 + 64) :
    Calls Tryz.prog 347 #[.pointer (some ⟨q, 0, none⟩)] w fun e w' => e = .returned (.tuple #[.int .u8 (xs[i].toNat : Nat), .nilIface]) ∧ Bbr w' q d r sb xs i0 (i + 1) ∧ Fr [q, d, r] w w' := by
  obtain ⟨hQ, hD, hR, hle, hqd, hqr, hqs, hdr, hds⟩ := h
  have hc := hQ.cells
  have hf := hQ.free
  have hlen : ((xs.take i).drop i0).length = i - i0 := by simp; omega
  have htk : (xs.take (i + 1)).drop i0 = (xs.take i).drop i0 ++ [xs[i]] := by
    rw [List.take_succ_eq_append_getElem hi, List.drop_append_of_le_length (by simp; omega)]
  have Htk := Lib.hid htk
  have Hlen := Lib.hid hlen
  have hrl := hR.lt
  have hdl := hD.lt
  have hql := hQ.lt
  clear htk hlen
  go_enter Tryz.func347, Tryz.ntmps347
  go_wp2_with (first
    | go_at_call 244; refine (readByte_more hR hi).mono ?_; rintro e w1 ⟨rfl, hR1, hF1⟩; have hQ1 := hF1.blk hQ (by simp [hqr]); have hD1 := hF1.blk hD (by simp [hdr]); have hc1 := hQ1.cells; have hf1 := hQ1.free; clear hc hf
    | (with_reducible refine list_bi .append (fun K hK => ?_);  refine appRoom _ _ rfl d (i - i0) 64 (buf64 ((xs.take i).drop i0)) (by exact blkP) rfl _ _ 1 1 [xs[i]] rfl (Bs.new rfl) rfl (by omega) (by simp [buf64, by8_length, Hlen.out]; omega) (fun w2 hB2 hF2 => ?_); have hQ2 := hF2.blk hQ1.alloc (by simp [hqd]); have hR2 := (hR1.fr (S := [d]) (Fr.trans (S := [d]) (by exact frP) hF2 (by simp)) (by simp [Ne.symm hdr]) (by simp [Ne.symm hds])); have hF3 : Fr [q, d, r] w w2 := Fr.trans (S' := [d]) (Fr.alloc (Fr.mono hF1 (by simp))) hF2 (by simp); have hc2 := hQ2.cells; have hf2 := hQ2.free; clear hc1 hf1 hF2 hQ1 hD1 hR1)
    | (refine wre 9 [(0,.free),(1,.free),(2,.free),(3,.look),(4,.free),(5,.act),(6,.free),(7,.free),(8,.free),(9,.free),(10,.free)] ?_)
    | (refine wre 12 [(0,.free),(1,.free),(2,.free),(3,.free),(4,.look),(5,.free),(6,.look),(7,.make),(8,.act),(9,.free),(10,.free),(11,.act)] ?_)
    | (with_reducible refine wEI ?_; (first | (refine wEN ?_; skip) | (refine wEF rfl (fun K hK => ?_); go_simp) | (refine wEL rfl rfl (fun K hK => ?_); go_simp) | (refine wER rfl (fun K hK => ?_); go_simp) | (refine wEM rfl (fun K hK => ?_); go_simp; try refine ⟨_, _, ⟨rfl, rfl⟩, ?_⟩) | (refine wEG rfl (fun K hK => ?_); go_simp) | (refine wpE_actp rfl rfl (fun K hK => ?_); simp only [List.getElem_toArray, List.getElem_cons_succ, List.getElem_cons_zero]; (first | (with_reducible refine op_bi .append ?_;  refine appRoom _ _ rfl d (i - i0) 64 (buf64 ((xs.take i).drop i0)) (by exact blkP) rfl _ _ 1 1 [xs[i]] rfl (Bs.new rfl) rfl (by omega) (by simp [buf64, by8_length, Hlen.out]; omega) (fun w2 hB2 hF2 => ?_); have hQ2 := hF2.blk hQ1.alloc (by simp [hqd]); have hR2 := (hR1.fr (S := [d]) (Fr.trans (S := [d]) (by exact frP) hF2 (by simp)) (by simp [Ne.symm hdr]) (by simp [Ne.symm hds])); have hF3 : Fr [q, d, r] w w2 := Fr.trans (S' := [d]) (Fr.alloc (Fr.mono hF1 (by simp))) hF2 (by simp); have hc2 := hQ2.cells; have hf2 := hQ2.free; clear hc1 hf1 hF2 hQ1 hD1 hR1))) | (refine wEA rfl (fun K hK => ?_); go_simp))))
  go_ret2
  refine ⟨rfl, and_of (by exact frP) fun hF => ⟨?_, ?_, hR2.fr (S := [q]) (by exact frP) (by simp [Ne.symm hqr]) (by simp [Ne.symm hqs]), by omega, hqd, hqr, hqs, hdr, hds⟩⟩
  · rw [show i + 1 - i0 = i - i0 + 1 by omega]; exact blkP
  · refine Blk.setNe (by simp [hqd]) (hB2.conv ?_)
    rw [Htk.out, ← buf64_snoc (by rw [Hlen.out]; omega), Hlen.out]
end Go.Proofs.Wx

namespace Go.Proofs.Wx
open Go
/-- A multihash's bytes. -/
def mhB (code : Nat) (dig : List UInt8) : List UInt8 := Lib.uvarint code ++ (Lib.uvarint dig.length ++ dig)
theorem mhB_two (code : Nat) (dig : List UInt8) : 2 ≤ (mhB code dig).length := by
  have h1 := Lib.uvarint_pos code
  have h2 := Lib.uvarint_pos dig.length
  simp [mhB]; omega
/-- An identifier. -/
structure CidM where
  v : Nat
  codec : Nat
  code : Nat
  dig : List UInt8
def CidM.bytes (c : CidM) : List UInt8 := if c.v = 0 then mhB c.code c.dig else Lib.uvarint 1 ++ (Lib.uvarint c.codec ++ mhB c.code c.dig)
structure CidM.Ok (c : CidM) : Prop where
  len : c.dig.length ≤ 200
  kind : (c.v = 0 ∧ c.codec = 112 ∧ c.code = 18 ∧ c.dig.length = 32) ∨ (c.v = 1 ∧ c.codec < 9223372036854775808 ∧ c.code < 9223372036854775808)
theorem uv1 : Lib.uvarint 1 = [1] := Lib.uvarint_small (by decide)
theorem CidM.bytes0 {c : CidM} (h0 : c.v = 0) (hk : c.code = 18) (hl : c.dig.length = 32) : c.bytes = 18 :: 32 :: c.dig := by
  unfold CidM.bytes mhB
  rw [if_pos h0, hk, hl, Lib.uvarint_small (by decide), Lib.uvarint_small (by decide)]; rfl
theorem CidM.bytes1 {c : CidM} (h0 : c.v = 1) : c.bytes = 1 :: (Lib.uvarint c.codec ++ mhB c.code c.dig) := by
  unfold CidM.bytes
  rw [if_neg (by omega), uv1]; rfl
theorem uv9 {n : Nat} (h : n < 9223372036854775808) : (Lib.uvarint n).length ≤ 9 := Lib.uvarint_length 8 n (by omega)
theorem uv2 {n : Nat} (h : n < 16384) : (Lib.uvarint n).length ≤ 2 := Lib.uvarint_length 1 n (by omega)
theorem CidM.Ok.code_lt {c : CidM} (h : c.Ok) : c.code < 9223372036854775808 := by rcases h.kind with ⟨_, _, h, _⟩ | ⟨_, _, h⟩ <;> omega
theorem CidM.Ok.mh_le {c : CidM} (h : c.Ok) : (mhB c.code c.dig).length ≤ 211 := by
  have h1 := uv9 h.code_lt
  have h2 := uv2 (n := c.dig.length) (by have := h.len; omega)
  have := h.len
  simp [mhB]; omega
theorem CidM.Ok.le {c : CidM} (h : c.Ok) : c.bytes.length ≤ 221 ∧ 4 ≤ c.bytes.length + 1 := by
  have hm := h.mh_le
  have h2 := mhB_two c.code c.dig
  rcases h.kind with ⟨h0, _, _, hl⟩ | ⟨h1, hc, _⟩
  · rw [CidM.bytes0 h0 (by assumption) hl]; simp; omega
  · rw [CidM.bytes1 h1]
    have := uv9 hc
    have hp := Lib.uvarint_pos c.codec
    simp; omega
end Go.Proofs.Wx
