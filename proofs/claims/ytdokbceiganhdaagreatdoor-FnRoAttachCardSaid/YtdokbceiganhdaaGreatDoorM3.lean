import Derived.Test.YtdokbceiganhdaaGreatDoorM1
import Derived.Test.YtdokbceiganhdaaGreatDoorM2
set_option maxRecDepth 100000
set_option maxHeartbeats 1000000
set_option linter.unusedVariables false
set_option linter.unusedSimpArgs false
set_option linter.deprecated false
set_option linter.all false
set_option linter.unusedSectionVars false
namespace Go.Proofs.Wx
open Go Go.RowKit
/-- p, of dynamic type T, hands out the bytes of xs one by one; I w i: it stands at i. -/
structure BSrc (T : TypeId) (p : Addr) (S : List Nat) (xs : List UInt8) (I : World → Nat → Prop) (f : Nat) : Prop where
  ahead : ∀ w, (nilAhead 615 T (.pointer (some p)) "ReadByte").run Tryz.prog w = .ok (some false) w
  meth : ∀ w, (method 615 T (.pointer (some p)) "ReadByte").run Tryz.prog w = .ok (f, .pointer (some p)) w
  enter : ∀ w,(callFunc f #[.pointer (some p)]).run Tryz.prog w = .ok (.enter f #[.pointer (some p)]) w
  call : ∀ w i (h : i < xs.length),I w i → Calls Tryz.prog f #[.pointer (some p)] w fun e w'=>e = .returned (.tuple #[.int .u8 (xs[i].toNat : Nat),.nilIface]) ∧ I w' (i + 1) ∧ Fr S w w'

theorem uv_bound {xs rest : List UInt8} {m i : Nat} (hx : xs.drop i = Lib.uvarint m ++ rest) :
    ∃ h : i < xs.length,if m < 128 then xs[i].toNat = m ∧ xs.drop (i + 1) = rest ∧ (Lib.uvarint m).length = 1 else
      xs[i].toNat = m % 128 + 128 ∧ xs.drop (i + 1) = Lib.uvarint (m / 128) ++ rest ∧ (Lib.uvarint m).length = 1 + (Lib.uvarint (m / 128)).length:=by
  have hp:=Lib.uvarint_pos m
  have h : i < xs.length:=by
    rcases Nat.lt_or_ge i xs.length with h|h
    · exact h
    · rw [List.drop_eq_nil_of_le h] at hx
      have:=congrArg List.length hx
      simp at this;omega
  refine ⟨h,?_⟩
  rw [List.drop_eq_getElem_cons h] at hx
  by_cases hm : m < 128
  · rw [Lib.uvarint_small hm] at hx
    simp only [List.cons_append,List.nil_append,List.cons.injEq] at hx
    rw [if_pos hm,hx.1]
    exact ⟨by simp;omega,hx.2,by rw [Lib.uvarint_small hm];rfl⟩
  · rw [Lib.uvarint_big (by omega)] at hx
    simp only [List.cons_append,List.cons.injEq] at hx
    rw [if_neg hm,hx.1]
    exact ⟨by simp;omega,hx.2,by rw [Lib.uvarint_big (by omega)];simp;omega⟩

def uvRel (S : List Nat) (xs : List UInt8) (I : World → Nat → Prop) (n i : Nat) (rest : List UInt8) (w : World) (x s : Value) (wr : World) : Prop :=
  ∃ k q m : Nat,k ≤ 8 ∧ s = .int .u64 (7 * k : Nat) ∧ x = .int .u64 (q : Nat) ∧ UvAt n k q m ∧ (k = 0 ∨ 0 < m) ∧ xs.drop (i + k) = Lib.uvarint m ++ rest ∧
    (Lib.uvarint n).length = k + (Lib.uvarint m).length ∧ I wr (i + k) ∧ Fr S w wr
theorem readUvarint {T : TypeId} {p : Addr} {S : List Nat} {xs : List UInt8} {I : World → Nat → Prop} {f : Nat} (hs : BSrc T p S xs I f) {w : World} {i n : Nat} {rest : List UInt8} (hi : I w i) (hn : n < 2 ^ 63)
    (hx : xs.drop i = Lib.uvarint n ++ rest) :
    Calls Tryz.prog 89 #[.iface T (.pointer (some p))] w fun e w'=>e = .returned (.tuple #[.int .u64 n,.nilIface]) ∧ I w' (i + (Lib.uvarint n).length) ∧ Fr S w w':=by
  have hah:=hs.ahead
  have hme:=hs.meth
  have hen:=hs.enter
  have hn' : n < 9223372036854775808:=hn
  clear hn
  go_enter Tryz.func89,Tryz.ntmps89
  go_wp2_with fail
  go_loopw [4,5] (fun x s wr=>uvRel S xs I n i rest w x s wr) (fun _ s _=>100 - (intOf s).toNat)
  case atStart=>exact ⟨0,0,n,by omega,rfl,rfl,UvAt.start n,.inl rfl,hx,by simp,hi,Fr.refl⟩
  case round =>
    clear hx hi
    obtain ⟨k,q,m,hk,rfl,rfl,hu,hm0,hxk,hl,hI,hF⟩:=hrel
    obtain ⟨hlt,hb⟩:=uv_bound hxk
    have hc:=hs.call _ _ hlt hI
    have hu1:=hu.last hn'
    have hu2:=hu.next hn'
    have hst:=hu.step
    have hsm:=hu.small hn'
    by_cases hm : m < 128
    · rw [if_pos hm] at hb
      obtain ⟨hb1,hb2,hb3⟩:=hb
      rw [hb1] at hc
      have Hl:=Lib.hid (show i + k + 1 = i + (Lib.uvarint n).length by omega)
      have Hu:=Lib.hid hu1
      clear hxk hl hb1 hb2 hb3 hu1 hu2 hst hu hsm
      rcases Nat.lt_or_ge k 8 with hk8|hk8
      · have h56 : ¬ (7 * (k : Int) = 56):=by omega
        have h56' : 7 * (k : Int) < 63:=by omega
        go_wp2_with (refine hc.mono ?_;rintro e w1 ⟨rfl,hI1,hF1⟩)
        all_goals
          go_ret2
          refine ⟨?_,Hl.out ▸ hI1,Fr.trans hF hF1 (fun _ h _=>h)⟩
          first
            | (simp [Hu.out];done)
            | (have h0 : m = 0:=by assumption
               have h2:=Hu.out
               simp [h0,show IntKind.u64.wrap 0 = 0 by rfl] at h2
               simp [h2];done)
      · obtain rfl : k = 8:=by omega
        have hm00 : ¬ m = 0:=by omega
        go_wp2_with (refine hc.mono ?_;rintro e w1 ⟨rfl,hI1,hF1⟩)
        go_ret2
        have:=Hu.out
        refine ⟨?_,Hl.out ▸ hI1,Fr.trans hF hF1 (fun _ h _=>h)⟩
        rw [IntWalk.u64_in _ (by omega)] at this
        simpa using this
    · rw [if_neg hm] at hb
      obtain ⟨hb1,hb2,hb3⟩:=hb
      rw [hb1] at hc
      have hk7:=hsm (by omega)
      have Hl:=Lib.hid (show (Lib.uvarint n).length = k + 1 + (Lib.uvarint (m / 128)).length by omega)
      have Hx:=Lib.hid hb2
      have Hu:=Lib.hid hu2
      have Hst:=Lib.hid hst
      have hlo : m % 128 + 128 < 256:=by omega
      have hlo' : 128 ≤ m % 128 + 128:=by omega
      have Hr : Hid ((m % 128 + 128) % 128 = m % 128):=Lib.hid (by omega)
      generalize m % 128 + 128 = b at *
      have h56 : 7 * (k : Int) < 56:=by omega
      clear hxk hl hb1 hb2 hb3 hu1 hu2 hst hu hsm
      go_wp2_with (refine hc.mono ?_;rintro e w1 ⟨rfl,hI1,hF1⟩)
      all_goals
        go_roundw
        case rel =>
          refine ⟨k + 1,_,m / 128,by omega,by go_num,?_,Hst.out,.inr (by omega),Hx.out,Hl.out,hI1,Fr.trans hF hF1 (fun _ h _=>h)⟩
          rw [← Hu.out,← Hr.out,← and127 b hlo]
        case measure=>simp [intOf];omega
end Go.Proofs.Wx

namespace Go.Proofs.Wx
open Go Go.RowKit
abbrev oR20 : List (Nat × Cls):=[(0,.look),(1,.free),(2,.free)]
abbrev oR21 : List (Nat × Cls):=[(0,.free),(1,.free),(2,.free),(3,.free),(4,.free),(5,.free),(6,.free),(7,.act),(8,.free),(9,.free),(10,.free),(11,.free),(12,.free)]
theorem rdSrc (r sb : Nat) (xs : List UInt8) : BSrc 74 ⟨r,0,none⟩ [r] xs (fun w i=>Rdr w r sb xs i) 255 :=
  ⟨fun _=>ahead_bytes_Reader_ReadByte _ _,fun _=>meth_bytes_Reader_ReadByte _ _,fun _=>by kernel_rfl,fun _ _ h hi=>readByte_more hi h⟩
theorem readAtLeast {w : World} {r sb : Nat} {xs : List UInt8} {i : Nat} (h : Rdr w r sb xs i)
    (pb po pl pc : Nat) (cs : List Value) (T : TypeId) (hp : Blk w pb cs T (0,0)) (hpl : po + pl ≤ cs.length) (hpc : pl < 1000000000000) (hpr : pb ≠ r) (hps : pb ≠ sb) (hi : i + pl ≤ xs.length) (h0 : 0 < pl) :
    Calls Tryz.prog 136 #[.iface 74 (.pointer (some ⟨r,0,none⟩)),.slice (some ⟨pb,po,none⟩) pl pc,.int .i64 pl] w fun e w' =>
      e = .returned (.tuple #[.int .i64 pl,.nilIface]) ∧ Rdr w' r sb xs (i + pl) ∧ Blk w' pb (lay cs po ((xs.drop i).take pl)) T (0,0) ∧ Fr [r,pb] w w':=by
  have hl : ((xs.drop i).take pl).length = pl:=by simp;omega
  have hc:=fun w (h : Rdr w r sb xs i) hp=>read_more h (by omega) pb po pl pc cs T hp hpl hpc hpr hps
  rw [hl] at hc
  clear hl
  go_enter Tryz.func136,Tryz.ntmps136
  go_wp2_with (first
    | (with_reducible refine wp_loop_rounds 2 ?_);rw [rounds_succ]
    | (with_reducible rw [rounds_succ])
    | go_at_call 254;refine (hc _ (h.fr (S:=[]) (by exact frP) (by simp) (by simp)) (by exact blkP)).mono ?_;rintro e w1 ⟨rfl,hR1,hB1,hF1⟩;replace hF1 : Fr [r,pb] w w1:=Fr.trans (S:=[r,pb]) (by exact frP) hF1 (by simp)
    | (refine wre 2 oR20 ?_)
    | (refine wre 5 oR21 ?_)
    | (with_reducible refine wEI ?_;(first|(refine wEN ?_;skip)|(refine wEF rfl (fun K hK=>?_);go_simp)|(refine wEL rfl rfl (fun K hK=>?_);go_simp)|(refine wER rfl (fun K hK=>?_);go_simp)|(refine wEM rfl (fun K hK=>?_);go_simp;try refine ⟨_,_,⟨rfl,rfl⟩,?_⟩)|(refine wEG rfl (fun K hK=>?_);go_simp)|(refine wEA rfl (fun K hK=>?_);go_simp))))
  go_ret2
  exact ⟨rfl,hR1,hB1,hF1⟩
theorem readAtLeast_zero {w : World} (v p : Value) (hp : ∃ a c,p = .slice a 0 c) :
    Calls Tryz.prog 136 #[v,p,.int .i64 0] w fun e w'=>e = .returned (.tuple #[.int .i64 0,.nilIface]) ∧ w = w':=by
  obtain ⟨a,c,rfl⟩:=hp
  go_enter Tryz.func136,Tryz.ntmps136
  go_wp2_with (first
    | (with_reducible refine wp_loop_rounds 1 ?_);rw [rounds_succ]
    | (with_reducible rw [rounds_succ])
    | (refine wre 2 oR20 ?_)
    | (refine wre 5 oR21 ?_)
    | (with_reducible refine wEI ?_;(first|(refine wEN ?_;skip)|(refine wEF rfl (fun K hK=>?_);go_simp)|(refine wEL rfl rfl (fun K hK=>?_);go_simp)|(refine wER rfl (fun K hK=>?_);go_simp)|(refine wEM rfl (fun K hK=>?_);go_simp;try refine ⟨_,_,⟨rfl,rfl⟩,?_⟩)|(refine wEG rfl (fun K hK=>?_);go_simp)|(refine wEA rfl (fun K hK=>?_);go_simp))))
  go_ret2
  exact ⟨rfl,rfl⟩
theorem readFull {w : World} {r sb : Nat} {xs : List UInt8} {i : Nat} (h : Rdr w r sb xs i)
    (pb po pl pc : Nat) (cs : List Value) (T : TypeId) (hp : Blk w pb cs T (0,0)) (hpl : po + pl ≤ cs.length) (hpc : pl < 1000000000000) (hpr : pb ≠ r) (hps : pb ≠ sb) (hi : i + pl ≤ xs.length) :
    Calls Tryz.prog 115 #[.iface 74 (.pointer (some ⟨r,0,none⟩)),.slice (some ⟨pb,po,none⟩) pl pc] w fun e w' =>
      e = .returned (.tuple #[.int .i64 pl,.nilIface]) ∧ Rdr w' r sb xs (i + pl) ∧ Blk w' pb (lay cs po ((xs.drop i).take pl)) T (0,0) ∧ Fr [r,pb] w w':=by
  rcases Nat.eq_zero_or_pos pl with h0|h0
  · subst h0
    go_enter Tryz.func115,Tryz.ntmps115
    go_wp2_with (first
      | go_at_call 136;refine (readAtLeast_zero _ _ ⟨_,_,rfl⟩).mono ?_;rintro e w1 ⟨rfl,rfl⟩)
    go_ret2
    exact ⟨rfl,h,hp.conv (by simp [lay,by8]),Fr.refl⟩
  · go_enter Tryz.func115,Tryz.ntmps115
    go_wp2_with (first
      | go_at_call 136;refine (readAtLeast h pb po pl pc cs T hp hpl hpc hpr hps hi h0).mono ?_;rintro e w1 ⟨rfl,hR1,hB1,hF1⟩)
    go_ret2
    exact ⟨rfl,hR1,hB1,hF1⟩
/-- Whether a bytes.Reader is one of these interfaces. -/
theorem toByteReader (a : Addr) (w : World) : Calls Tryz.prog 135 #[.iface 74 (.pointer (some a))] w fun e w'=>e = .returned (.iface 74 (.pointer (some a))) ∧ w = w':=by
  go_enter Tryz.func135,Tryz.ntmps135
  go_wp2
  go_ret
  exact ⟨rfl,rfl⟩
theorem toByteReadSeeker (a : Addr) (w : World) : Calls Tryz.prog 87 #[.iface 74 (.pointer (some a))] w fun e w'=>e = .returned (.iface 74 (.pointer (some a))) ∧ w = w':=by
  go_enter Tryz.func87,Tryz.ntmps87
  go_wp2
  go_ret
  exact ⟨rfl,rfl⟩
theorem ldReadSize {w : World} {r sb : Nat} {xs : List UInt8} {i n : Nat} {rest : List UInt8} (h : Rdr w r sb xs i) (hx : xs.drop i = Lib.uvarint n ++ rest) (m : Int) (hn : (n : Int) ≤ m) (hn2 : n < 1000000000000) (z : Bool) (h0 : 0 < n) :
    Calls Tryz.prog 145 #[.iface 74 (.pointer (some ⟨r,0,none⟩)),.bool z,.int .u64 m] w fun e w' =>
      e = .returned (.tuple #[.int .u64 n,.nilIface]) ∧ Rdr w' r sb xs (i + (Lib.uvarint n).length) ∧ Fr [r] w w':=by
  have hc:=readUvarint (rdSrc r sb xs) h (show n < 2 ^ 63 by omega) hx
  clear hx
  go_enter Tryz.func145,Tryz.ntmps145
  go_wp2_with (first
    | go_at_call 135;refine (toByteReader _ _).mono ?_;rintro e w1 ⟨rfl,rfl⟩
    | go_at_call 89;refine hc.mono ?_;rintro e w1 ⟨rfl,hR1,hF1⟩
    | (refine wre 4 oR20 ?_)
    | (refine wre 7 oR20 ?_)
    | (refine wre 9 oR20 ?_)
    | (with_reducible refine wEI ?_;(first|(refine wEN ?_;skip)|(refine wEF rfl (fun K hK=>?_);go_simp)|(refine wEL rfl rfl (fun K hK=>?_);go_simp)|(refine wER rfl (fun K hK=>?_);go_simp)|(refine wEM rfl (fun K hK=>?_);go_simp;try refine ⟨_,_,⟨rfl,rfl⟩,?_⟩)|(refine wEG rfl (fun K hK=>?_);go_simp)|(refine wEA rfl (fun K hK=>?_);go_simp))))
  go_ret2
  exact ⟨rfl,hR1,hF1⟩
theorem ldRead {w : World} {r sb : Nat} {xs : List UInt8} {i n : Nat} {rest : List UInt8} (h : Rdr w r sb xs i) (hx : xs.drop i = Lib.uvarint n ++ rest) (m : Int) (hn : (n : Int) ≤ m) (hn2 : n < 1000000000000) (z : Bool) (h0 : 0 < n) (hr : n ≤ rest.length) :
    Calls Tryz.prog 121 #[.iface 74 (.pointer (some ⟨r,0,none⟩)),.bool z,.int .u64 m] w fun e w' =>
      ∃ b,e = .returned (.tuple #[.slice (some ⟨b,0,none⟩) n n,.nilIface]) ∧ w.heap.size ≤ b ∧ Rdr w' r sb xs (i + (Lib.uvarint n).length + n) ∧ Blk w' b (by8 (rest.take n)) 5 (0,0) ∧ Fr [r] w w':=by
  have hlen : i + (Lib.uvarint n).length + n ≤ xs.length:=by
    have:=congrArg List.length hx
    have hp:=Lib.uvarint_pos n
    simp at this;omega
  have hd : (xs.drop (i + (Lib.uvarint n).length)).take n = rest.take n:=by
    rw [← List.drop_drop,hx];simp
  have hlt:=h.lt
  have hc:=ldReadSize h hx m hn hn2 z h0
  clear hx
  have Hd:=Lib.hid hd
  clear hd
  go_enter Tryz.func121,Tryz.ntmps121
  go_wp2_with (first
    | go_at_call 145;refine hc.mono ?_;rintro e w1 ⟨rfl,hR1,hF1⟩
    | (with_reducible refine list_makeSlice (fun K hK=>?_);  refine makeB _ _ rfl _ _ _ _ n n rfl rfl rfl rfl (Nat.le_refl _) (by omega) ?_)
    | go_at_call 115;have hs1:=hF1.size;refine (readFull (hR1.fr (S:=[]) (by exact frP) (by simp) (by simp)) _ 0 n n (List.replicate n (.int .u8 0)) _ Blk.new (by simp) (by omega) (by omega) (by omega) hlen).mono ?_;rintro e w2 ⟨rfl,hR2,hB2,hF2⟩;replace hF2 : Fr [r] w w2:=Fr.trans (S:=[r]) (by exact frP) hF2 (by simp;omega))
  go_ret2
  refine ⟨_,rfl,hF1.size,hR2,?_,hF2⟩
  exact hB2.conv (by rw [Hd.out];simp [lay,by8,Nat.min_eq_left hr])
end Go.Proofs.Wx

namespace Go.Proofs.Wx
open Go Go.RowKit
/-- What a slice of capacity 64 holds that has so many bytes. -/
def buf64 (ys : List UInt8) : List Value:=by8 ys ++ List.replicate (64 - ys.length) (.int .u8 0)
theorem buf64_snoc {ys : List UInt8} {x : UInt8} (h : ys.length < 64) : lay (buf64 ys) ys.length [x] = buf64 (ys ++ [x]):=by
  have e : List.replicate (64 - ys.length) (Value.int .u8 0) = .int .u8 0 :: List.replicate (64 - (ys ++ [x]).length) (.int .u8 0):=by
    rw [← List.replicate_succ];congr 1;simp;omega
  simp only [lay,buf64,by8_append]
  rw [e]
  simp [by8_length,List.drop_append]
structure Bbr (w : World) (q d r sb : Nat) (xs : List UInt8) (i0 i : Nat) : Prop where
  hq : Blk w q [.iface 74 (.pointer (some ⟨r,0,none⟩)),.nilIface,.slice (some ⟨d,0,none⟩) (i - i0) 64] 259 (0,0)
  hd : Blk w d (buf64 ((xs.take i).drop i0)) 5 (0,0)
  hr : Rdr w r sb xs i
  le : i0 ≤ i
  qd : q ≠ d
  qr : q ≠ r
  qs : q ≠ sb
  dr : d ≠ r
  ds : d ≠ sb
theorem bbrReadByte {w : World} {q d r sb : Nat} {xs : List UInt8} {i0 i : Nat} (h : Bbr w q d r sb xs i0 i) (hi : i < xs.length) (h64 : i < i0 + 64) :
    Calls Tryz.prog 391 #[.pointer (some ⟨q,0,none⟩)] w fun e w'=>e = .returned (.tuple #[.int .u8 (xs[i].toNat : Nat),.nilIface]) ∧ Bbr w' q d r sb xs i0 (i + 1) ∧ Fr [q,d,r] w w':=by
  obtain ⟨hQ,hD,hR,hle,hqd,hqr,hqs,hdr,hds⟩:=h
  have hc:=hQ.cells
  have hf:=hQ.free
  have hlen : ((xs.take i).drop i0).length = i - i0:=by simp;omega
  have htk : (xs.take (i + 1)).drop i0 = (xs.take i).drop i0 ++ [xs[i]]:=by
    rw [List.take_succ_eq_append_getElem hi,List.drop_append_of_le_length (by simp;omega)]
  have Htk:=Lib.hid htk
  have Hlen:=Lib.hid hlen
  have hrl:=hR.lt
  have hdl:=hD.lt
  have hql:=hQ.lt
  clear htk hlen
  go_enter Tryz.func391,Tryz.ntmps391
  go_wp2_with (first
    | go_at_call 255;refine (readByte_more hR hi).mono ?_;rintro e w1 ⟨rfl,hR1,hF1⟩;have hQ1:=hF1.blk hQ (by simp [hqr]);have hD1:=hF1.blk hD (by simp [hdr]);have hc1:=hQ1.cells;have hf1:=hQ1.free;clear hc hf
    | (with_reducible refine list_bi .append (fun K hK=>?_);  refine appRoom _ _ rfl d (i - i0) 64 (buf64 ((xs.take i).drop i0)) (by exact blkP) rfl _ _ 1 1 [xs[i]] rfl (Bs.new rfl) rfl (by omega) (by simp [buf64,by8_length,Hlen.out];omega) (fun w2 hB2 hF2=>?_);have hQ2:=hF2.blk hQ1.alloc (by simp [hqd]);have hR2:=(hR1.fr (S:=[d]) (Fr.trans (S:=[d]) (by exact frP) hF2 (by simp)) (by simp [Ne.symm hdr]) (by simp [Ne.symm hds]));have hF3 : Fr [q,d,r] w w2:=Fr.trans (S':=[d]) (Fr.alloc (Fr.mono hF1 (by simp))) hF2 (by simp);have hc2:=hQ2.cells;have hf2:=hQ2.free;clear hc1 hf1 hF2 hQ1 hD1 hR1)
    | (refine wre 9 [(0,.free),(1,.free),(2,.free),(3,.look),(4,.free),(5,.act),(6,.free),(7,.free),(8,.free),(9,.free),(10,.free)] ?_)
    | (refine wre 12 [(0,.free),(1,.free),(2,.free),(3,.free),(4,.look),(5,.free),(6,.look),(7,.make),(8,.act),(9,.free),(10,.free),(11,.act)] ?_)
    | (with_reducible refine wEI ?_;(first|(refine wEN ?_;skip)|(refine wEF rfl (fun K hK=>?_);go_simp)|(refine wEL rfl rfl (fun K hK=>?_);go_simp)|(refine wER rfl (fun K hK=>?_);go_simp)|(refine wEM rfl (fun K hK=>?_);go_simp;try refine ⟨_,_,⟨rfl,rfl⟩,?_⟩)|(refine wEG rfl (fun K hK=>?_);go_simp)|(refine wpE_actp rfl rfl (fun K hK=>?_);simp only [List.getElem_toArray,List.getElem_cons_succ,List.getElem_cons_zero];(first|(with_reducible refine op_bi .append ?_;  refine appRoom _ _ rfl d (i - i0) 64 (buf64 ((xs.take i).drop i0)) (by exact blkP) rfl _ _ 1 1 [xs[i]] rfl (Bs.new rfl) rfl (by omega) (by simp [buf64,by8_length,Hlen.out];omega) (fun w2 hB2 hF2=>?_);have hQ2:=hF2.blk hQ1.alloc (by simp [hqd]);have hR2:=(hR1.fr (S:=[d]) (Fr.trans (S:=[d]) (by exact frP) hF2 (by simp)) (by simp [Ne.symm hdr]) (by simp [Ne.symm hds]));have hF3 : Fr [q,d,r] w w2:=Fr.trans (S':=[d]) (Fr.alloc (Fr.mono hF1 (by simp))) hF2 (by simp);have hc2:=hQ2.cells;have hf2:=hQ2.free;clear hc1 hf1 hF2 hQ1 hD1 hR1)))|(refine wEA rfl (fun K hK=>?_);go_simp))))
  go_ret2
  refine ⟨rfl,and_of (by exact frP) fun hF=>⟨?_,?_,hR2.fr (S:=[q]) (by exact frP) (by simp [Ne.symm hqr]) (by simp [Ne.symm hqs]),by omega,hqd,hqr,hqs,hdr,hds⟩⟩
  · rw [show i + 1 - i0 = i - i0 + 1 by omega];exact blkP
  · refine Blk.setNe (by simp [hqd]) (hB2.conv ?_)
    rw [Htk.out,← buf64_snoc (by rw [Hlen.out];omega),Hlen.out]
end Go.Proofs.Wx

namespace Go.Proofs.Wx
open Go Go.RowKit
abbrev oMh2 : List (Nat × Cls):=[(0,.free),(1,.free),(2,.free),(3,.free),(4,.free),(5,.free),(6,.free)]
/-- A slice that reads as these bytes, in block b. -/
def Sl (w : World) (v : Value) (b : Nat) (xs : List UInt8) : Prop:=∃ o c,v = .slice (some ⟨b,o,none⟩) xs.length c ∧ xs.length ≤ c ∧ (xs.length < 1000000000000 ∧ c ≤ 9223372036854775807) ∧ Bs w b o xs
theorem Sl.fr {w w' : World} {v : Value} {b : Nat} {xs : List UInt8} {S : List Nat} (h : Sl w v b xs) (hf : Fr S w w') (hn : b ∉ S) : Sl w' v b xs:=by
  obtain ⟨o,c,h1,h2,h3,h4⟩:=h;exact ⟨o,c,h1,h2,h3,h4.fr hf hn⟩
theorem Sl.back {w w' : World} {v : Value} {b : Nat} {xs : List UInt8} {S : List Nat} (h : Sl w' v b xs) (hf : Fr S w w') (hb : b < w.heap.size) (hn : b ∉ S) : Sl w v b xs:=by
  obtain ⟨o,c,h1,h2,h3,h4⟩:=h
  exact ⟨o,c,h1,h2,h3,hb,fun k hk=>by rw [← World.cell?_of_block (w:=w) (hf.block b hb hn)];exact h4.cell k hk⟩
theorem Sl.drop {w : World} {b o c k : Nat} {xs : List UInt8} (h4 : Bs w b o xs) (h2 : xs.length ≤ c) (h3 : xs.length < 1000000000000 ∧ c ≤ 9223372036854775807) (hk : k ≤ xs.length) :
    Sl w (.slice (if c = k then some ⟨b,o,none⟩ else some ⟨b,o + k,none⟩) (xs.length - k) (c - k)) b (xs.drop k):=by
  by_cases hc : c = k
  · refine ⟨o,c - k,by simp [hc],by simp;omega,by simp;omega,⟨h4.lt,fun j hj=>?_⟩⟩
    simp at hj;omega
  · exact ⟨o + k,c - k,by simp [hc],by simp;omega,by simp;omega,h4.drop k⟩
theorem Sl.lt {w : World} {v : Value} {b : Nat} {xs : List UInt8} (h : Sl w v b xs) : b < w.heap.size:=by obtain ⟨o,c,h1,h2,h3,h4⟩:=h;exact h4.lt
def fuRel (xs : List UInt8) (n : Nat) (rest : List UInt8) (x s i : Value) : Prop :=
  ∃ k q m : Nat,k ≤ 8 ∧ i = .int .i64 k ∧ s = .int .u64 (7 * k : Nat) ∧ x = .int .u64 (q : Nat) ∧ UvAt n k q m ∧ (k = 0 ∨ 0 < m) ∧ xs.drop k = Lib.uvarint m ++ rest ∧
    (Lib.uvarint n).length = k + (Lib.uvarint m).length
theorem fromUvarint {w : World} {v : Value} {b n : Nat} {xs rest : List UInt8} (h : Sl w v b xs) (hn : n < 9223372036854775808) (hx : xs = Lib.uvarint n ++ rest) :
    Calls Tryz.prog 196 #[v] w fun e w'=>e = .returned (.tuple #[.int .u64 n,.int .i64 (Lib.uvarint n).length,.nilIface]) ∧ w = w':=by
  obtain ⟨o,c,rfl,hl,hcb,hB⟩:=h
  have hx' : xs.drop 0 = Lib.uvarint n ++ rest:=by simpa using hx
  clear hx
  have hlen : xs.length < 1000000000000:=by omega
  go_enter Tryz.func196,Tryz.ntmps196
  go_wp2_with fail
  go_loop [5,6,11] (fun x s i=>fuRel xs n rest x s i) (fun _ s _=>100 - (intOf s).toNat)
  case atStart=>exact ⟨0,0,n,by omega,rfl,rfl,rfl,UvAt.start n,.inl rfl,hx',by simp⟩
  case round =>
    clear hx'
    obtain ⟨k,q,m,hk,rfl,rfl,rfl,hu,hm0,hxk,hl⟩:=hrel
    obtain ⟨hlt,hb⟩:=uv_bound hxk
    have hc:=hB.cell k hlt
    have hu1:=hu.last hn
    have hu2:=hu.next hn
    have hst:=hu.step
    have hsm:=hu.small hn
    by_cases hm : m < 128
    · rw [if_pos hm] at hb
      obtain ⟨hb1,hb2,hb3⟩:=hb
      rw [hb1] at hc
      have Hl:=Lib.hid (show k + 1 = (Lib.uvarint n).length by omega)
      have Hu:=Lib.hid hu1
      clear hxk hl hb1 hb2 hb3 hu1 hu2 hst hu hsm
      rcases Nat.lt_or_ge k 8 with hk8|hk8
      · have h56 : ¬ ((k : Int) = 8):=by omega
        have h56' : (k : Int) < 9:=by omega
        go_wp2
        all_goals
          go_ret3
          refine ⟨?_,rfl⟩
          rw [← Hl.out]
          first
            | (simp [Hu.out];done)
            | (have h0 : m = 0:=by assumption
               have h2:=Hu.out
               simp [h0,show IntKind.u64.wrap 0 = 0 by rfl] at h2
               simp [h2];done)
      · obtain rfl : k = 8:=by omega
        have hm00 : ¬ m = 0:=by omega
        go_wp2
        go_ret3
        have:=Hu.out
        refine ⟨?_,rfl⟩
        rw [← Hl.out]
        rw [IntWalk.u64_in _ (by omega)] at this
        simpa using this
    · rw [if_neg hm] at hb
      obtain ⟨hb1,hb2,hb3⟩:=hb
      rw [hb1] at hc
      have hk7:=hsm (by omega)
      have Hl:=Lib.hid (show (Lib.uvarint n).length = k + 1 + (Lib.uvarint (m / 128)).length by omega)
      have Hx:=Lib.hid hb2
      have Hu:=Lib.hid hu2
      have Hst:=Lib.hid hst
      have hlo : m % 128 + 128 < 256:=by omega
      have hlo' : 128 ≤ m % 128 + 128:=by omega
      have Hr : Hid ((m % 128 + 128) % 128 = m % 128):=Lib.hid (by omega)
      generalize m % 128 + 128 = b at *
      have h56 : (k : Int) < 8:=by omega
      clear hxk hl hb1 hb2 hb3 hu1 hu2 hst hu hsm
      go_wp2
      all_goals
        go_round
        case rel =>
          refine ⟨k + 1,_,m / 128,by omega,by go_num,by go_num,?_,Hst.out,.inr (by omega),Hx.out,Hl.out⟩
          rw [← Hu.out,← Hr.out,← and127 b hlo]
        case measure=>simp [intOf];omega
theorem Sl.drew {w : World} {v : Value} {b : Nat} {xs : List UInt8} (h : Sl w v b xs) : Sl w.drew v b xs:=h.fr (S:=[]) (Fr.drew Fr.refl) (by simp)
theorem Sl.take {w : World} {b o c k : Nat} {xs : List UInt8} (h4 : Bs w b o xs) (h2 : xs.length ≤ c) (h3 : xs.length < 1000000000000 ∧ c ≤ 9223372036854775807) (hk : k ≤ xs.length) :
    Sl w (.slice (some ⟨b,o,none⟩) k c) b (xs.take k):=⟨o,c,by simp;omega,by simp;omega,by simp;omega,h4.take k⟩
theorem Sl.mk {w : World} {b o c n : Nat} {xs : List UInt8} (h4 : Bs w b o xs) (h2 : xs.length ≤ c) (h3 : xs.length < 1000000000000 ∧ c ≤ 9223372036854775807) (hn : xs.length = n) :
    Sl w (.slice (some ⟨b,o,none⟩) n c) b xs:=⟨o,c,by rw [hn],h2,h3,h4⟩
theorem mhUvarint {w : World} {v : Value} {b n : Nat} {xs rest : List UInt8} (h : Sl w v b xs) (hn : n < 9223372036854775808) (hx : xs = Lib.uvarint n ++ rest) :
    Calls Tryz.prog 184 #[v] w fun e w'=>∃ v',e = .returned (.tuple #[.int .u64 n,v',.nilIface]) ∧ Sl w v' b rest ∧ w' = w.drew:=by
  have hc:=fromUvarint h hn hx
  obtain ⟨o,c,rfl,hl,hcb,hB⟩:=h
  have hp:=Lib.uvarint_pos n
  have hle : (Lib.uvarint n).length ≤ xs.length:=by rw [hx];simp
  have hd : xs.drop (Lib.uvarint n).length = rest:=by rw [hx];simp
  have hS:=Sl.drop hB hl hcb hle
  rw [hd] at hS
  have HS:=Lib.hid hS
  clear hS hx hd
  have hlen : xs.length < 1000000000000:=by omega
  generalize (Lib.uvarint n).length = k at *
  have hk : ¬ ((k : Int) = 0):=by omega
  have hk' : 0 ≤ (k : Int):=by omega
  go_enter Tryz.func184,Tryz.ntmps184
  go_wp2_with (first
    | go_at_call 196;refine hc.mono ?_;rintro e w1 ⟨rfl,rfl⟩
    | (refine wre 5 [(0,.free),(1,.free),(2,.look),(3,.free),(4,.free),(5,.free)] ?_)
    | (refine wre 7 [(0,.free),(1,.free),(2,.free),(3,.free),(4,.free),(5,.look),(6,.free),(7,.free),(8,.free)] ?_)
    | (refine wre 8 oMh2 ?_)
    | (with_reducible refine wEI ?_;(first|(refine wEN ?_;skip)|(refine wEF rfl (fun K hK=>?_);go_simp)|(refine wEL rfl rfl (fun K hK=>?_);go_simp)|(refine wER rfl (fun K hK=>?_);go_simp)|(refine wEM rfl (fun K hK=>?_);go_simp;try refine ⟨_,_,⟨rfl,rfl⟩,?_⟩)|(refine wEG rfl (fun K hK=>?_);go_simp)|(refine wEA rfl (fun K hK=>?_);go_simp))))
  all_goals
    go_ret3
    refine ⟨_,rfl,?_,rfl⟩
    have h1:=HS.out
    first|(simpa using h1;done)|(simpa [*] using h1;done)
theorem readMh {w : World} {v : Value} {b code : Nat} {xs dig rest : List UInt8} (h : Sl w v b xs) (hn : code < 9223372036854775808) (hx : xs = mhB code dig ++ rest) (hd : dig.length < 2147483647) :
    Calls Tryz.prog 150 #[v] w fun e w'=>∃ v',e = .returned (.tuple #[.int .i64 (mhB code dig).length,.int .u64 code,v',.nilIface]) ∧ Sl w v' b dig ∧ w' = w.drew.drew.drew:=by
  have hx' : xs = Lib.uvarint code ++ (Lib.uvarint dig.length ++ (dig ++ rest)):=by rw [hx];simp [mhB]
  have h2:=mhB_two code dig
  have hxl : xs.length = (mhB code dig).length + rest.length:=by rw [hx];simp
  have hlm : (mhB code dig).length = (Lib.uvarint code).length + ((Lib.uvarint dig.length).length + dig.length):=by simp [mhB]
  have hc:=mhUvarint h hn hx'
  obtain ⟨o,c,rfl,hl,hcb,hB⟩:=h
  have hc2:=fun w v (h : Sl w v b (Lib.uvarint dig.length ++ (dig ++ rest)))=>mhUvarint (n:=dig.length) h (by omega) rfl
  have Hxl:=Lib.hid hxl
  have Hlm:=Lib.hid hlm
  have hlen : xs.length < 1000000000000:=by omega
  have hge : 2 ≤ xs.length:=by omega
  have hge' : (mhB code dig).length ≤ xs.length:=by omega
  clear hx hx' hxl hlm
  generalize (mhB code dig).length = M at *
  go_enter Tryz.func150,Tryz.ntmps150
  go_wp2_with fail
  refine hc.mono ?_;rintro e w1 ⟨v1,rfl,hS1,rfl⟩
  go_wp2_with fail
  refine (hc2 _ _ hS1.drew).mono ?_;rintro e w1 ⟨v2,rfl,hS2,rfl⟩
  obtain ⟨o2,c2,rfl,hl2,hcb2,hB2⟩:=hS2
  have ht : Sl w (.slice (some ⟨b,o2,none⟩) dig.length c2) b dig:=by
    have:=Sl.take (k:=dig.length) hB2 hl2 hcb2 (by simp)
    simpa using this.fr (S:=[]) (w':=w) ⟨rfl,rfl,rfl,Nat.le_refl _,fun _ _ _=>rfl⟩ (by simp)
  have Ht:=Lib.hid ht
  have hlc : (dig ++ rest).length = dig.length + rest.length:=by simp
  rw [hlc] at hl2
  simp only [hlc]
  have hMl : (xs.length : Int) - ((dig.length : Int) + rest.length) + dig.length = M:=by have:=Hxl.out;have:=Hlm.out;omega
  have HMl:=Lib.hid hMl
  clear ht hlc hB2 hc hc2 hMl
  go_wp2_with (first
    | (refine wre 3 [(0,.look),(1,.free),(2,.free),(3,.free),(4,.free)] ?_)
    | (refine wre 17 [(0,.free),(1,.free),(2,.free),(3,.free),(4,.free),(5,.free),(6,.free),(7,.free),(8,.free)] ?_)
    | (with_reducible refine wEI ?_;(first|(refine wEN ?_;skip)|(refine wEF rfl (fun K hK=>?_);go_simp)|(refine wEL rfl rfl (fun K hK=>?_);go_simp)|(refine wER rfl (fun K hK=>?_);go_simp)|(refine wEM rfl (fun K hK=>?_);go_simp;try refine ⟨_,_,⟨rfl,rfl⟩,?_⟩)|(refine wEG rfl (fun K hK=>?_);go_simp)|(refine wEA rfl (fun K hK=>?_);go_simp))))
  refine bodyPost_ret (results_tmp4 rfl _ _ _) rfl ⟨_,?_,Ht.out,rfl⟩
  rw [← HMl.out];rfl
theorem mhFromBytes {w : World} {v : Value} {b code : Nat} {xs dig rest : List UInt8} (h : Sl w v b xs) (hn : code < 9223372036854775808) (hx : xs = mhB code dig ++ rest) (hd : dig.length < 2147483647) :
    Calls Tryz.prog 125 #[v] w fun e w'=>∃ v',e = .returned (.tuple #[.int .i64 (mhB code dig).length,v',.nilIface]) ∧ Fr [] w w':=by
  have hc:=readMh h hn hx hd
  have hl : (mhB code dig).length ≤ xs.length:=by rw [hx];simp
  obtain ⟨o,c,rfl,hl2,hcb,hB⟩:=h
  clear hx
  generalize (mhB code dig).length = M at *
  go_enter Tryz.func125,Tryz.ntmps125
  go_wp2_with (first
    | go_at_call 150;refine hc.mono ?_;rintro e w1 ⟨v1,rfl,hS1,rfl⟩
    | (refine wre 4 oMh2 ?_)
    | (with_reducible refine wEI ?_;(first|(refine wEN ?_;skip)|(refine wEF rfl (fun K hK=>?_);go_simp)|(refine wEL rfl rfl (fun K hK=>?_);go_simp)|(refine wER rfl (fun K hK=>?_);go_simp)|(refine wEM rfl (fun K hK=>?_);go_simp;try refine ⟨_,_,⟨rfl,rfl⟩,?_⟩)|(refine wEG rfl (fun K hK=>?_);go_simp)|(refine wEA rfl (fun K hK=>?_);go_simp))))
  go_ret3
  exact ⟨_,rfl,by exact frP⟩
/-- multihash.Decode of the bytes of one multihash. -/
def DmAt (w : World) (p : Nat) (code : Nat) (b : Nat) (dig : List UInt8) : Prop:=∃ v,Blk w p [.int .u64 code,.string ⟨#[]⟩,.int .i64 dig.length,v] 324 (0,0) ∧ Sl w v b dig
theorem mhDecode {w : World} {v : Value} {b code : Nat} {dig : List UInt8} (h : Sl w v b (mhB code dig)) (hn : code < 9223372036854775808) (hd : dig.length < 2147483647) :
    Calls Tryz.prog 183 #[v] w fun e w'=>∃ v',e = .returned (.tuple #[.agg #[.int .u64 code,.string ⟨#[]⟩,.int .i64 dig.length,v'],.nilIface]) ∧ Sl w' v' b dig ∧ Fr [] w w':=by
  have hc:=fun w' (h : Sl w' v b (mhB code dig))=>readMh (rest:=[]) h hn (by simp) hd
  have hal:=fun (ob : Obj)=>h.fr (S:=[]) (w':=w.alloc ob) (by exact frP) (by simp)
  obtain ⟨o,c,rfl,hl2,hcb,hB⟩:=h
  generalize (mhB code dig).length = M at *
  go_enter Tryz.func183,Tryz.ntmps183
  go_wp2_with (first
    | go_at_call 150;refine (hc _ (hal _)).mono ?_;rintro e w1 ⟨v1,rfl,hS1,rfl⟩;have hS2:=hS1;obtain ⟨o1,c1,rfl,hl1,hcb1,hB1⟩:=hS1)
  refine bodyPost_ret (v:=.tuple #[.agg #[.int .u64 code,.string ⟨#[]⟩,.int .i64 dig.length,.slice (some ⟨b,o1,none⟩) dig.length c1],.nilIface]) (by simp [results,Tryz.results183,go_sem]) rfl ⟨_,rfl,?_,?_⟩
  · exact (hS2.back (w:=w) (S:=[]) (by exact frP) hB.lt (by simp)).fr (S:=[]) (by exact frP) (by simp)
  · exact frP
theorem mhDecodeP {w : World} {v : Value} {b code : Nat} {dig : List UInt8} (h : Sl w v b (mhB code dig)) (hn : code < 9223372036854775808) (hd : dig.length < 2147483647) :
    Calls Tryz.prog 149 #[v] w fun e w'=>∃ p,e = .returned (.tuple #[.pointer (some ⟨p,0,none⟩),.nilIface]) ∧ w.heap.size ≤ p ∧ DmAt w' p code b dig ∧ Fr [] w w':=by
  have hc:=mhDecode h hn hd
  have hlt:=h.lt
  go_enter Tryz.func149,Tryz.ntmps149
  go_wp2_with (first
    | go_at_call 183;refine hc.mono ?_;rintro e w1 ⟨v1,rfl,hS1,hF1⟩;have hS2:=hS1;obtain ⟨o1,c1,rfl,hl1,hcb1,hB1⟩:=hS1)
  go_ret2
  refine ⟨_,rfl,hF1.size,?_,?_⟩
  · exact ⟨_,Blk.new (cs:=[_,_,_,_]),hS2.fr (S:=[]) (by exact frP) (by simp)⟩
  · exact frP
theorem mhCast {w : World} {v : Value} {b code : Nat} {dig : List UInt8} (h : Sl w v b (mhB code dig)) (hn : code < 9223372036854775808) (hd : dig.length < 2147483647) :
    Calls Tryz.prog 124 #[v] w fun e w'=>e = .returned (.tuple #[v,.nilIface]) ∧ Fr [] w w':=by
  have hc:=mhDecodeP h hn hd
  obtain ⟨o,c,rfl,hl2,hcb,hB⟩:=h
  generalize (mhB code dig).length = M at *
  go_enter Tryz.func124,Tryz.ntmps124
  go_wp2_with (first
    | go_at_call 149;refine hc.mono ?_;rintro e w1 ⟨p,rfl,hp,hS1,hF1⟩)
  go_ret2
  exact ⟨rfl,hF1⟩
end Go.Proofs.Wx

namespace Go.Proofs.Wx
open Go Go.RowKit
@[go_sem] theorem eql_nil_err (a : Addr) (w : World) : (binOp .eql 71 .nilIface (.iface 223 (.pointer (some a)))).run Tryz.prog w = .ok (.bool false) w:=by kernel_rfl
@[go_sem] theorem ahead_shared_readerToScanner_Read (a : Addr) (w : World) : (nilAhead 615 363 (.pointer (some a)) "Read").run Tryz.prog w = .ok (some false) w := by kernel_rfl
@[go_sem] theorem meth_shared_readerToScanner_Read (a : Addr) (w : World) : (method 615 363 (.pointer (some a)) "Read").run Tryz.prog w = .ok (421, .pointer (some a)) w := by kernel_rfl
@[go_sem] theorem ahead_shared_readerToScanner_ReadByte (a : Addr) (w : World) : (nilAhead 615 363 (.pointer (some a)) "ReadByte").run Tryz.prog w = .ok (some false) w := by kernel_rfl
@[go_sem] theorem meth_shared_readerToScanner_ReadByte (a : Addr) (w : World) : (method 615 363 (.pointer (some a)) "ReadByte").run Tryz.prog w = .ok (422, .pointer (some a)) w := by kernel_rfl
/-- q is a readerToScanner over the bytes.Reader r. -/
structure Rts (w : World) (q r sb : Nat) (xs : List UInt8) (i : Nat) : Prop where
  hq : ∃ l s b : Nat,Blk w q [.iface 74 (.pointer (some ⟨r,0,none⟩)),.int .u8 l,.int .u8 s,.int .u8 b] 365 (0,0) ∧ s ≠ 1
  hr : Rdr w r sb xs i
  qr : q ≠ r
  qs : q ≠ sb
theorem Rts.fr {w w' : World} {q r sb : Nat} {xs : List UInt8} {i : Nat} {S : List Nat} (h : Rts w q r sb xs i) (hf : Fr S w w') (h1 : q ∉ S) (h2 : r ∉ S) (h3 : sb ∉ S) : Rts w' q r sb xs i:=by
  obtain ⟨⟨l,s,b,hB,hs⟩,hr,h4,h5⟩:=h
  exact ⟨⟨l,s,b,hf.blk hB h1,hs⟩,hr.fr hf h2 h3,h4,h5⟩
theorem rtsRead {ea : Addr} {w : World} {q r sb : Nat} {xs : List UInt8} {i : Nat} (h : Rts w q r sb xs i)
    (pb po pl pc : Nat) (cs : List Value) (T : TypeId) (hp : Blk w pb cs T (0,0)) (hpl : po + pl ≤ cs.length) (hpc : pl < 1000000000000) (hpq : pb ≠ q) (hpr : pb ≠ r) (hps : pb ≠ sb) (hi : i + pl ≤ xs.length) (h0 : 0 < pl) (hG : Gl ea w) (hpg : 28 ≤ pb) :
    Calls Tryz.prog 421 #[.pointer (some ⟨q,0,none⟩),.slice (some ⟨pb,po,none⟩) pl pc] w fun e w' =>
      e = .returned (.tuple #[.int .i64 pl,.nilIface]) ∧ Rts w' q r sb xs (i + pl) ∧ Blk w' pb (lay cs po ((xs.drop i).take pl)) T (0,0) ∧ Fr [q,r,pb] w w':=by
  obtain ⟨⟨l,s,b,hB,hs⟩,hR,hqr,hqs⟩:=h
  have hl : ((xs.drop i).take pl).length = pl:=by simp;omega
  have hrd:=fun (w' : World) (hf : Fr [] w w')=>read_more (hR.fr hf (by simp) (by simp)) (by omega) pb po pl pc cs T (hf.blk hp (by simp)) hpl hpc hpr hps
  rw [hl] at hrd
  have hc:=hB.cells
  have hf:=hB.free
  have hrg:=hR.ge
  have hqr':=Ne.symm hqr
  have hqs':=Ne.symm hqs
  have hpq':=Ne.symm hpq
  have hs' : ¬ (s : Int) = 1:=by omega
  have hlast : ∀ w',Blk w' pb (lay cs po ((xs.drop i).take pl)) T (0,0) → ∃ v : Nat,w'.cell? ⟨pb,po + (pl - 1),none⟩ = some (.int .u8 v):=fun w' hb=>by
    have:=(Blk.bs (pre:=cs.take po) (o:=po) hb rfl (by simp;omega)).cell (pl - 1) (by rw [hl];omega)
    exact ⟨_,this⟩
  have HL:=Lib.hid hlast
  clear hlast hl
  generalize (xs.drop i).take pl = X at *
  go_enter Tryz.func421,Tryz.ntmps421
  go_wp2_with (first
    | go_at_call 254;refine (hrd _ (by exact frP)).mono ?_;rintro e w1 ⟨rfl,hR1,hB1,hF1⟩;obtain ⟨v1,hv1⟩:=HL.out _ hB1;have he1:=(hG.fr (Fr.trans (S:=[r,pb]) (by exact frP) hF1 (by simp)) (by simp;omega)).eof;have hQ1:=hF1.blk hB (by simp [hqr,hpq']);have hc1:=hQ1.cells;have hf1:=hQ1.free;clear hc hf)
  go_ret2
  refine ⟨by simp,and_of (and_of (by exact frP) fun hF=>?_) fun hF=>⟨⟨v1,2,b,?_,by omega⟩,hR1.fr (S:=[q]) (by exact frP) (by simp [hqr']) (by simp [hqs']),hqr,hqs⟩⟩
  all_goals exact blkP
/-- Read into the scanner's own byte. -/
theorem rtsReadOwn {ea : Addr} {w : World} {q r sb : Nat} {xs : List UInt8} {i : Nat} (h : Rts w q r sb xs i) (hi : i < xs.length) (hG : Gl ea w) (hpg : 28 ≤ q) :
    Calls Tryz.prog 421 #[.pointer (some ⟨q,0,none⟩),.slice (some ⟨q,3,none⟩) 1 1] w fun e w' =>
      e = .returned (.tuple #[.int .i64 1,.nilIface]) ∧ Rts w' q r sb xs (i + 1) ∧ w'.cell? ⟨q,3,none⟩ = some (.int .u8 (xs[i].toNat : Nat)) ∧ Fr [q,r] w w':=by
  obtain ⟨⟨l,s,b,hB,hs⟩,hR,hqr,hqs⟩:=h
  have hl : (xs.drop i).take 1 = [xs[i]]:=by rw [List.drop_eq_getElem_cons hi];rfl
  have hrd:=fun (w' : World) (hf : Fr [] w w')=>read_more (hR.fr hf (by simp) (by simp)) hi q 3 1 1 _ _ (hf.blk hB (by simp)) (by simp) (by omega) hqr hqs
  rw [hl] at hrd
  have hrg:=hR.ge
  have hqr':=Ne.symm hqr
  have hqs':=Ne.symm hqs
  have hs' : ¬ (s : Int) = 1:=by omega
  have hc:=hB.cells
  have hf:=hB.free
  generalize xs[i] = X at *
  simp only [lay,List.length_singleton,List.take_succ_cons,List.take_zero,by8,List.map_cons,List.map_nil,List.drop_succ_cons,List.cons_append,List.nil_append,List.append_nil,List.drop_nil] at hrd
  go_enter Tryz.func421,Tryz.ntmps421
  go_wp2_with (first
    | go_at_call 254;refine (hrd _ (by exact frP)).mono ?_;rintro e w1 ⟨rfl,hR1,hB1,hF1⟩;have he1:=(hG.fr (Fr.trans (S:=[r,q]) (by exact frP) hF1 (by simp)) (by simp;omega)).eof;have hc1:=hB1.cells;have hf1:=hB1.free;clear hc hf)
  go_ret2
  refine ⟨by simp,and_of (and_of (by exact frP) fun hF=>?_) fun hF=>⟨⟨X.toNat,2,X.toNat,?_,by omega⟩,hR1.fr (S:=[q]) (by exact frP) (by simp [hqr']) (by simp [hqs']),hqr,hqs⟩⟩
  · refine Blk.cell (cs:=[.iface 74 (.pointer (some ⟨r,0,none⟩)),.int .u8 X.toNat,.int .u8 2,.int .u8 X.toNat]) (T:=365) (fr:=(0,0)) ?_ 3
    exact blkP
  · exact blkP
theorem rtsReadByte {ea : Addr} {w : World} {q r sb : Nat} {xs : List UInt8} {i : Nat} (h : Rts w q r sb xs i) (hi : i < xs.length) (hG : Gl ea w) (hpg : 28 ≤ q) :
    Calls Tryz.prog 422 #[.pointer (some ⟨q,0,none⟩)] w fun e w' =>
      e = .returned (.tuple #[.int .u8 (xs[i].toNat : Nat),.nilIface]) ∧ Rts w' q r sb xs (i + 1) ∧ Fr [q,r] w w':=by
  have hrd:=fun (w' : World) (hf : Fr [] w w')=>rtsReadOwn (h.fr hf (by simp) (by simp) (by simp)) hi (hG.fr hf (by simp)) hpg
  have hrg:=h.hr.ge
  go_enter Tryz.func422,Tryz.ntmps422
  go_wp2_with (first
    | go_at_call 421;refine (hrd _ (by exact frP)).mono ?_;rintro e w1 ⟨rfl,hR1,hc1,hF1⟩;have he1:=(hG.fr (Fr.trans (S:=[q,r]) (by exact frP) hF1 (by simp)) (by simp;omega)).eof)
  go_ret2
  exact ⟨rfl,hR1.fr (S:=[]) (by exact frP) (by simp) (by simp) (by simp),by exact frP⟩
end Go.Proofs.Wx
