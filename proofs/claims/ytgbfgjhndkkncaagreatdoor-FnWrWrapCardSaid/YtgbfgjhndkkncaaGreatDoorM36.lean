import Derived.Test.YtgbfgjhndkkncaaGreatDoorM8
import Derived.Test.YtgbfgjhndkkncaaGreatDoorM10
import Derived.Test.YtgbfgjhndkkncaaGreatDoorM11
import Derived.Test.YtgbfgjhndkkncaaGreatDoorM14
import Derived.Test.YtgbfgjhndkkncaaGreatDoorM15
import Derived.Test.YtgbfgjhndkkncaaGreatDoorM16
import Derived.Test.YtgbfgjhndkkncaaGreatDoorM17
import Derived.Test.YtgbfgjhndkkncaaGreatDoorM35
import Derived.Shelf.Abstract
set_option maxRecDepth 100000
set_option maxHeartbeats 1000000
set_option linter.unusedVariables false
set_option linter.unusedSimpArgs false
set_option linter.deprecated false
set_option linter.all false
set_option linter.unusedSectionVars false
namespace Go.Proofs.Wx
open Go Go.RowKit
theorem newMh (w : World) : Calls Tryz.prog 65 #[] w fun e w' => ∃ ix bm, e = .returned (.pointer (some ⟨ix, 0, none⟩)) ∧ w.heap.size ≤ ix ∧ w.heap.size ≤ bm ∧ ix ≠ bm ∧ Blk w' ix [.map (some bm)] 192 (0, 0) ∧ Mp w' bm .u64 [] ∧ Fr [] w w' := by
  have hM : Mp (w.alloc (.map #[] 0)) w.heap.size .u64 [] := Mp.new
  go_enter Tryz.func65, Tryz.ntmps65
  go_wp2
  go_ret
  refine ⟨_, w.heap.size, rfl, by simp, Nat.le_refl _, by simp, ?_, hM.fr (Fr.alloc Fr.refl : Fr [] _ _) (by simp), by exact frP⟩
  exact Blk.conv (cs' := [_]) (by repeat (first | (with_reducible refine Blk.newAt ?_; (simp; done)) | (with_reducible apply Blk.drew) | (with_reducible apply Blk.alloc))) rfl
theorem indexNew (w : World) : Calls Tryz.prog 36 #[.int .u64 1025] w fun e w' => ∃ ix bm, e = .returned (.tuple #[.iface 128 (.pointer (some ⟨ix, 0, none⟩)), .nilIface]) ∧ w.heap.size ≤ ix ∧ w.heap.size ≤ bm ∧ ix ≠ bm ∧ Blk w' ix [.map (some bm)] 192 (0, 0) ∧ Mp w' bm .u64 [] ∧ Fr [] w w' := by
  go_enter Tryz.func36, Tryz.ntmps36
  go_wp2_with (first
    | go_at_call 65; refine (newMh _).mono ?_; rintro e w1 ⟨ix, bm, rfl, h1, h2, h3, hT, hM, hF⟩)
  go_ret2
  exact ⟨ix, bm, rfl, h1, h2, h3, hT, hM, hF⟩
theorem CarM.Ok.ents {c : CarM} (h : c.Ok) : (∀ e ∈ c.ents, e.1.Ok ∧ e.2 < 9223372036854775808) ∧ c.ents.length ≤ 50 := by
  have hl := h.length.1
  have key : ∀ (bl : List BlkM) (p : Nat), (∀ b ∈ bl, b.cid.Ok) → ∀ e ∈ entsAt p bl, e.1.Ok ∧ e.2 < p + (secsB bl).length + 1 := by
    intro bl
    induction bl with
    | nil => intro p _ e he; simp [entsAt] at he
    | cons b bl ih =>
      intro p hb e he
      rw [entsAt, List.mem_append] at he
      have e1 : (secsB (b :: bl)).length = (secB b).length + (secsB bl).length := by simp [secsB]
      rcases he with he | he
      · split at he
        · simp at he
        · simp at he; subst he
          exact ⟨hb b (by simp), by show p < _; omega⟩
      · obtain ⟨h1, h2⟩ := ih _ (fun x hx => hb x (by simp [hx])) e he
        exact ⟨h1, by omega⟩
  refine ⟨fun e he => ?_, Nat.le_trans (entsAt_length _ _) h.blocks⟩
  obtain ⟨h1, h2⟩ := key _ _ h.cid e he
  refine ⟨h1, ?_⟩
  have : c.bytes.length = (headerB c.roots).length + (secsB c.blocks).length := by simp [CarM.bytes]
  omega
/-- What the call has laid: the index. -/
def WxR (w3 : World) (r sb ix bm lo : Nat) (c : CarM) (w'' : World) : Prop := ∃ cs cb bc ks ib, Ixs w'' ix bm lo w''.heap.size c.ents cs cb bc ks ib ∧ Rdr w'' r sb c.bytes c.bytes.length ∧ Fr [r, bm] w3 w''
theorem loads {w3 : World} {r sb ix bm lo : Nat} {c : CarM} (hok : c.Ok) (hon : OnceC c.ents) (hT : Blk w3 ix [.map (some bm)] 192 (0, 0)) (hM : Mp w3 bm .u64 []) (hne : ix ≠ bm) (hlo : lo ≤ ix ∧ lo ≤ bm) (hr : r < lo) (hsb : sb < lo) (hLen : LenC) :
    ∀ v w', w'.ownsRow w3.heap.size 159 2 v c.ents.length (recC c.ents) → Fr [r] w3 w' → Rdr w' r sb c.bytes c.bytes.length →
      Calls Tryz.prog 268 #[.pointer (some ⟨ix, 0, none⟩), v] w' fun e w'' => e = .returned .nilIface ∧ WxR w3 r sb ix bm lo c w'' := by
  intro v w' hO hF hR
  obtain ⟨he1, he2⟩ := hok.ents
  have hT' := hF.blk hT (by simp; omega)
  have hM' := hM.fr hF (by simp; omega)
  have hbl := hM.lt
  have key : ∃ ad cap rb rest, v = .slice ad c.ents.length cap ∧ (c.ents = [] ∨ ad = some ⟨rb, 0, none⟩ ∧ Blk w' rb (recC c.ents ++ rest) 159 (0, 0)) := by
    rcases hO.2 with ⟨h1, h2⟩ | ⟨g, cap, cur, h1, h2, h3, _, _, _, h4⟩
    · exact ⟨none, 0, 0, [], by rw [h1, h2], .inl (List.eq_nil_of_length_eq_zero h2)⟩
    · subst h1
      obtain ⟨_, rest, hb⟩ := own_row2 hO
      exact ⟨_, cap, g, rest, rfl, .inr ⟨rfl, hb⟩⟩
  obtain ⟨ad, cap, rb, rest, rfl, hI⟩ := key
  refine (mhLoad (rest := rest) hT' hne hM' hI he1 he2 hon hlo hLen).mono ?_
  rintro e w'' ⟨rfl, cs, cb, bc, ks, ib, hX, hF2⟩
  exact ⟨rfl, cs, cb, bc, ks, ib, hX, hR.fr hF2 (by simp; omega) (by simp; omega), (hF.mono (by simp)).trans hF2 (by simp)⟩
theorem Rdr.any {w : World} {r sb : Nat} {xs : List UInt8} {i : Nat} (h : Rdr w r sb xs i) : xs.length < 1000000000000 := by
  obtain ⟨so, sc, pr, h1, h2, h3, h4, h5, h6⟩ := h; exact h5.1
set_option maxRecDepth 1000000 in
set_option maxHeartbeats 12800000 in
theorem wrapV1 {ea : Addr} {w : World} {r sb B b p base : Nat} {c : CarM} (h : Rdr w r sb c.bytes 0) (hO : OptsAt w B b) (hBuf : Buf w p base (.slice none 0 0) []) (hok : c.Ok) (hon : OnceC c.ents) (hG : Gl ea w) (hB : B ≠ r) (hb : r < b ∨ b + 8 ≤ r) (hbase : base ≤ w.heap.size) (hrp : r ≠ p) (hsp : sb ≠ p) (hp : 26 ≤ p) (hBp : B < w.heap.size) (hLen : LenC) :
    Calls Tryz.prog 20 #[.iface 63 (.pointer (some ⟨r, 0, none⟩)), BUFI p, .slice (some ⟨B, 0, none⟩) 8 8] w fun e w' => e = .returned .nilIface ∧ ∃ v', Buf w' p base v' (wrapB c) ∧ Fr [p, r] w w' := by
  have hlt := h.lt
  have hpl := hBuf.lt
  have hge := h.ge
  have hpw : p < w.heap.size := by omega
  have hlenc := hok.length
  have hao := applyOptions hO
  have hnx := indexNew
  have hOb := hO.list.lt
  obtain ⟨n, hn⟩ : ∃ n, Hid (n = c.bytes.length) := ⟨_, rfl⟩
  have hld := fun (w3 : World) (ix bm : Nat) (hR3 : Rdr w3 r sb c.bytes 0) (hO3 : OptsAt w3 B b) (hG3 : Gl ea w3) hT hM hne hlo => loadIndex (ix := ix) hR3 hO3 hok hG3 hB hb (R := WxR w3 r sb ix bm w.heap.size c) (loads hok hon hT hM hne hlo hlt.1 hlt.2 hLen)
  have hn9 : (n : Int) < 1000000000 := by have := hn.out; omega
  have hwn : IntKind.u64.wrap (n : Int) = (n : Int) := by simp [IntKind.wrap, IntKind.bits, IntKind.signed]; omega
  have hsk2 := fun (w' : World) (hR : Rdr w' r sb c.bytes c.bytes.length) => seek_any hR 0 2 n (by omega) (.inr (.inr ⟨rfl, by rw [hn.out]; rfl⟩))
  have hsk0 := fun (w' : World) (hR : Rdr w' r sb c.bytes n) => seek_any hR 0 0 0 (by omega) (.inl ⟨rfl, rfl⟩)
  have hnh := fun w => newHeader (n := n) (by omega) w
  obtain ⟨Pg, hPg⟩ : ∃ P, Hid (P = pragmaB) := ⟨_, rfl⟩
  have lP : Hid (Pg.length = 11) := by show _ = _; rw [hPg.out]; rfl
  have hpr := pragma
  simp only [← hPg.out] at hpr
  have HL := Lib.hid (And.intro hlenc hbase)
  have HE := Lib.hid hok.ents
  have HG := Lib.hid (And.intro hBuf (And.intro hG (And.intro h hO)))
  clear hlenc hBuf hok hG h hO hbase
  go_enter Tryz.func20, Tryz.ntmps20
  go_wp2_with (first
    | go_at_call 35; refine hao.mono ?_; rintro e w1 ⟨rfl, hF1⟩; clear hao
    | go_at_call 36; refine (hnx _).mono ?_; rintro e w3 ⟨ix, bm, rfl, hi1, hi2, hi3, hT3, hM3, hF3⟩; clear hnx; have hF03 : Fr [] w w3 := (Fr.trans (S := []) hF1 (Fr.trans (S := []) (by exact frP) hF3 (by simp)) (by simp)); have hsz := hF1.size; simp only [World.size_alloc] at hi1 hi2
    | go_at_call 37; refine (hld w3 ix bm (HG.out.2.2.1.fr hF03 (by simp) (by simp)) (HG.out.2.2.2.fr hF03 (by simp) (by simp)) (HG.out.2.1.fr hF03 (by simp)) hT3 hM3 hi3 (by omega)).mono ?_; rintro e w4 ⟨rfl, cs, cb, bc, ks, ib, hX4, hR4, hF4⟩; clear hld
    | go_at_call 245; refine (hsk2 _ hR4).mono ?_; rintro e w5 ⟨rfl, hR5, hF5⟩; clear hsk2
    | go_at_call 245; refine (hsk0 _ hR5).mono ?_; rintro e w6 ⟨rfl, hR6, hF6⟩; clear hsk0; have hF46 : Fr [r] w4 w6 := hF5.trans hF6 (by simp)
    | go_at_call 38; refine (hnh _).mono ?_; rintro e w7 ⟨rfl, hF7⟩; clear hnh; have h04s : w.heap.size ≤ w4.heap.size := (by have := hF03.size; have := hF4.size; omega); have h7s : w.heap.size ≤ w7.heap.size := (by have := hF03.size; have := hF4.size; have := hF46.size; have := hF7.size; omega); have hH7 : Blk (w7.alloc (.cells #[.int .u64 0, .int .u64 0, .int .u64 51, .int .u64 n, .int .u64 (51 + n : Nat)] 96)) w7.heap.size [.int .u64 0, .int .u64 0, .int .u64 51, .int .u64 n, .int .u64 (51 + n : Nat)] 96 (0, 0) := Blk.newAt rfl
    | go_at_call 39; refine (hpr _).mono ?_; rintro e w8 ⟨rfl, hB8, hF8⟩; change Bs w8 (World.alloc _ _).heap.size 0 Pg at hB8; simp only [World.size_alloc] at hB8; have hH8 := hF8.blk hH7 (by simp); have hF78 : Fr [] w7 w8 := (Fr.trans (S := []) (by exact frP) hF8 (by simp)); have hF48 : Fr [r] w4 w8 := (hF46.trans hF7 (by simp)).trans hF78 (by simp); have hF08 : Fr [r] w w8 := ((hF03.mono (by simp)).trans hF4 (by simp; omega)).trans hF48 (by simp); have hBuf8 := HG.out.1.fr hF08 (by simp; omega) (by simp [Value.ownBlock]); have h8s := hF78.size; have h4s := hF48.size; have h0s := hF08.size
    | go_at_call 251; refine (bufWn (xs := Pg) (n := 11) (c2 := 11) hBuf8 hB8 lP.out (by omega) (by simp; omega) (by simp [Value.ownBlock]) (fun _ => ⟨rfl, by omega⟩) (by simp) (by have := HL.out; omega)).mono ?_; rintro e w9 ⟨rfl, v9, hW9⟩; have hc9 := (hW9.fr.blk hH8 (by simp [Value.ownBlock]; omega)).cells; have h9s := hW9.fr.size
    | go_at_call 40; refine (headerWrite hW9.buf (by have := HL.out; have := hn.out; omega) (by simp; intro e; have := lP.out; rw [e] at this; simp at this) (by have := lP.out; simp; omega) (by have := HL.out; omega)).mono ?_; rintro e w10 ⟨rfl, v10, hW10⟩; have hW810 := hW9.trans hW10; have hF0a : Fr [p, r] w w10 := (hF08.mono (by simp)).trans hW810.fr (by simp [Value.ownBlock]); have hRa := hR6.fr (S := [p]) (((hF7.trans hF78 (by simp)).mono (by simp)).trans hW810.fr (by simp [Value.ownBlock])) (by simp; omega) (by simp; omega)
    | go_at_call 41; have hy10 : ([] ++ Pg) ++ headB n ≠ [] := (by simp; intro e; have := lP.out; rw [e] at this; simp at this); have hl10 : (([] ++ Pg) ++ headB n).length = 51 := (by have := lP.out; simp [headB, Lib.leBytes_length]; omega); have hov10 : ∀ k, v10.ownBlock = some k → w8.heap.size ≤ k := (by intro k hk; rcases hW810.own with e | ⟨k', e, h⟩; rw [hk] at e; cases e; rw [hk] at e; cases e; exact h); refine (zzCopy hRa hW810.buf (HG.out.2.1.fr hF0a (by simp; omega)) hy10 (by rw [hl10]; have := HL.out; omega) (by have := HL.out; have := hF0a.size; omega) hrp hsp (fun e => by have := hov10 _ e; omega) (fun e => by have := hov10 _ e; omega) hp).mono ?_; rintro e w11 ⟨rfl, v11, hB11, hov11, hF11⟩
    | go_at_call 42; have hF4b : Fr (p :: r :: v10.ownBlock.toList) w4 w11 := ((hF48.mono (by simp)).trans hW810.fr (by simp [Value.ownBlock])).trans hF11 (fun k hk _ => hk); have hv11 : ∀ k, v11.ownBlock = some k → w8.heap.size ≤ k := (by intro k hk; rcases hov11 with e | ⟨k', e, h⟩; exact hov10 k (by rw [← e]; exact hk); rw [hk] at e; cases e; have := hW810.fr.size; omega); refine (indexWrite hB11 (hX4.fr hF4b (by intro k hk; simp at hk; rcases hk with rfl | rfl | hk; omega; omega; have := hov10 k hk; omega)) HE.out.2 (fun e he => (HE.out.1 e he).1.len) (fun e he => (HE.out.1 e he).1.code_lt) (by simp; intro e; have := lP.out; rw [e] at this; simp at this) (by rw [List.length_append, hl10]; have := HL.out; omega) (by have := HL.out; have := hF4b.size; omega) (by omega) (fun k hk => by have := hv11 k hk; omega) hF4b.size hLen).mono ?_; rintro e w12 ⟨⟨N, rfl⟩, v12, hW12⟩
    | (refine wre 15 [(0,.free),(2,.free),(3,.free),(4,.free),(1,.act),(5,.act),(6,.free),(7,.free),(8,.free),(9,.free),(10,.free)] ?_)
    | (with_reducible refine wEI ?_; (first | (refine wEN ?_; skip) | (refine wEF rfl (fun K hK => ?_); go_simp) | (refine wEL rfl rfl (fun K hK => ?_); go_simp) | (refine wER rfl (fun K hK => ?_); go_simp) | (refine wEM rfl (fun K hK => ?_); go_simp; try refine ⟨_, _, ⟨rfl, rfl⟩, ?_⟩) | (refine wEG rfl (fun K hK => ?_); go_simp) | (refine wEA rfl (fun K hK => ?_); go_simp))))
  go_ret
  refine ⟨rfl, v12, ?_, ?_⟩
  · have := hW12.buf
    have e : wrapB c = ([] ++ Pg ++ headB n ++ c.bytes) ++ ([129, 8] ++ idxB c.ents) := by rw [hPg.out, hn.out]; simp [wrapB]
    rw [e]; exact this
  · refine (hF0a.trans hF11 ?_).trans hW12.fr ?_
    · intro k hk hl; simp at hk
      rcases hk with rfl | rfl | hk
      · simp
      · simp
      · have := hov10 k hk; omega
    · intro k hk hl; simp at hk
      rcases hk with rfl | hk
      · simp
      · have := hv11 k hk; omega
end Go.Proofs.Wx

namespace Go.Proofs.Wx
open Go Go.RowKit
set_option maxRecDepth 1000000 in
set_option maxHeartbeats 12800000 in
theorem wrWrap {ea : Addr} {w : World} {c : CarM} (hok : c.Ok) (hon : OnceC c.ents) (hG : Gl ea w) (hLen : LenC) :
    Calls Tryz.prog 9 #[.string ⟨c.bytes.toArray⟩, zeroOpts] w fun e w' => e = .returned (.tuple #[.string ⟨(wrapB c).toArray⟩, .bool true]) ∧ Fr [] w w' := by
  have hlenc := hok.length
  have hgs := hG.size
  have ho0 := fun w => options0 (w := w)
  have hnr := fun (w' : World) (sb sc : Nat) (hS : Bs w' sb 0 c.bytes) (h1 : c.bytes.length ≤ sc) (h2 : sc ≤ 9223372036854775807) (h3 : 26 ≤ w'.heap.size) => newReader hS h1 ⟨by omega, h2⟩ h3
  go_enter Tryz.func9, Tryz.ntmps9
  go_wp2_with (first
    | ((with_reducible refine list_convert (fun K hK => ?_));  refine strB _ rfl c.bytes rfl (by omega) (fun w2 C hC1 hC2 hB2 hF2 => ?_); refine hK _ _ (Fr.ext hF2) ?_; have hP2 : Blk w2 (w.heap.size + 1) [.slice none 0 0, .int .i64 0, .int .i8 0] 59 (0, 0) := hF2.blk (Blk.conv (cs' := [_, _, _]) (by repeat (first | (with_reducible refine Blk.newAt ?_; (simp; done)) | (with_reducible apply Blk.drew) | (with_reducible apply Blk.alloc))) rfl) (by simp); have hFw2 : Fr [] w w2 := Fr.trans (S := []) (by exact frP) hF2 (by simp); have hB2' : Bs w2 (w.heap.size + 1 + 1) 0 c.bytes := (by simpa using hB2); have hG2 := hG.fr hFw2 (by simp); clear hF2 hB2; have hP2l := hB2'.lt)
    | go_at_call 21; refine (hnr _ _ _ hB2' hC1 hC2 hG2.size).mono ?_; rintro e w3 ⟨rfl, hR3, hF3⟩; (try go_simp); refine hK _ _ (Fr.ext hF3) ?_; have h3l := hR3.lt
    | go_at_call 22; refine (ho0 _).mono ?_; rintro e w4 ⟨B, b, rfl, hO4, hb1, hb2, hF4⟩; have hF34 : Fr [] w2 w4 := (hF3.trans (Fr.trans (S := []) (by exact frP) hF4 (by simp)) (by simp)); have h4s := hF34.size; have hO4l := hO4.list.lt; have hR4 := hR3.fr (S := []) (Fr.trans (S := []) (by exact frP) hF4 (by simp)) (by simp) (by simp)
    | go_at_call 20; refine (wrapV1 (p := w.heap.size + 1) (base := w.heap.size + 2) hR4 hO4 ⟨⟨0, hF34.blk hP2 (by simp)⟩, ⟨by simp [by8], .inl ⟨rfl, rfl⟩⟩, by omega, by simp⟩ hok hon (hG2.fr hF34 (by simp)) (by omega) (by omega) (by omega) (by omega) (by omega) (by omega) (by omega) hLen).mono ?_; rintro e w5 ⟨rfl, v5, hB5, hF5⟩
    | go_at_call 23; refine (bufString (hB5.fr (S := []) (by exact frP) (by simp) (by simp))).mono ?_; rintro e w6 ⟨rfl, hF6⟩; have hF56 : Fr [] w5 w6 := Fr.trans (S := []) (by exact frP) hF6 (by simp)
    | (refine wre 2 [(0,.free),(4,.free),(5,.look),(1,.grow),(2,.grow),(3,.free),(6,.act),(7,.act),(8,.free)] ?_)
    | (refine wre 3 [(1,.free),(2,.free),(0,.act),(3,.free),(4,.free)] ?_)
    | (with_reducible refine wEI ?_; (first | (refine wEN ?_; skip) | (refine wEF rfl (fun K hK => ?_); go_simp) | (refine wEL rfl rfl (fun K hK => ?_); go_simp) | (refine wER rfl (fun K hK => ?_); go_simp) | (refine wEM rfl (fun K hK => ?_); go_simp; try refine ⟨_, _, ⟨rfl, rfl⟩, ?_⟩) | (refine wpE_growp rfl rfl (fun K hK => ?_); simp only [List.getElem_toArray, List.getElem_cons_succ, List.getElem_cons_zero]; (first | ((with_reducible refine op_convert ?_);  refine strB _ rfl c.bytes rfl (by omega) (fun w2 C hC1 hC2 hB2 hF2 => ?_); refine hK _ _ (Fr.ext hF2) ?_; have hP2 : Blk w2 (w.heap.size + 1) [.slice none 0 0, .int .i64 0, .int .i8 0] 59 (0, 0) := hF2.blk (Blk.conv (cs' := [_, _, _]) (by repeat (first | (with_reducible refine Blk.newAt ?_; (simp; done)) | (with_reducible apply Blk.drew) | (with_reducible apply Blk.alloc))) rfl) (by simp); have hFw2 : Fr [] w w2 := Fr.trans (S := []) (by exact frP) hF2 (by simp); have hB2' : Bs w2 (w.heap.size + 1 + 1) 0 c.bytes := (by simpa using hB2); have hG2 := hG.fr hFw2 (by simp); clear hF2 hB2; have hP2l := hB2'.lt))) | (refine wEG rfl (fun K hK => ?_); go_simp) | (refine wpE_actp rfl rfl (fun K hK => ?_); simp only [List.getElem_toArray, List.getElem_cons_succ, List.getElem_cons_zero]; (first | ((with_reducible refine op_convert ?_);  refine strB _ rfl c.bytes rfl (by omega) (fun w2 C hC1 hC2 hB2 hF2 => ?_); refine hK _ _ (Fr.ext hF2) ?_; have hP2 : Blk w2 (w.heap.size + 1) [.slice none 0 0, .int .i64 0, .int .i8 0] 59 (0, 0) := hF2.blk (Blk.conv (cs' := [_, _, _]) (by repeat (first | (with_reducible refine Blk.newAt ?_; (simp; done)) | (with_reducible apply Blk.drew) | (with_reducible apply Blk.alloc))) rfl) (by simp); have hFw2 : Fr [] w w2 := Fr.trans (S := []) (by exact frP) hF2 (by simp); have hB2' : Bs w2 (w.heap.size + 1 + 1) 0 c.bytes := (by simpa using hB2); have hG2 := hG.fr hFw2 (by simp); clear hF2 hB2; have hP2l := hB2'.lt))) | (refine wEA rfl (fun K hK => ?_); go_simp))))
  go_ret2
  refine ⟨rfl, ((hFw2.trans hF34 (by simp)).trans hF5 (by simp; omega)).trans hF56 (by simp)⟩
end Go.Proofs.Wx

namespace Go.Proofs.Wx
open Go Go.RowKit
theorem wrapB_len (c : CarM) : 52 ≤ (wrapB c).length := by simp [wrapB, headB, lb8, pragmaB]; omega
theorem wrapB_pragma (c : CarM) : (wrapB c).take 11 = pragmaB := by unfold wrapB; rw [List.take_left' (by rfl)]
theorem oneAt {w : World} {g : Nat} {T : TypeId} {fr : Nat × Nat} (h : Blk w g [.int .u64 1, .int .u64 85, .int .u64 0, .string ⟨#[97]⟩] T fr) : CarAt w (some ⟨g, 0, none⟩) none oneCar :=
  ⟨fun i c hc => by
    match i, hc with
    | 0, hc =>
      simp [oneCar] at hc; subst hc
      exact ⟨g, 0, rfl, by rw [h.cell]; rfl, by rw [h.cell]; rfl, by rw [h.cell]; rfl, by rw [h.cell]; rfl⟩
    | i + 1, hc => simp [oneCar] at hc, fun i x hx => by simp [oneCar] at hx⟩
theorem cut11 {ws : List UInt8} (h : ws.take 11 = pragmaB) : (((⟨ws.toArray⟩ : ByteArray).extract 0 11).toList == [10, 161, 103, 118, 101, 114, 115, 105, 111, 110, 2]) = true := by
  have e : ((⟨ws.toArray⟩ : ByteArray).extract 0 11).toList = ws.take 11 := by
    rw [Lib.toList_data, ByteArray.data_extract]
    simp
  rw [e, h]; rfl
set_option maxRecDepth 1000000 in
set_option maxHeartbeats 12800000 in
theorem spWrOne {ea aa : Addr} {w : World} (hG : Gl ea w) (hA : w.cell? ⟨0, 0, none⟩ = some (.iface 193 (.pointer (some aa)))) (hLen : LenC) :
    Calls Tryz.prog 13 #[] w fun e w' => e = .returned (.bool true) ∧ Fr [] w w' := by
  obtain ⟨xs, hxs⟩ : ∃ xs, Hid (xs = oneCar.bytes) := ⟨_, rfl⟩
  obtain ⟨ws, hws⟩ : ∃ ws, Hid (ws = wrapB oneCar) := ⟨_, rfl⟩
  have hgs := hG.size
  have hw := fun (w' : World) (hG' : Gl ea w') => wrWrap (c := oneCar) oneCar_ok (by simp [OnceC, CarM.ents, oneCar, entsAt]) hG' hLen
  have hx := fun (w' : World) (hG' : Gl ea w') hA' => wrExtract (ea := ea) (aa := aa) (w := w') (c := 54) (e := 0) (data := oneCar.bytes) hG' hA' (by omega) (by omega) oneCar_ok.length.2 oneCar_len (by omega)
  have hf := fun (w' : World) (ra ba : Option Addr) (rc bc : Nat) (h : CarAt w' ra ba oneCar) => spWrFile (rc := rc) (bc := bc) h oneCar_ok oneCar_len
  have hc := fun (w' : World) (ra ba : Option Addr) (rc bc : Nat) (h : CarAt w' ra ba oneCar) => spCar1 (rc := rc) (bc := bc) h oneCar_ok
  rw [← hxs.out] at hw hx hf hc
  rw [← hws.out] at hw
  have HH := Lib.hid (And.intro hw (And.intro hx (And.intro hf hc)))
  clear hw hx hf hc
  have hz : (51 : Int) < (ws.length : Int) := by have := wrapB_len oneCar; rw [← hws.out] at this; omega
  have HP := Lib.hid (cut11 (ws := ws) (by rw [hws.out]; exact wrapB_pragma oneCar))
  go_enter Tryz.func13, Tryz.ntmps13
  go_wp2_with (first
    | go_at_call 27; refine spFitting.mono ?_; unfold cidA oneCid; rintro e w1 ⟨rfl, hF1⟩; have hs1 := hF1.size
    | go_at_call 8; refine (HH.out.2.2.2 _ (some ⟨w1.heap.size, 0, none⟩) none 1 0 (oneAt hB6)).mono ?_; rintro e w7 ⟨rfl, hF7⟩
    | go_at_call 8; refine (HH.out.2.2.2 _ (some ⟨w1.heap.size, 0, none⟩) none 1 0 (oneAt (g := w1.heap.size) (Blk.alloc (Blk.new (cs := [_, _, _, _]))))).mono ?_; rintro e w3 ⟨rfl, hF3⟩; have hB3 := hF3.blk (b := w1.heap.size) (cs := [.int .u64 1, .int .u64 85, .int .u64 0, .string ⟨#[97]⟩]) (T := 45) (fr := (0, 0)) (Blk.alloc Blk.new) (by simp); have hT3 := hF3.blk (b := w1.heap.size + 1) (cs := [.slice (some ⟨w1.heap.size, 0, none⟩) 1 1, .slice none 0 0]) (T := 25) (fr := (0, 0)) (Blk.newAt (by simp)) (by simp); have hF03 : Fr [] w w3 := Fr.trans (S := []) (by exact frP) hF3 (by simp); clear hF3
    | go_at_call 9; refine (HH.out.1 _ (hG.fr hF03 (by simp))).mono ?_; rintro e w4 ⟨rfl, hF4⟩; have hB4 := hF4.blk hB3 (by simp); have hT4 := hF4.blk hT3 (by simp); have hF04 := hF03.trans hF4 (by simp); have tc4 := hT4.cells
    | go_at_call 29; refine (HH.out.2.2.1 _ (some ⟨w1.heap.size, 0, none⟩) none 1 0 (oneAt hB4)).mono ?_; rintro e w5 ⟨rfl, hF5⟩; have hB5 := hF5.blk hB4 (by simp); have hT5 := hF5.blk hT4 (by simp); have hF05 := hF04.trans hF5 (by simp); have hA5 : w5.cell? ⟨0, 0, none⟩ = some (.iface 193 (.pointer (some aa))) := (by rw [World.cell?_of_block (w := w) (hF05.block 0 (by omega) (by simp))]; exact hA); clear tc4
    | go_at_call 28; refine (HH.out.2.1 _ (hG.fr hF05 (by simp)) hA5).mono ?_; rintro e w6 ⟨rfl, hF6⟩; have hB6 := hF6.blk hB5 (by simp); have hT6 := hF6.blk hT5 (by simp); have hF06 := hF05.trans hF6 (by simp); have tc6 := hT6.cells)
  go_ret
  exact ⟨by rw [← HP.out]; rfl, hF06.trans hF7 (by simp)⟩
end Go.Proofs.Wx

namespace Go.Proofs.Wx
open Go.Sort
variable {α : Type} [Inhabited α]
/-- The part of a row from a to b. -/
def seg (d : Array α) (a b : Nat) : List α := (d.toList.drop a).take (b - a)
theorem seg_length {d : Array α} {a b : Nat} (hb : b ≤ d.size) : (seg d a b).length = b - a := by simp [seg]; omega
theorem seg_get {d : Array α} {a b k : Nat} (hb : b ≤ d.size) (hk : a + k < b) : (seg d a b)[k]? = some d[a + k]! := by
  have h : a + k < d.size := by omega
  simp [seg, List.getElem?_take, show k < b - a by omega, h]
theorem seg_append {d : Array α} {a m b : Nat} (h1 : a ≤ m) (h2 : m ≤ b) : seg d a m ++ seg d m b = seg d a b := by
  unfold seg
  rw [show b - a = (m - a) + (b - m) by omega, List.take_add, List.drop_drop, show a + (m - a) = m by omega]
theorem seg_nil {d : Array α} {a : Nat} : seg d a a = [] := by simp [seg]
theorem seg_snoc {d : Array α} {a b : Nat} (h1 : a < b) (hb : b ≤ d.size) : seg d a b = seg d a (b - 1) ++ [d[b - 1]!] := by
  rw [← seg_append (m := b - 1) (by omega) (by omega)]
  congr 1
  refine List.ext_getElem? fun k => ?_
  rcases Nat.eq_zero_or_pos k with rfl | hk
  · rw [seg_get hb (by omega)]; simp
  · rw [List.getElem?_eq_none (by rw [seg_length hb]; omega), List.getElem?_eq_none (by simp; omega)]
theorem seg_cons {d : Array α} {a b : Nat} (h1 : a < b) (hb : b ≤ d.size) : seg d a b = d[a]! :: seg d (a + 1) b := by
  rw [← seg_append (m := a + 1) (by omega) (by omega), seg_snoc (b := a + 1) (by omega) (by omega)]
  simp [seg_nil]
theorem seg_whole {d : Array α} {a b : Nat} (h1 : a ≤ b) (hb : b ≤ d.size) : d.toList = seg d 0 a ++ seg d a b ++ seg d b d.size := by
  rw [seg_append (by omega) h1, seg_append (by omega) hb]; simp only [seg, List.drop_zero, Nat.sub_zero, ← Array.length_toList, List.take_length]
theorem seg_of {d : Array α} {P X S : List α} {a b : Nat} (h : d.toList = P ++ X ++ S) (ha : a = P.length) (hb : b = a + X.length) : seg d a b = X := by
  subst ha hb; unfold seg; rw [h]; simp
theorem get_of {d : Array α} {P S : List α} {x : α} {a : Nat} (h : d.toList = P ++ x :: S) (ha : a = P.length) : d[a]! = x := by
  obtain ⟨l⟩ := d; simp at h; subst h ha; simp
theorem size_of {d : Array α} {L : List α} (h : d.toList = L) : d.size = L.length := by rw [← h]; simp
theorem swp_list {d : Array α} {A B C : List α} {x y : α} {i j : Nat} (h : d.toList = A ++ x :: B ++ y :: C) (hi : i = A.length) (hj : j = A.length + 1 + B.length) :
    (swp d i j).toList = A ++ y :: B ++ x :: C := by
  have h1 : d[i]! = x := get_of (P := A) (S := B ++ y :: C) (by rw [h]; simp) hi
  have h2 : d[j]! = y := get_of (P := A ++ x :: B) (S := C) (by rw [h]) (by rw [hj]; simp; omega)
  unfold swp
  rw [h1, h2, Array.toList_setIfInBounds, Array.toList_setIfInBounds, h, hi, hj]
  simp [List.set_append, show ¬ A.length + 1 + B.length < A.length by omega, show A.length + 1 + B.length - A.length = B.length + 1 by omega]
/-- The places a.. and b.. are swapped one by one, m of them. -/
def swapN (a b : Nat) : Nat → Array α → Array α
  | 0, d => d
  | k + 1, d => swp (swapN a b k d) (a + k) (b + k)
theorem size_swapN (a b : Nat) : ∀ (k : Nat) (d : Array α), (swapN a b k d).size = d.size
  | 0, _ => rfl
  | k + 1, d => by rw [swapN, size_swp, size_swapN a b k d]
theorem snoc_of {X : List α} {k : Nat} (h : X.length = k + 1) : ∃ X' x, X = X' ++ [x] ∧ X'.length = k := by
  rcases List.eq_nil_or_concat X with rfl | ⟨X', x, rfl⟩
  · simp at h
  · exact ⟨X', x, by simp, by simpa using h⟩
theorem swapN_list : ∀ (k : Nat) {d : Array α} {L X M Y R : List α} {a b : Nat}, d.toList = L ++ X ++ M ++ Y ++ R → a = L.length → X.length = k → Y.length = k → b = L.length + k + M.length → (swapN a b k d).toList = L ++ Y ++ M ++ X ++ R
  | 0, d, L, X, M, Y, R, a, b, h, _, hX, hY, _ => by
    have hX := List.length_eq_zero_iff.1 hX; have hY := List.length_eq_zero_iff.1 hY
    subst hX hY; exact h
  | k + 1, d, L, X, M, Y, R, a, b, h, ha, hX, hY, hb => by
    obtain ⟨X', x, rfl, hX'⟩ := snoc_of hX
    obtain ⟨Y', y, rfl, hY'⟩ := snoc_of hY
    have ih := swapN_list k (d := d) (L := L) (X := X') (M := x :: M) (Y := Y') (R := y :: R) (a := a) (b := b) (by rw [h]; simp) ha hX' hY' (by rw [hb]; simp; omega)
    rw [swapN, swp_list (A := L ++ Y') (x := x) (B := M ++ X') (y := y) (C := R) (by rw [ih]; simp) (by simp; omega) (by simp; omega)]
    simp
theorem sorted_seg {lt : α → α → Bool} {d : Array α} {a b : Nat} (hb : b ≤ d.size) : SortedIn lt a b d ↔ Srt lt (seg d a b) := by
  unfold Srt
  rw [List.pairwise_iff_getElem]
  have g : ∀ k (hk : k < (seg d a b).length), (seg d a b)[k] = d[a + k]! := fun k hk => by
    have h2 := seg_get (d := d) (a := a) (b := b) (k := k) hb (by rw [seg_length hb] at hk; omega)
    rw [List.getElem?_eq_getElem hk] at h2; exact Option.some.inj h2
  constructor
  · intro h i j hi hj hij
    rw [g i hi, g j hj]
    rw [seg_length hb] at hj
    exact h _ _ (by omega) (by omega) (by omega)
  · intro h i j hai hij hjb
    have h2 := h (i - a) (j - a) (by rw [seg_length hb]; omega) (by rw [seg_length hb]; omega) (by omega)
    rw [g, g, show a + (i - a) = i by omega, show a + (j - a) = j by omega] at h2
    exact h2
/-- One row is another with a part changed for as long a one. -/
theorem perm_list {d d' : Array α} {P X Z S : List α} {a b : Nat} (h : d.toList = P ++ X ++ S) (h' : d'.toList = P ++ Z ++ S) (hp : Z.Perm X) (ha : a = P.length) (hb : b = a + X.length) : PermIn a b d d' := by
  obtain ⟨l⟩ := d; obtain ⟨l'⟩ := d'
  simp at h h'
  subst h h'
  have hl := hp.length_eq
  refine ⟨by simp [hl], fun i hi => ?_, ?_⟩
  · rw [List.getElem!_toArray, List.getElem!_toArray, List.getElem!_eq_getElem?_getD, List.getElem!_eq_getElem?_getD]
    congr 1
    rcases hi with hi | hi
    · rw [List.getElem?_append_left (by omega), List.getElem?_append_left (by omega)]
    · rw [← List.append_assoc, ← List.append_assoc, List.getElem?_append_right (by simp; omega), List.getElem?_append_right (by simp; omega)]
      simp [hl]
  · rw [Array.toList_extract, Array.toList_extract, List.extract_eq_take_drop, List.extract_eq_take_drop]
    subst ha hb
    simp only [Nat.add_sub_cancel_left, List.drop_left]
    rw [List.take_left, ← hl, List.take_left]
    exact hp
theorem perm_seg {d d' : Array α} {a b : Nat} (h : PermIn a b d d') : (seg d' a b).Perm (seg d a b) := by
  have := h.2.2
  rw [Array.toList_extract, Array.toList_extract] at this
  simpa only [seg, List.extract_eq_take_drop] using this
theorem perm_out {d d' : Array α} {a b x y : Nat} (h : PermIn a b d d') (hy : y ≤ d.size) (ho : y ≤ a ∨ b ≤ x) : seg d' x y = seg d x y := by
  refine List.ext_getElem? fun k => ?_
  have hs := h.1
  by_cases hk : x + k < y
  · rw [seg_get (by omega) hk, seg_get hy hk, h.2.1 _ (by omega)]
  · rw [List.getElem?_eq_none (by rw [seg_length (by omega)]; omega), List.getElem?_eq_none (by rw [seg_length (by omega)]; omega)]
theorem perm_of_seg {d d' : Array α} {a b : Nat} (hab : a ≤ b) (hb : b ≤ d.size) (hs : d'.size = d.size) (h1 : seg d' 0 a = seg d 0 a) (h2 : (seg d' a b).Perm (seg d a b)) (h3 : seg d' b d.size = seg d b d.size) : PermIn a b d d' :=
  perm_list (P := seg d 0 a) (X := seg d a b) (Z := seg d' a b) (S := seg d b d.size) (seg_whole hab hb) (by rw [seg_whole (d := d') hab (by omega), h1, hs, h3]) h2 (by rw [seg_length (by omega)]; omega) (by rw [seg_length hb]; omega)
variable {lt : α → α → Bool}
/-- symMerge's step: the middle is turned, the halves are merged. -/
theorem merge_step (hO : SWO lt) {d d1 d2 d3 : Array α} {a m b st en mid : Nat} (h1 : a ≤ st) (h2 : st ≤ m) (h3 : m ≤ en) (h4 : en ≤ b) (h5 : b ≤ d.size) (hmid : st + en = mid + m)
    (s1 : SortedIn lt a m d) (s2 : SortedIn lt m b d) (c1 : st = a ∨ en = b ∨ lt d[en]! d[st - 1]! = false) (c2 : m = en ∨ st = m ∨ lt d[st]! d[en - 1]! = false)
    (hr : d1.toList = seg d 0 st ++ seg d m en ++ seg d st m ++ seg d en d.size) (p2 : PermIn a mid d1 d2) (t2 : SortedIn lt a mid d2) (p3 : PermIn mid b d2 d3) (t3 : SortedIn lt mid b d3) : PermIn a b d d3 ∧ SortedIn lt a b d3 := by
  have z1 : d1.size = d.size := by
    rw [size_of hr]; simp [seg_length (show st ≤ d.size by omega), seg_length (show m ≤ d.size by omega), seg_length (show en ≤ d.size by omega), seg_length (Nat.le_refl d.size)]; omega
  have z2 : d2.size = d.size := by rw [p2.1, z1]
  have z3 : d3.size = d.size := by rw [p3.1, z2]
  have L0 : (seg d 0 a).length = a := by rw [seg_length (by omega)]; omega
  have L1 : (seg d a st).length = st - a := seg_length (by omega)
  have L2 : (seg d st m).length = m - st := seg_length (by omega)
  have L3 : (seg d m en).length = en - m := seg_length (by omega)
  have L4 : (seg d en b).length = b - en := seg_length (by omega)
  have hr' : d1.toList = seg d 0 a ++ (seg d a st ++ seg d m en) ++ (seg d st m ++ seg d en b) ++ seg d b d.size := by
    rw [hr, ← seg_append (d := d) (a := 0) (m := a) (b := st) (by omega) (by omega), ← seg_append (d := d) (a := en) (m := b) (b := d.size) (by omega) (by omega)]
    simp
  have g1 : seg d1 a mid = seg d a st ++ seg d m en := seg_of (P := seg d 0 a) (S := seg d st m ++ seg d en b ++ seg d b d.size) (by rw [hr']; simp) (by rw [L0]) (by rw [List.length_append, L1, L3]; omega)
  have g2 : seg d1 mid b = seg d st m ++ seg d en b := seg_of (P := seg d 0 a ++ (seg d a st ++ seg d m en)) (S := seg d b d.size) (by rw [hr']) (by rw [List.length_append, List.length_append, L0, L1, L3]; omega) (by rw [List.length_append, L2, L4]; omega)
  have g0 : seg d1 0 a = seg d 0 a := seg_of (P := []) (S := (seg d a st ++ seg d m en) ++ (seg d st m ++ seg d en b) ++ seg d b d.size) (by rw [hr']; simp) rfl (by rw [L0]; omega)
  have g3 : seg d1 b d.size = seg d b d.size := seg_of (P := seg d 0 a ++ (seg d a st ++ seg d m en) ++ (seg d st m ++ seg d en b)) (S := []) (by rw [hr']; simp) (by simp only [List.length_append, L0, L1, L2, L3, L4]; omega) (by rw [seg_length (Nat.le_refl _)]; omega)
  have q1 : (seg d3 a mid).Perm (seg d a st ++ seg d m en) := by
    rw [perm_out p3 (by omega) (.inl (Nat.le_refl _)), ← g1]; exact perm_seg p2
  have q2 : (seg d3 mid b).Perm (seg d st m ++ seg d en b) := by
    rw [← g2, ← perm_out (x := mid) (y := b) p2 (by omega) (.inr (Nat.le_refl _))]; exact perm_seg p3
  have u2 : Srt lt (seg d3 a mid) := by
    rw [perm_out p3 (by omega) (.inl (Nat.le_refl _))]; exact (sorted_seg (by omega)).1 t2
  have u3 : Srt lt (seg d3 mid b) := (sorted_seg (by omega)).1 t3
  have hX : Srt lt (seg d a st ++ seg d st m) := by rw [seg_append h1 h2]; exact (sorted_seg (by omega)).1 s1
  have hY : Srt lt (seg d m en ++ seg d en b) := by rw [seg_append h3 h4]; exact (sorted_seg (by omega)).1 s2
  have key := merge_core hO (X1 := seg d a st) (X2 := seg d st m) (Y1 := seg d m en) (Y2 := seg d en b) (Z1 := seg d3 a mid) (Z2 := seg d3 mid b) hX hY
    (by
      rcases c1 with rfl | rfl | c1
      · exact .inl seg_nil
      · exact .inr (.inl seg_nil)
      · by_cases ha : a < st
        · by_cases hb : en < b
          · exact .inr (.inr ⟨_, _, _, _, seg_snoc ha (by omega), seg_cons hb (by omega), c1⟩)
          · exact .inr (.inl (by rw [show en = b by omega]; exact seg_nil))
        · exact .inl (by rw [show st = a by omega]; exact seg_nil))
    (by
      rcases c2 with rfl | rfl | c2
      · exact .inl seg_nil
      · exact .inr (.inl seg_nil)
      · by_cases ha : m < en
        · by_cases hb : st < m
          · exact .inr (.inr ⟨_, _, _, _, seg_snoc ha (by omega), seg_cons hb (by omega), c2⟩)
          · exact .inr (.inl (by rw [show st = m by omega]; exact seg_nil))
        · exact .inl (by rw [show en = m by omega]; exact seg_nil))
    q1 q2 u2 u3
  have hm1 : a ≤ mid := by omega
  have hm2 : mid ≤ b := by omega
  rw [seg_append hm1 hm2, seg_append h1 h2, seg_append h3 h4, seg_append (by omega) (by omega)] at key
  refine ⟨perm_of_seg (by omega) h5 z3 ?_ key.2 ?_, (sorted_seg (by omega)).2 key.1⟩
  · rw [perm_out p3 (by omega) (.inl hm1), perm_out p2 (by omega) (.inl (Nat.le_refl _)), g0]
  · have e := perm_out (x := b) (y := d.size) p3 (by omega) (.inr (Nat.le_refl _))
    rw [e, perm_out p2 (by omega) (.inr hm2), g3]
end Go.Proofs.Wx

namespace Go.Proofs.Wx
open Go Go.RowKit Go.Sort
/-- A less and a swap as functions with bound values, over an abstract state. -/
structure FnS {α : Type} [Inhabited α] (g : Nat) (lb : Array Value) (sf : Nat) (sb : Array Value) (s : St α) (lt : α → α → Bool) (n : Nat) : Prop where
  less : ∀ {w0 w : World} {d : Array α} (i j : Nat), s.At w0 d w → d.size = n → i < n → j < n → Calls Tryz.prog g (#[.int .i64 i, .int .i64 j] ++ lb) w fun e w' => e = .returned (.bool (lt d[i]! d[j]!)) ∧ s.At w0 d w'
  swap : ∀ {w0 w : World} {d : Array α} (i j : Nat), s.At w0 d w → d.size = n → i < n → j < n → ∃ w', (callFunc sf (#[.int .i64 i, .int .i64 j] ++ sb)).run Tryz.prog w = .ok (.value (.tuple #[])) w' ∧ s.At w0 (swp d i j) w'
  small : n < 1000000
  enters : ∀ args w, (callFunc g args).run Tryz.prog w = .ok (.enter g args) w
def FnV (g : Nat) (lb : Array Value) (sf : Nat) (sb : Array Value) : Value := .agg #[.func (.func g) #[] lb, .func (.func sf) #[] sb]
section
variable {α : Type} [Inhabited α] {s : St α} {lt : α → α → Bool} {n g sf : Nat} {lb sb : Array Value}
theorem swapRangeF {w0 w : World} {d : Array α} (D : FnS g lb sf sb s lt n) (hA : s.At w0 d w) (hn : d.size = n) {a b m : Nat} (ha : a + m ≤ n) (hb : b + m ≤ n) :
    Calls Tryz.prog 213 #[FnV g lb sf sb, .int .i64 a, .int .i64 b, .int .i64 m] w fun e w' => e = .returned (.tuple #[]) ∧ s.At w0 (swapN a b m d) w' := by
  have hsm := D.small
  obtain ⟨W1, hW1⟩ : ∃ W1, Hid (W1 = w.alloc (.cells #[.func (.func g) #[] lb, .func (.func sf) #[] sb] 242)) := ⟨_, Lib.hid rfl⟩
  have hF1 : Fr [] w W1 := by rw [hW1.out]; exact Fr.alloc Fr.refl
  have hT1 : Blk W1 w.heap.size [.func (.func g) #[] lb, .func (.func sf) #[] sb] 242 (0, 0) := by rw [hW1.out]; exact Blk.new
  have hA1 : s.At W1 d W1 := St.At.start (s.fr hA.1 hF1 (by simp))
  have hTo : w.heap.size ∉ s.own := fun hm => by have := s.lt hA.1 _ hm; omega
  unfold FnV
  go_enter Tryz.func213, Tryz.ntmps213
  go_wp2
  rw [← hW1.out]
  go_loopg [8] m (fun k s8 wr => ∃ i : Nat, s8 = .int .i64 (i : Nat) ∧ i + k = m ∧ s.At W1 (swapN a b i d) wr)
  case atStart => exact ⟨0, rfl, by omega, hA1⟩
  case round =>
    obtain ⟨i, rfl, hik, hAi⟩ := hrel
    by_cases hi : i < m
    · have hz : (i : Int) < (m : Int) := by omega
      have c1 := (hAi.2.blk hT1 hTo).cells
      obtain ⟨w', hr, hA'⟩ := D.swap (a + i) (b + i) hAi (by rw [size_swapN]; exact hn) (by omega) (by omega)
      rw [Int.natCast_add, Int.natCast_add] at hr
      have wA : IntKind.i64.wrap ((a : Int) + (i : Int)) = (a : Int) + (i : Int) := by rw [← Int.natCast_add]; simp [IntKind.wrap, IntKind.bits, IntKind.signed]; omega
      have wB : IntKind.i64.wrap ((b : Int) + (i : Int)) = (b : Int) + (i : Int) := by rw [← Int.natCast_add]; simp [IntKind.wrap, IntKind.bits, IntKind.signed]; omega
      have HI := Lib.hid (And.intro hik hi)
      clear hik hi
      go_wp2
      go_roundg (m - (i + 1))
      case measure => have := HI.out.1; have := HI.out.2; omega
      case rel => exact ⟨i + 1, by first | (rw [wrap64_1 (by have := HI.out.2; omega)]; done) | (simp; done), by have := HI.out.2; omega, hA'⟩
    · have hz : ¬ (i : Int) < (m : Int) := by omega
      have hie : i = m := by omega
      have HI := Lib.hid hie
      clear hie hik hi
      go_wp2
      go_end0
      rw [HI.out] at hAi
      exact ⟨rfl, hA.swap hAi.1 ((hF1.mono (by simp)).trans hAi.2 (fun k hk _ => hk))⟩
end
end Go.Proofs.Wx

namespace Go.Proofs.Wx
open Go Go.RowKit Go.Sort
variable {α : Type} [Inhabited α] {s : St α} {lt : α → α → Bool} {n g sf : Nat} {lb sb : Array Value}
theorem insSortF {a b : Nat} {w0 w : World} {d : Array α} (D : FnS g lb sf sb s lt n) (hA : s.At w0 d w) (hn : d.size = n) (hab : a ≤ b) (hb : b ≤ n) :
    Calls Tryz.prog 148 #[FnV g lb sf sb, .int .i64 a, .int .i64 b] w fun e w' => e = .returned (.tuple #[]) ∧ s.At w0 (Sort.insertionSort lt d a b) w' := by
  have big := D.small
  have eg := D.enters
  obtain ⟨W1, hW1⟩ : ∃ W1, Hid (W1 = w.alloc (.cells #[.func (.func g) #[] lb, .func (.func sf) #[] sb] 242)) := ⟨_, Lib.hid rfl⟩
  have hF1 : Fr [] w W1 := by rw [hW1.out]; exact Fr.alloc Fr.refl
  have hT1 : Blk W1 w.heap.size [.func (.func g) #[] lb, .func (.func sf) #[] sb] 242 (0, 0) := by rw [hW1.out]; exact Blk.new
  have hA1 : s.At W1 d W1 := St.At.start (s.fr hA.1 hF1 (by simp))
  have hTo : w.heap.size ∉ s.own := fun hm => by have := s.lt hA.1 _ hm; omega
  unfold FnV
  go_enter Tryz.func148, Tryz.ntmps148
  go_wp2
  rw [← hW1.out]
  go_loopw [6] (fun vi wr => ∃ (i : Nat) (dk : Array α), vi = .int .i64 i ∧ a < i ∧ i ≤ b + 1 ∧ dk.size = n ∧ s.At W1 dk wr ∧ Hid (insOuter lt a b i dk = insOuter lt a b (a + 1) d)) (fun vi _ => b + 1 - (intOf vi).toNat)
  case atStart => exact ⟨a + 1, d, by go_num, by omega, by omega, hn, hA1, rfl⟩
  case round =>
    obtain ⟨i, dk, rfl, hai, hib, hsk, hAk, HO⟩ := hrel
    by_cases hlt : i < b
    · go_wp2
      go_loopw [7] (fun vj wr2 => ∃ (j : Nat) (dj : Array α), vj = .int .i64 j ∧ a ≤ j ∧ j ≤ i ∧ dj.size = n ∧ s.At W1 dj wr2 ∧ Hid (insInner lt a j dj = insInner lt a i dk)) (fun vj _ => (intOf vj).toNat)
      case atStart => exact ⟨i, dk, rfl, by omega, Nat.le_refl _, hsk, hAk, rfl⟩
      case round =>
        clear hAk
        obtain ⟨j, dj, rfl, haj, hji, hsj, hA2, HI⟩ := hrel
        have c0 := (hA2.2.blk hT1 hTo).cell 0
        have c1 := (hA2.2.blk hT1 hTo).cell 1
        by_cases hja : a < j
        · have hl := D.less j (j - 1) hA2 hsj (by omega) (by omega)
          rw [show (((j - 1 : Nat) : Int)) = (j : Int) - 1 by omega] at hl
          cases hlv : lt dj[j]! dj[j - 1]! with
          | true =>
            rw [hlv] at hl
            go_wp2_with (go_at_fn g; refine hl.mono ?_; rintro e w' ⟨rfl, hA3⟩; clear c0 c1; have c3 := (hA3.2.blk hT1 hTo).cell 1)
            obtain ⟨w4, hs, hA4⟩ := D.swap j (j - 1) hA3 hsj (by omega) (by omega)
            rw [show (((j - 1 : Nat) : Int)) = (j : Int) - 1 by omega] at hs
            rw [hs, Oper.upon_value]
            go_wp2
            go_roundw
            case rel => exact ⟨j - 1, swp dj j (j - 1), by congr 1; omega, by omega, by omega, by rw [size_swp]; exact hsj, hA4, (show Hid _ from by rw [← HI.out, insInner_go lt a j dj hja hlv]; exact rfl)⟩
            case measure => simp [intOf]; omega
          | false =>
            rw [hlv] at hl
            go_wp2_with (go_at_fn g; refine hl.mono ?_; rintro e w' ⟨rfl, hA3⟩)
            go_roundw
            case rel => exact ⟨i + 1, dj, by go_num, by omega, by omega, hsj, hA3, (show Hid _ from by rw [← HO.out, insOuter_go _ _ _ _ _ hlt, ← HI.out, insInner_stop _ _ _ _ (Or.inr hlv)]; exact rfl)⟩
            case measure => simp [intOf]; omega
        · go_wp2
          go_roundw
          case rel => exact ⟨i + 1, dj, by go_num, by omega, by omega, hsj, hA2, (show Hid _ from by rw [← HO.out, insOuter_go _ _ _ _ _ hlt, ← HI.out, insInner_stop _ _ _ _ (Or.inl (by omega))]; exact rfl)⟩
          case measure => simp [intOf]; omega
    · go_wp2
      go_end0
      refine ⟨rfl, ?_⟩
      unfold Sort.insertionSort
      rw [← HO.out, insOuter_stop _ _ _ _ _ hlt]
      exact hA.swap hAk.1 ((hF1.mono (by simp)).trans hAk.2 (fun k hk _ => hk))
end Go.Proofs.Wx
