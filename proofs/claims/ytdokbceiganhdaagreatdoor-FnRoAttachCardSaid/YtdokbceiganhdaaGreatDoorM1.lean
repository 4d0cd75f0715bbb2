import Derived.Test.YtdokbceiganhdaaGreatDoorM0
import Derived.WalkKit
import Derived.Below
import Derived.Deep.Draws
import Derived.Test.YtdokbceiganhdaaGreatDoorProg
import Derived.WalkSpells
import Derived.Outline
import Derived.KernelRfl
import Derived.Laws.CopyOwn
import Derived.Laws.OwnMore
import Derived.Lib.Hide
import Derived.OwnWalk
import Derived.Laws.IdiomStrings
import Derived.Laws.AppendOwn
import Derived.Lib.Varint
set_option maxRecDepth 100000
set_option maxHeartbeats 1000000
set_option linter.unusedVariables false
set_option linter.unusedSimpArgs false
set_option linter.deprecated false
set_option linter.all false
set_option linter.unusedSectionVars false
namespace Go
section
variable {P : Program} {B : Option Nat} {ops : Array Oper} {Q : Exit → Act → World → Prop}
instance {P : Program} {fn : Func} {R : Ending → World → Prop} : Keeps (Go.bodyPost P fn R) where
  keep:=fun _ a d _ _ h=>by cases d <;> exact h
instance {next : Act → World → Prop} [h : Keeps Q] : Keeps (Exit.then next Q) where
  keep:=fun c a d v w hh=>h.keep c a d v w hh
instance {id : Nat} [h : Keeps Q] : Keeps (Exit.inBlock id Q) where
  keep:=fun c a d v w hh=>h.keep c a d v w hh

theorem wEI {l : List (Nat × Cls)} {a : Act} {w : World} (h : wpE P B ops Q l a w) : wpE P B ops Q l a w:=h
theorem wEN {a : Act} {w : World} (h : Q .normal a w) : wpE P B ops Q [] a w:=h
theorem wEF {i : Nat} {rest : List (Nat × Cls)} {o : Oper} {a : Act} {w : World} (ho : ops[i]? = some o)
    (h : ∀ K : Act → World → Prop,(∀ a w,wpE P B ops Q rest a w → K a w) →
      if Region.wanted o (yielded ops a.tmps) = true then ∃ v,(∀ w2,(execOp a.eval o).run P w2 = .ok (.value v) w2) ∧ K (a.put o.dst v) w else K (a.put o.dst undef) w) :
    wpE P B ops Q ((i,.free) :: rest) a w:=by
  have:=h _ (fun _ _ h=>h)
  unfold wpE eOp
  rw [ho]
  simp only
  split at this <;> rename_i hw
  · obtain ⟨v,h1,h2⟩:=this
    exact ⟨v,.inl ⟨hw,by rw [if_pos rfl];exact h1⟩,h2⟩
  · exact ⟨undef,.inr ⟨by simpa using hw,rfl⟩,this⟩
theorem wEL {i : Nat} {rest : List (Nat × Cls)} {o : Oper} {a : Act} {w : World} {t : TypeId} {x : Operand} (ho : ops[i]? = some o) (hop : o.op = .load t x)
    (h : ∀ K : Act → World → Prop,(∀ a w,wpE P none ops Q rest a w → K a w) →
      if Region.wanted o (yielded ops a.tmps) = true then ∃ v,(execOp a.eval o).run P w = .ok (.value v) w ∧ K (a.put o.dst v) w else K (a.put o.dst undef) w) :
    wpE P none ops Q ((i,.look) :: rest) a w:=by
  have:=h _ (fun _ _ h=>h)
  unfold wpE eOp
  rw [ho]
  simp only
  split at this <;> rename_i hw
  · obtain ⟨v,h1,h2⟩:=this
    exact ⟨v,.inl ⟨hw,by rw [if_neg (by decide),if_pos rfl];exact fun w2 he=>((loads_op _ o ⟨t,x,hop⟩).run he h1).2⟩,h2⟩
  · exact ⟨undef,.inr ⟨by simpa using hw,rfl⟩,this⟩
/-- A conversion, or whatever reads and is sure to read the same under new blocks. -/
theorem wpE_look2 {i : Nat} {rest : List (Nat × Cls)} {o : Oper} {a : Act} {w : World} {v : Value} (ho : ops[i]? = some o) (hg : o.guard = none)
    (h1 : ∀ w2,World.ExtO B w w2 → (execOp a.eval o).run P w2 = .ok (.value v) w2) (h2 : wpE P B ops Q rest (a.put o.dst v) w) : wpE P B ops Q ((i,.look) :: rest) a w:=by
  have hw : Region.wanted o (yielded ops a.tmps) = true:=by simp [Region.wanted,hg]
  unfold wpE eOp
  rw [ho]
  exact ⟨v,.inl ⟨hw,by rw [if_neg (by decide),if_pos rfl];exact h1⟩,h2⟩
theorem wpE_growp {i : Nat} {rest : List (Nat × Cls)} {o : Oper} {a : Act} {w : World} (ho : ops[i]? = some o) (hg : o.guard = none)
    (h : ∀ K : Act → World → Prop,(∀ a w',World.ExtO B w w' → wpE P B ops Q rest a w' → K a w') → o.wp P a w K Q) : wpE P B ops Q ((i,.grow) :: rest) a w:=by
  have hw : Region.wanted o (yielded ops a.tmps) = true:=by simp [Region.wanted,hg]
  have:=h (fun a' w'=>World.ExtO B w w' ∧ wpE P B ops Q rest a' w') (fun _ _ he hh=>⟨he,hh⟩)
  unfold wpE eOp
  rw [ho]
  simp only
  rw [if_pos hw];exact .inl this
theorem wER {i : Nat} {rest : List (Nat × Cls)} {o : Oper} {a : Act} {w : World} (ho : ops[i]? = some o)
    (h : ∀ K : Act → World → Prop,(∀ a w,wpE P B ops Q rest a w → K a w) →
      if Region.wanted o (yielded ops a.tmps) = true then ∃ v,(execOp a.eval o).run P w = .ok (.value v) w ∧ K (a.put o.dst v) w else K (a.put o.dst undef) w) :
    wpE P B ops Q ((i,.read) :: rest) a w:=by
  have:=h _ (fun _ _ h=>h)
  unfold wpE eOp
  rw [ho]
  simp only
  split at this <;> rename_i hw
  · obtain ⟨v,h1,h2⟩:=this
    exact ⟨v,.inl ⟨hw,by rw [if_neg (by decide),if_neg (by decide)];exact h1⟩,h2⟩
  · exact ⟨undef,.inr ⟨by simpa using hw,rfl⟩,this⟩
theorem wEM {i : Nat} {rest : List (Nat × Cls)} {o : Oper} {a : Act} {w : World} (ho : ops[i]? = some o)
    (h : ∀ K : Act → World → Prop,(∀ a w,wpE P B ops Q rest a w → K a w) →
      if Region.wanted o (yielded ops a.tmps) = true then ∃ v ob,(execOp a.eval o).run P w = .ok (.value v) (w.alloc ob) ∧ K (a.put o.dst v) (w.alloc ob) else K (a.put o.dst undef) w) :
    wpE P B ops Q ((i,.make) :: rest) a w:=by
  have:=h _ (fun _ _ h=>h)
  unfold wpE eOp
  rw [ho]
  exact this
theorem wEG {i : Nat} {rest : List (Nat × Cls)} {o : Oper} {a : Act} {w : World} (ho : ops[i]? = some o)
    (h : ∀ K : Act → World → Prop,(∀ a w',World.ExtO B w w' → wpE P B ops Q rest a w' → K a w') →
      if Region.wanted o (yielded ops a.tmps) = true then o.wp P a w K Q else wpE P B ops Q rest (a.put o.dst undef) w) :
    wpE P B ops Q ((i,.grow) :: rest) a w:=by
  have:=h (fun a' w'=>World.ExtO B w w' ∧ wpE P B ops Q rest a' w') (fun _ _ he hh=>⟨he,hh⟩)
  unfold wpE eOp
  rw [ho]
  simp only
  split at this <;> rename_i hw
  · rw [if_pos hw];exact .inl this
  · rw [if_neg hw];exact this
theorem wEA {i : Nat} {rest : List (Nat × Cls)} {o : Oper} {a : Act} {w : World} (ho : ops[i]? = some o)
    (h : ∀ K : Act → World → Prop,(∀ a w,wpE P B ops Q rest a w → K a w) →
      if Region.wanted o (yielded ops a.tmps) = true then o.wp P a w K Q else K (a.put o.dst undef) w) :
    wpE P B ops Q ((i,.act) :: rest) a w:=by
  have:=h _ (fun _ _ h=>h)
  unfold wpE eOp
  rw [ho]
  simp only
  split at this <;> rename_i hw
  · rw [if_pos hw];exact .inl this
  · rw [if_neg hw];exact this
theorem wpE_actp {i : Nat} {rest : List (Nat × Cls)} {o : Oper} {a : Act} {w : World} (ho : ops[i]? = some o) (hg : o.guard = none)
    (h : ∀ K : Act → World → Prop,(∀ a w,wpE P B ops Q rest a w → K a w) → o.wp P a w K Q) :
    wpE P B ops Q ((i,.act) :: rest) a w :=
  wEA ho fun K hK=>by
    have hw : Region.wanted o (yielded ops a.tmps) = true:=by simp [Region.wanted,hg]
    rw [if_pos hw];exact h K hK
/-! ### which operation it is, by looking -/
theorem op_bi (bi : Builtin) {args : Array Operand} {ats : Array TypeId} {ds : Option Tmp} {ty : TypeId} {po : String} {af : Array Edge} {a : Act} {w : World} {K : Act → World → Prop} (h : Oper.wp P { dst:=ds,op:=.call { callee:=.builtin bi,args:=args,argTypes:=ats },type:=ty,pos:=po,after:=af,guard:=none } a w K Q) : Oper.wp P { dst:=ds,op:=.call { callee:=.builtin bi,args:=args,argTypes:=ats },type:=ty,pos:=po,after:=af,guard:=none } a w K Q:=h
theorem list_bi (bi : Builtin) {args : Array Operand} {ats : Array TypeId} {ds : Option Tmp} {ty : TypeId} {po : String} {af : Array Edge} {rest : List Oper} {a : Act} {w : World} (h : ∀ K : Act → World → Prop,(∀ a w,wpList P ops Q rest a w → K a w) → Oper.wp P { dst:=ds,op:=.call { callee:=.builtin bi,args:=args,argTypes:=ats },type:=ty,pos:=po,after:=af,guard:=none } a w K Q) : wpList P ops Q ({ dst:=ds,op:=.call { callee:=.builtin bi,args:=args,argTypes:=ats },type:=ty,pos:=po,after:=af,guard:=none } :: rest) a w:=wpList_plain rfl h
theorem op_mapUpdate {T : TypeId} {m k v : Operand} {ds : Option Tmp} {ty : TypeId} {po : String} {af : Array Edge} {a : Act} {w : World} {K : Act → World → Prop} (h : Oper.wp P { dst:=ds,op:=.mapUpdate T m k v,type:=ty,pos:=po,after:=af,guard:=none } a w K Q) : Oper.wp P { dst:=ds,op:=.mapUpdate T m k v,type:=ty,pos:=po,after:=af,guard:=none } a w K Q:=h
theorem list_mapUpdate {T : TypeId} {m k v : Operand} {ds : Option Tmp} {ty : TypeId} {po : String} {af : Array Edge} {rest : List Oper} {a : Act} {w : World} (h : ∀ K : Act → World → Prop,(∀ a w,wpList P ops Q rest a w → K a w) → Oper.wp P { dst:=ds,op:=.mapUpdate T m k v,type:=ty,pos:=po,after:=af,guard:=none } a w K Q) : wpList P ops Q ({ dst:=ds,op:=.mapUpdate T m k v,type:=ty,pos:=po,after:=af,guard:=none } :: rest) a w:=wpList_plain rfl h
theorem op_makeSlice {T : TypeId} {n c : Operand} {ds : Option Tmp} {ty : TypeId} {po : String} {af : Array Edge} {a : Act} {w : World} {K : Act → World → Prop} (h : Oper.wp P { dst:=ds,op:=.makeSlice T n c,type:=ty,pos:=po,after:=af,guard:=none } a w K Q) : Oper.wp P { dst:=ds,op:=.makeSlice T n c,type:=ty,pos:=po,after:=af,guard:=none } a w K Q:=h
theorem list_makeSlice {T : TypeId} {n c : Operand} {ds : Option Tmp} {ty : TypeId} {po : String} {af : Array Edge} {rest : List Oper} {a : Act} {w : World} (h : ∀ K : Act → World → Prop,(∀ a w,wpList P ops Q rest a w → K a w) → Oper.wp P { dst:=ds,op:=.makeSlice T n c,type:=ty,pos:=po,after:=af,guard:=none } a w K Q) : wpList P ops Q ({ dst:=ds,op:=.makeSlice T n c,type:=ty,pos:=po,after:=af,guard:=none } :: rest) a w:=wpList_plain rfl h
theorem op_convert {A B : TypeId} {x : Operand} {ds : Option Tmp} {ty : TypeId} {po : String} {af : Array Edge} {a : Act} {w : World} {K : Act → World → Prop} (h : Oper.wp P { dst:=ds,op:=.convert A B x,type:=ty,pos:=po,after:=af,guard:=none } a w K Q) : Oper.wp P { dst:=ds,op:=.convert A B x,type:=ty,pos:=po,after:=af,guard:=none } a w K Q:=h
theorem list_convert {A B : TypeId} {x : Operand} {ds : Option Tmp} {ty : TypeId} {po : String} {af : Array Edge} {rest : List Oper} {a : Act} {w : World} (h : ∀ K : Act → World → Prop,(∀ a w,wpList P ops Q rest a w → K a w) → Oper.wp P { dst:=ds,op:=.convert A B x,type:=ty,pos:=po,after:=af,guard:=none } a w K Q) : wpList P ops Q ({ dst:=ds,op:=.convert A B x,type:=ty,pos:=po,after:=af,guard:=none } :: rest) a w:=wpList_plain rfl h
end
end Go

namespace Go
open Go.RowKit

/-- Block b is the row cs of elements of type T; frozen within fr. -/
def Blk (w : World) (b : Nat) (cs : List Value) (T : TypeId) (fr : Nat × Nat) : Prop:=w.heap[b]? = some (.cells cs.toArray T fr)

section
variable {w : World} {b : Nat} {cs : List Value} {T : TypeId} {fr : Nat × Nat}
theorem Blk.cells (h : Blk w b cs T fr) : ∀ o,w.cell? ⟨b,o,none⟩ = cs[o]?:=fun o=>by
  unfold Blk at h;simp [World.cell?,h]
theorem Blk.cell (h : Blk w b cs T fr) (o : Nat) : w.cell? ⟨b,o,none⟩ = cs[o]?:=h.cells o
theorem Blk.free (h : Blk w b cs T (0,0)) : ∀ o,w.frozen? ⟨b,o,none⟩ = false:=fun o=>by
  unfold Blk at h;simp [World.frozen?,h]
theorem Blk.lt (h : Blk w b cs T fr) : b < w.heap.size:=(Array.getElem?_eq_some_iff.1 h).1
theorem Blk.conv {cs' : List Value} (h : Blk w b cs' T fr) (e : cs' = cs) : Blk w b cs T fr:=e ▸ h
theorem Blk.drew (h : Blk w b cs T fr) : Blk w.drew b cs T fr:=h
theorem Blk.drewN {n : Nat} (h : Blk w b cs T fr) : Blk (w.drewN n) b cs T fr:=h
theorem Blk.alloc {o : Obj} (h : Blk w b cs T fr) : Blk (w.alloc o) b cs T fr:=by
  have:=h.lt
  unfold Blk;rw [Below.heap_alloc w o b this];exact h
theorem Blk.new : Blk (w.alloc (.cells cs.toArray T fr)) w.heap.size cs T fr:=by
  show (w.heap.push _)[w.heap.size]? = _
  simp
theorem Blk.set {o : Nat} {v : Value} (h : Blk w b cs T fr) : Blk (w.setCell ⟨b,o,none⟩ v) b (cs.set o v) T fr:=by
  unfold Blk at *
  simp [World.setCell,Array.getElem?_modify,h]
theorem Blk.setNe {a : Addr} {v : Value} (hne : a.block ≠ b) (h : Blk w b cs T fr) : Blk (w.setCell a v) b cs T fr:=by
  unfold Blk at *
  rw [Below.heap_setCell w a v b (Ne.symm hne)];exact h
end

/-- Of what w held, w' holds all but the blocks S as it was. -/
structure Fr (S : List Nat) (w w' : World) : Prop where
  os : w'.os = w.os
  tape : w'.tape = w.tape
  output : w'.output = w.output
  size : w.heap.size ≤ w'.heap.size
  block : ∀ k,k < w.heap.size → k ∉ S → w'.heap[k]? = w.heap[k]?

section
variable {S S' : List Nat} {w w' w'' : World}
theorem Fr.refl : Fr S w w:=⟨rfl,rfl,rfl,Nat.le_refl _,fun _ _ _=>rfl⟩
theorem Fr.trans (h : Fr S w w') (h' : Fr S' w' w'') (hs : ∀ k ∈ S',k < w.heap.size → k ∈ S) : Fr S w w'' :=
  ⟨h'.os.trans h.os,h'.tape.trans h.tape,h'.output.trans h.output,Nat.le_trans h.size h'.size,fun k hk hn=>by
    rw [h'.block k (Nat.lt_of_lt_of_le hk h.size) (fun hm=>hn (hs k hm hk)),h.block k hk hn]⟩
theorem Fr.mono (h : Fr S w w') (hs : ∀ k ∈ S,k ∈ S') : Fr S' w w':=⟨h.os,h.tape,h.output,h.size,fun k hk hn=>h.block k hk fun hm=>hn (hs k hm)⟩
theorem Fr.drew (h : Fr S w w') : Fr S w w'.drew:=⟨h.os,h.tape,h.output,h.size,h.block⟩
theorem Fr.drewN {n : Nat} (h : Fr S w w') : Fr S w (w'.drewN n):=⟨h.os,h.tape,h.output,h.size,h.block⟩
theorem Fr.alloc {o : Obj} (h : Fr S w w') : Fr S w (w'.alloc o) :=
  ⟨h.os,h.tape,h.output,by have:=h.size;simp;omega,fun k hk hn=>by rw [Below.heap_alloc _ _ _ (Nat.lt_of_lt_of_le hk h.size)];exact h.block k hk hn⟩
theorem Fr.setCell {a : Addr} {v : Value} (ha : a.block ∈ S ∨ w.heap.size ≤ a.block) (h : Fr S w w') : Fr S w (w'.setCell a v) :=
  ⟨h.os,h.tape,h.output,by have:=h.size;simp [World.setCell];omega,fun k hk hn=>by
    rw [Below.heap_setCell _ _ _ _ (fun e=>by rcases ha with ha|ha;exact hn (e ▸ ha);omega)];exact h.block k hk hn⟩
theorem Fr.blk {b : Nat} {cs : List Value} {T : TypeId} {fr : Nat × Nat} (h : Fr S w w') (hb : Blk w b cs T fr) (hn : b ∉ S) : Blk w' b cs T fr:=by
  unfold Blk;rw [h.block b hb.lt hn];exact hb
theorem Fr.below (h : Fr [] w w') : Below w.heap.size w w':=⟨h.os,h.tape,h.output,h.size,fun k hk=>h.block k hk (by simp)⟩
theorem Fr.of_below {B : Nat} (h : Below B w w') (hB : w.heap.size ≤ B) : Fr S w w':=⟨h.os,h.tape,h.output,h.size,fun k hk _=>h.block k (by omega)⟩
end
end Go

namespace Go.Proofs.Wx
open Go Go.RowKit
theorem mixed : Tryz.prog.follows .mixedOrders = true:=by kernel_rfl

/-- A region that draws its order, walked once. -/
theorem wre {ops : Array Oper} {Q : Exit → Act → World → Prop} (id : Nat) {a : Act} {w : World} (l : List (Nat × Cls)) [hQ : Keeps Q] (h : wpE Tryz.prog none ops Q l a w.drew)
    (hB : (Region.noSelect ops && eagerB ops (clOf l) l (Array.replicate ops.size false) && (l.length == ops.size)) = true:=by kernel_rfl) : (Code.region id ops true).wp Tryz.prog Q a w:=wp_region_eager mixed l hB h
theorem results_tmp4 {fn : Func} {t u v x : Tmp} (h : fn.results = #[.tmp t,.tmp u,.tmp v,.tmp x]) (tmps : Array Value) (P : Program) (w : World) :
    (results fn tmps).run P w = .ok (.tuple #[tmps.getD t undef,tmps.getD u undef,tmps.getD v undef,tmps.getD x undef]) w:=by simp [results,h]
theorem and_of {A B : Prop} (hB : B) (hA : B → A) : A ∧ B:=⟨hA hB,hB⟩
/-- Bytes as cells. -/
def by8 (xs : List UInt8) : List Value:=xs.map fun x=>.int .u8 (x.toNat : Nat)
theorem by8_length (xs : List UInt8) : (by8 xs).length = xs.length:=by simp [by8]
theorem by8_at (xs : List UInt8) (k : Nat) (h : k < xs.length) : (by8 xs)[k]? = some (.int .u8 (xs[k].toNat : Nat)):=by simp [by8,h]
theorem by8_append (xs ys : List UInt8) : by8 (xs ++ ys) = by8 xs ++ by8 ys:=by simp [by8]
theorem by8_one (xs : List UInt8) : ∀ u ∈ by8 xs,u.oneCell' = true:=by
  intro u hu;simp [by8] at hu;obtain ⟨x,_,rfl⟩:=hu;rfl

/-- A part of a block's cells reads as these bytes. -/
structure Bs (w : World) (b o : Nat) (xs : List UInt8) : Prop where
  lt : b < w.heap.size
  cell : ∀ k (h : k < xs.length),w.cell? ⟨b,o + k,none⟩ = some (.int .u8 (xs[k].toNat : Nat))
section
variable {w w' : World} {b o : Nat} {xs : List UInt8} {S : List Nat}
theorem Bs.fr (h : Bs w b o xs) (hf : Fr S w w') (hn : b ∉ S) : Bs w' b o xs :=
  ⟨Nat.lt_of_lt_of_le h.lt hf.size,fun k hk=>by rw [World.cell?_of_block (w:=w) (hf.block b h.lt hn)];exact h.cell k hk⟩
theorem Bs.drop (h : Bs w b o xs) (k : Nat) : Bs w b (o + k) (xs.drop k) :=
  ⟨h.lt,fun j hj=>by rw [Nat.add_assoc,h.cell (k + j) (by simp at hj;omega)];simp⟩
theorem Bs.take (h : Bs w b o xs) (k : Nat) : Bs w b o (xs.take k) :=
  ⟨h.lt,fun j hj=>by rw [h.cell j (by simp at hj;omega)];simp⟩
theorem Bs.drew (h : Bs w b o xs) : Bs w.drew b o xs:=⟨h.1,h.2⟩
theorem Bs.alloc (h : Bs w b o xs) (ob : Obj) : Bs (w.alloc ob) b o xs:=h.fr (Fr.alloc (S:=[]) Fr.refl) (by simp)
theorem Bs.setNe {a : Addr} {v : Value} (hn : a.block ≠ b) (h : Bs w b o xs) : Bs (w.setCell a v) b o xs:=h.fr (Fr.setCell (S:=[a.block]) (.inl (by simp)) Fr.refl) (by simp [Ne.symm hn])
theorem Blk.bs {cs pre post : List Value} {T : TypeId} {fr : Nat × Nat} (h : Blk w b cs T fr) (e : cs = pre ++ by8 xs ++ post) (ho : pre.length = o) : Bs w b o xs :=
  ⟨h.lt,fun k hk=>by
    rw [h.cell,e,List.append_assoc,List.getElem?_append_right (by omega),List.getElem?_append_left (by rw [by8_length];omega),show o + k - pre.length = k by omega,by8_at _ _ hk]⟩
end

theorem Fr.setRow {S : List Nat} {w w' : World} {g : Nat} {cs : Array Value} (hg : g ∈ S ∨ w.heap.size ≤ g) (h : Fr S w w') : Fr S w (w'.setRow g cs) :=
  ⟨h.os,h.tape,h.output,by have:=h.size;simp [World.setRow];omega,fun k hk hn=>by
    rw [setRow_other _ _ _ _ (fun e=>by rcases hg with hg|hg;exact hn (e ▸ hg);omega)];exact h.block k hk hn⟩
theorem Blk.setRow {w : World} {g : Nat} {cs cs' : List Value} {T : TypeId} {fr : Nat × Nat} (h : Blk w g cs T fr) : Blk (w.setRow g cs'.toArray) g cs' T fr:=setRow_heap w g _ _ T fr h
theorem Blk.setRowNe {w : World} {g b : Nat} {cs : List Value} {x : Array Value} {T : TypeId} {fr : Nat × Nat} (hn : g ≠ b) (h : Blk w b cs T fr) : Blk (w.setRow g x) b cs T fr:=by
  unfold Blk at *;rw [setRow_other _ _ _ _ (Ne.symm hn)];exact h
theorem Bs.setRowNe {w : World} {g b o : Nat} {xs : List UInt8} {x : Array Value} (hn : g ≠ b) (h : Bs w b o xs) : Bs (w.setRow g x) b o xs:=h.fr (Fr.setRow (S:=[g]) (.inl (by simp)) Fr.refl) (by simp [Ne.symm hn])

/-- n bytes of xs copied over a row, from off on. -/
def lay (cs : List Value) (off : Nat) (xs : List UInt8) : List Value:=cs.take off ++ by8 xs ++ cs.drop (off + xs.length)
theorem lay_length {cs : List Value} {off : Nat} {xs : List UInt8} (h : off + xs.length ≤ cs.length) : (lay cs off xs).length = cs.length:=by
  simp [lay,by8_length];omega
/-- copy, from bytes into a row. -/
theorem copyB {P : Program} {o : Oper} {a : Act} {K : Act → World → Prop} {Q : Exit → Act → World → Prop} {w : World} (d s : Operand) (dT sT : TypeId)
    (ho : o.op = .call { callee:=.builtin .copy,args:=#[d,s],argTypes:=#[dT,sT] }) (elem : TypeId) (hu : P.underlying dT = some (.slice elem)) (hs : (P.info? elem).map (·.size) = some 1)
    (g off dLen dCap b so sLen sCap : Nat) (hd : a.eval d = .slice (some ⟨g,off,none⟩) dLen dCap) (hss : a.eval s = .slice (some ⟨b,so,none⟩) sLen sCap)
    (cs : List Value) (T : TypeId) (hg : Blk w g cs T (0,0)) (xs : List UInt8) (hx : Bs w b so xs) (hn : xs.length = Nat.min sLen dLen) (hfit : off + xs.length ≤ cs.length)
    (h : ∀ w',Blk w' g (lay cs off xs) T (0,0) → Fr [g] w w' → K (a.put o.dst (goInt xs.length)) w') : o.wp P a w K Q:=by
  have hr:=run_copy_row P w dT sT o.type elem g off dLen dCap ⟨b,so,none⟩ sLen sCap cs.toArray T (by8 xs) hu hs hg (by rw [by8_length];exact hn)
    (fun j v hv=>by
      have hj : j < xs.length:=by have:=(List.getElem?_eq_some_iff.1 hv).1;rwa [by8_length] at this
      rw [by8_at _ _ hj] at hv
      rw [← hv,Addr.add_lit];exact hx.cell j hj)
    (by rw [by8_length];simpa using hfit) (by8_one xs)
  unfold Oper.wp execOp
  simp only [ho,resolve,invoke,builtin,Sem.run_bind,Sem.run_pure,Result.andThen_ok,List.map_toArray,List.map_cons,List.map_nil,hd,hss,hr]
  have:=h _ (Blk.setRow (cs':=lay cs off xs) hg) (Fr.setRow (.inl (by simp)) Fr.refl)
  simpa [lay,by8_length,Oper.upon] using this

theorem u8_slice : Tryz.prog.underlying 76 = some (.slice 5):=by kernel_rfl
theorem u8_info : (Tryz.prog.info? 5).map (fun i=>(i.zero,i.size,i.bytes)) = some (some (.int .u8 0),1,1):=by kernel_rfl
/-- make([]byte, n, c). -/
theorem makeB {o : Oper} {a : Act} {K : Act → World → Prop} {Q : Exit → Act → World → Prop} {w : World} (l c : Operand) (ho : o.op = .makeSlice 76 l c)
    (kl kc : IntKind) (L C : Int) (n cap : Nat) (hl : a.eval l = .int kl L) (hc : a.eval c = .int kc C) (hL : L = (n : Int)) (hC : C = (cap : Int)) (hnc : n ≤ cap) (hb : cap ≤ 140737488355328)
    (h : K (a.put o.dst (.slice (some ⟨w.heap.size,0,none⟩) n cap)) (w.alloc (.cells (List.replicate cap (Value.int .u8 0)).toArray 5 (0,0)))) : o.wp Tryz.prog a w K Q:=by
  obtain ⟨i,hi,hz,hs,hby⟩:=info_parts u8_info
  have hr:=run_make (P:=Tryz.prog) w _ _ i (.int .u8 0) u8_slice hi hz kl kc n cap (by omega) (by omega) (by rw [hby];omega) (by omega)
  subst hL hC
  have e : (madeCells (Value.int .u8 0).cells (cap * 1)) = (List.replicate cap (Value.int .u8 0)).toArray:=by
    have:=toList_madeCells_one (.int .u8 0) (cap * 1)
    rw [Nat.mul_one] at *
    rw [← this];rfl
  rw [hs] at hr
  simp only [Int.toNat_natCast,e] at hr
  unfold Oper.wp execOp
  simp [ho,hl,hc,hr,Oper.upon,Result.andThen]
  exact h

/-- append of bytes that fits. -/
theorem appRoom {o : Oper} {a : Act} {K : Act → World → Prop} {Q : Exit → Act → World → Prop} {w : World} (s x : Operand)
    (ho : o.op = .call { callee:=.builtin .append,args:=#[s,x],argTypes:=#[76,76] })
    (g n cap : Nat) (cs : List Value) (hg : Blk w g cs 5 (0,0)) (hs : a.eval s = .slice (some ⟨g,0,none⟩) n cap)
    (b so m c : Nat) (xs : List UInt8) (hx : a.eval x = .slice (some ⟨b,so,none⟩) m c) (hB : Bs w b so xs) (hm : xs.length = m) (hroom : n + m ≤ cap) (hfit : n + m ≤ cs.length)
    (h : ∀ w',Blk w' g (lay cs n xs) 5 (0,0) → Fr [g] w w' → K (a.put o.dst (.slice (some ⟨g,0,none⟩) (n + m) cap)) w') : o.wp Tryz.prog a w K Q:=by
  obtain ⟨i,hi,hz,hsz,hby⟩:=info_parts u8_info
  have hr:=run_append_room (P:=Tryz.prog) w 76 o.type 5 i u8_slice hi g n cap cs.toArray hg ⟨b,so,none⟩ m c (by8 xs) (by rw [by8_length,hsz,hm];omega)
    (fun j v hv=>by
      have hj : j < xs.length:=by have:=(List.getElem?_eq_some_iff.1 hv).1;rwa [by8_length] at this
      rw [by8_at _ _ hj] at hv
      rw [← hv,Addr.add_lit];exact hB.cell j hj) (by8_one xs) hroom (by rw [by8_length,hsz];simp;omega)
  rw [hsz,Nat.mul_one] at hr
  unfold Oper.wp execOp
  simp only [ho,resolve,invoke,builtin,Sem.run_bind,Sem.run_pure,Result.andThen_ok,List.map_toArray,List.map_cons,List.map_nil,hs,hx,hr]
  have:=h _ (Blk.setRow (cs':=lay cs n xs) hg) (Fr.setRow (.inl (by simp)) Fr.refl)
  simpa [lay,by8_length,Oper.upon] using this
/-- The bytes of a block that was just made. -/
theorem Bs.new {w : World} {cs : List Value} {T : TypeId} {fr : Nat × Nat} {xs : List UInt8} (h : cs = by8 xs) : Bs (w.alloc (.cells cs.toArray T fr)) w.heap.size 0 xs :=
  Blk.bs (pre:=[]) (post:=[]) Blk.new (by simp [h]) rfl
theorem Fr.ext {w w' : World} (h : Fr [] w w') : w.Ext w':=fun b hb=>h.block b hb (by simp)
theorem Bs.ext {w w' : World} {b o : Nat} {xs : List UInt8} (h : Bs w b o xs) (he : w.Ext w') : Bs w' b o xs :=
  ⟨Nat.lt_of_lt_of_le h.lt he.size,fun k hk=>he.cell (h.cell k hk)⟩
theorem run_str {w : World} {b o c : Nat} {xs : List UInt8} (h : Bs w b o xs) : (convert 76 9 (.slice (some ⟨b,o,none⟩) xs.length c)).run Tryz.prog w = .ok (.string ⟨xs.toArray⟩) w :=
  run_convert_bytes_back w _ _ 5 _ _ xs (by kernel_rfl) (by kernel_rfl) (by kernel_rfl) (fun j hj=>by rw [Addr.add_lit];exact h.cell j hj)
/-- string(bytes), in a region that draws: it reads what no call that only makes can turn. -/
theorem wpE_str {ops : Array Oper} {Q : Exit → Act → World → Prop} {i : Nat} {rest : List (Nat × Cls)} {o : Oper} {a : Act} {w : World} (x : Operand) (ho : ops[i]? = some o) (hop : o.op = .convert 76 9 x) (hg : o.guard = none)
    {b off n c : Nat} {xs : List UInt8} (hB : Bs w b off xs) (hn : n = xs.length) (hx : a.eval x = .slice (some ⟨b,off,none⟩) n c) (h : wpE Tryz.prog none ops Q rest (a.put o.dst (.string ⟨xs.toArray⟩)) w) : wpE Tryz.prog none ops Q ((i,.look) :: rest) a w:=by
  subst hn
  refine wpE_look2 ho hg (v:=.string ⟨xs.toArray⟩) (fun w2 he=>?_) h
  unfold execOp
  simp only [hop,hx,Sem.run_bind,run_str (hB.ext he),Result.andThen_ok,Sem.run_pure]
/-- string(bytes). -/
theorem strOf {o : Oper} {a : Act} {K : Act → World → Prop} {Q : Exit → Act → World → Prop} {w : World} (x : Operand) (hop : o.op = .convert 76 9 x)
    {b off n c : Nat} {xs : List UInt8} (hB : Bs w b off xs) (hn : n = xs.length) (hx : a.eval x = .slice (some ⟨b,off,none⟩) n c) (h : K (a.put o.dst (.string ⟨xs.toArray⟩)) w) : o.wp Tryz.prog a w K Q:=by
  subst hn
  unfold Oper.wp execOp
  simp only [hop,hx,Sem.run_bind,run_str hB,Result.andThen_ok,Sem.run_pure]
  exact h
/-- Closed by a tactic: only these blocks changed. -/
theorem frP {S : List Nat} {w w' : World} (h : Fr S w w':=by (repeat (first|exact Fr.refl|(with_reducible assumption)|(with_reducible refine Fr.drew ?_)|(with_reducible refine Fr.drewN ?_)|(with_reducible refine Fr.setCell (by simp) ?_)|(with_reducible refine Fr.alloc ?_)|(with_reducible refine Fr.setRow (by simp) ?_)|exact Fr.mono (by assumption) (by simp)))) : Fr S w w':=h
/-- Closed by a tactic: a block's cells. -/
theorem blkP {w : World} {b : Nat} {cs : List Value} {T : TypeId} {fr : Nat × Nat} (h : Blk w b cs T fr:=by (exact Blk.conv (by repeat (first|(with_reducible assumption)|(with_reducible apply Blk.drew)|(with_reducible apply Blk.drewN)|(with_reducible apply Blk.set)|(with_reducible apply Blk.setRow)|(with_reducible exact Blk.new)|(with_reducible apply Blk.setNe (by (first|(with_reducible assumption)|(simp;omega)|(simp [*];done))))|(with_reducible apply Blk.setRowNe (by (first|(with_reducible assumption)|(simp;omega)|(simp [*];done))))|(with_reducible apply Blk.alloc))) (by first|rfl|(simp;done)|(simp;omega)))) : Blk w b cs T fr:=h
end Go.Proofs.Wx

namespace Go.Proofs.Wx
open Go Go.RowKit
theorem Fr.of_grown {w w' : World} {row : Option Nat} (h : w.grownBy w' row) : Fr row.toList w w':=by
  obtain ⟨h1,h2,h3,h4,h5⟩:=h
  exact ⟨h1,h2,h3,h4,fun k hk hn=>h5 k hk (fun e=>hn (by simp [e]))⟩
theorem own_fr {base : Nat} {w w' : World} {T : TypeId} {size : Nat} {v : Value} {n : Nat} {xs : List Value} {S : List Nat} (h : w.ownsRow base T size v n xs) (hf : Fr S w w') (hS : ∀ k ∈ S,k < base ∨ v.ownBlock ≠ some k) : w'.ownsRow base T size v n xs:=by
  refine ⟨h.1,?_⟩
  rcases h.2 with h2|⟨g,cap,cur,rfl,hb,hg,h3⟩
  · exact .inl h2
  · refine .inr ⟨g,cap,cur,rfl,hb,?_,h3⟩
    rw [hf.block g (Array.getElem?_eq_some_iff.1 hg).1 (fun hm=>by rcases hS g hm with h|h;omega;simp [Value.ownBlock] at h)];exact hg
/-- append of some elements to a row that the call owns. -/
theorem appOwn {o : Oper} {a : Act} {K : Act → World → Prop} {Q : Exit → Act → World → Prop} {w : World} (s x : Operand) (t : TypeId)
    (ho : o.op = .call { callee:=.builtin .append,args:=#[s,x],argTypes:=#[t,t] })
    (base : Nat) (e : TypeId) (z : Value) (size bytes : Nat) (ht : Tryz.prog.underlying t = some (.slice e)) (hi : (Tryz.prog.info? e).map (fun i=>(i.zero,i.size,i.bytes)) = some (some z,size,bytes)) (hzs : z.cells.size = size) (hsz : 0 < size)
    (v : Value) (n : Nat) (xs : List Value) (hs : a.eval s = v) (hown : w.ownsRow base e size v n xs)
    (ad : Addr) (m c : Nat) (news : List Value) (hx : a.eval x = .slice (some ad) m c) (hl : news.length = m * size) (hnews : ∀ j u,news[j]? = some u → w.cell? (ad.add j) = some u) (h1 : ∀ u ∈ news,u.oneCell' = true)
    (h63 : n + m ≤ 1000000000000) (hbytes : (n + m) * bytes ≤ 140737488355328) (hbase : base ≤ w.heap.size)
    (h : ∀ v' w',w'.ownsRow base e size v' (n + m) (xs ++ news) → Fr v.ownBlock.toList w w' → K (a.put o.dst v') w') : o.wp Tryz.prog a w K Q:=by
  obtain ⟨i,hi,hz,hs2,hby⟩:=info_parts hi
  exact wp_append_own w s x t ho base e i z size bytes ht hi hz hs2 hby hzs hsz v n xs hs hown ad m c news hx hl hnews h1 (by unfold maxLen;omega) hbytes hbase fun v' w' h2 h3 _=>h v' w' h2 (Fr.of_grown h3)
/-- The block of an owned row is one of the call's own. -/
theorem own_ge {base : Nat} {w : World} {T : TypeId} {size : Nat} {v : Value} {n : Nat} {xs : List Value} (h : w.ownsRow base T size v n xs) : ∀ k ∈ v.ownBlock.toList,base ≤ k:=by
  intro k hk
  rcases h.2 with ⟨rfl,_⟩|⟨g,cap,cur,rfl,hb,_⟩
  · simp [Value.ownBlock] at hk
  · simp [Value.ownBlock] at hk;omega
end Go.Proofs.Wx

namespace Go.Proofs.Wx
open Go Go.RowKit
theorem run_append_ownX {P : Program} {w : World} (base : Nat) (t ty e : TypeId) (i : TypeInfo) (z : Value) (size bytes : Nat) (ht : P.underlying t = some (.slice e)) (hi : P.info? e = some i) (hz : i.zero = some z)
    (hsize : i.size = size) (hby : i.bytes = bytes) (hzs : z.cells.size = size) (hsz : 0 < size) (v : Value) (n : Nat) (xs : List Value) (hown : w.ownsRow base e size v n xs)
    (a : Addr) (m c : Nat) (news : List Value) (hm : 0 < m) (hl : news.length = m * size) (hnews : ∀ j u,news[j]? = some u → w.cell? (a.add j) = some u) (h1 : ∀ u ∈ news,u.oneCell' = true)
    (h63 : n + m ≤ maxLen) (hbytes : (n + m) * bytes ≤ 140737488355328) (hbase : base ≤ w.heap.size) :
    ∃ v' w',(Builtin.append_ #[t,t] ty #[v,.slice (some a) m c]).run P w = .ok v' w' ∧ w'.ownsRow base e size v' (n + m) (xs ++ news) ∧ w.grownBy w' v.ownBlock ∧ (v'.ownBlock = v.ownBlock ∨ v'.ownBlock = some w.heap.size):=by
  obtain ⟨v',w',hr,h2,h3,_⟩:=run_append_own (P:=P) w base t ty e i z size bytes ht hi hz hsize hby hzs hsz v n xs hown a m c news hl hnews h1 h63 hbytes hbase
  refine ⟨v',w',hr,h2,h3,?_⟩
  subst hsize
  subst hby
  have hsmall : n + m ≤ 9223372036854775807:=by simp only [maxLen] at h63;omega
  rcases hown.2 with ⟨rfl,rfl⟩|⟨g,cap,cur,rfl,hbg,hg,hnc,hcm,hcs,htake⟩
  · right
    have hr2:=run_append_nil (P:=P) w t ty e i z ht hi hz a m c news hl hnews (by omega) (by omega) (by have hb:=hbytes;simp only [Nat.zero_add] at hb;omega)
    have:=hr.symm.trans hr2
    injection this with h4 _
    rw [h4];rfl
  · by_cases hroom : n + m ≤ cap
    · left
      have hfit : n * i.size + news.length ≤ cur.size:=by rw [hl,hcs,← Nat.add_mul];exact Nat.mul_le_mul_right _ hroom
      have hr2:=run_append_room (P:=P) w t ty e i ht hi g n cap cur hg a m c news hl hnews h1 hroom hfit
      have:=hr.symm.trans hr2
      injection this with h4 _
      rw [h4];rfl
    · right
      have holds : ∀ j u,xs[j]? = some u → w.cell? ((⟨g,0,none⟩ : Addr).add j) = some u:=hown.cells (g:=g) rfl
      have hr2:=run_append_grow (P:=P) w t ty e i z ht hi hz ⟨g,0,none⟩ n cap xs hown.1 holds a m c news hl hnews (by omega) (by omega) (growslice_fits (by omega) hbytes)
      have:=hr.symm.trans hr2
      injection this with h4 _
      rw [h4];rfl
theorem appOwnX {o : Oper} {a : Act} {K : Act → World → Prop} {Q : Exit → Act → World → Prop} {w : World} (s x : Operand) (t : TypeId)
    (ho : o.op = .call { callee:=.builtin .append,args:=#[s,x],argTypes:=#[t,t] })
    (base : Nat) (e : TypeId) (z : Value) (size bytes : Nat) (ht : Tryz.prog.underlying t = some (.slice e)) (hi : (Tryz.prog.info? e).map (fun i=>(i.zero,i.size,i.bytes)) = some (some z,size,bytes)) (hzs : z.cells.size = size) (hsz : 0 < size)
    (v : Value) (n : Nat) (xs : List Value) (hs : a.eval s = v) (hown : w.ownsRow base e size v n xs)
    (ad : Addr) (m c : Nat) (news : List Value) (hx : a.eval x = .slice (some ad) m c) (hm : 0 < m) (hl : news.length = m * size) (hnews : ∀ j u,news[j]? = some u → w.cell? (ad.add j) = some u) (h1 : ∀ u ∈ news,u.oneCell' = true)
    (h63 : n + m ≤ 1000000000000) (hbytes : (n + m) * bytes ≤ 140737488355328) (hbase : base ≤ w.heap.size)
    (h : ∀ v' w',w'.ownsRow base e size v' (n + m) (xs ++ news) → Fr v.ownBlock.toList w w' → (v'.ownBlock = v.ownBlock ∨ v'.ownBlock = some w.heap.size) → (∃ g c,v' = .slice (some ⟨g,0,none⟩) (n + m) c) → K (a.put o.dst v') w') : o.wp Tryz.prog a w K Q:=by
  obtain ⟨i,hi,hz,hs2,hby⟩:=info_parts hi
  obtain ⟨v',w',hr,h2,h3,h4⟩:=run_append_ownX (P:=Tryz.prog) (w:=w) base t o.type e i z size bytes ht hi hz hs2 hby hzs hsz v n xs hown ad m c news hm hl hnews h1 (by unfold maxLen;omega) hbytes hbase
  unfold Oper.wp execOp
  simp only [ho,resolve,invoke,builtin,Sem.run_bind,Sem.run_pure,Result.andThen_ok,List.map_toArray,List.map_cons,List.map_nil,hs,hx,hr]
  refine h v' w' h2 (Fr.of_grown h3) h4 ?_
  rcases h2.2 with ⟨_,h0⟩|⟨g,cap,cur,e,_⟩
  · omega
  · exact ⟨g,cap,e⟩
end Go.Proofs.Wx

namespace Go.Proofs.Wx
open Go
/-- A multihash's bytes. -/
def mhB (code : Nat) (dig : List UInt8) : List UInt8:=Lib.uvarint code ++ (Lib.uvarint dig.length ++ dig)
theorem mhB_two (code : Nat) (dig : List UInt8) : 2 ≤ (mhB code dig).length:=by
  have h1:=Lib.uvarint_pos code
  have h2:=Lib.uvarint_pos dig.length
  simp [mhB];omega
/-- An identifier. -/
structure CidM where
  v : Nat
  codec : Nat
  code : Nat
  dig : List UInt8
def CidM.bytes (c : CidM) : List UInt8:=if c.v = 0 then mhB c.code c.dig else Lib.uvarint 1 ++ (Lib.uvarint c.codec ++ mhB c.code c.dig)
structure CidM.Ok (c : CidM) : Prop where
  len : c.dig.length ≤ 200
  kind : (c.v = 0 ∧ c.codec = 112 ∧ c.code = 18 ∧ c.dig.length = 32) ∨ (c.v = 1 ∧ c.codec < 9223372036854775808 ∧ c.code < 9223372036854775808)
theorem uv1 : Lib.uvarint 1 = [1]:=Lib.uvarint_small (by decide)
theorem CidM.bytes0 {c : CidM} (h0 : c.v = 0) (hk : c.code = 18) (hl : c.dig.length = 32) : c.bytes = 18 :: 32 :: c.dig:=by
  unfold CidM.bytes mhB
  rw [if_pos h0,hk,hl,Lib.uvarint_small (by decide),Lib.uvarint_small (by decide)];rfl
theorem CidM.bytes1 {c : CidM} (h0 : c.v = 1) : c.bytes = 1 :: (Lib.uvarint c.codec ++ mhB c.code c.dig):=by
  unfold CidM.bytes
  rw [if_neg (by omega),uv1];rfl
theorem uv9 {n : Nat} (h : n < 9223372036854775808) : (Lib.uvarint n).length ≤ 9:=Lib.uvarint_length 8 n (by omega)
theorem uv2 {n : Nat} (h : n < 16384) : (Lib.uvarint n).length ≤ 2:=Lib.uvarint_length 1 n (by omega)
theorem CidM.Ok.code_lt {c : CidM} (h : c.Ok) : c.code < 9223372036854775808:=by rcases h.kind with ⟨_,_,h,_⟩|⟨_,_,h⟩ <;> omega
theorem CidM.Ok.mh_le {c : CidM} (h : c.Ok) : (mhB c.code c.dig).length ≤ 211:=by
  have h1:=uv9 h.code_lt
  have h2:=uv2 (n:=c.dig.length) (by have:=h.len;omega)
  have:=h.len
  simp [mhB];omega
theorem CidM.Ok.le {c : CidM} (h : c.Ok) : c.bytes.length ≤ 221 ∧ 4 ≤ c.bytes.length + 1:=by
  have hm:=h.mh_le
  have h2:=mhB_two c.code c.dig
  rcases h.kind with ⟨h0,_,_,hl⟩|⟨h1,hc,_⟩
  · rw [CidM.bytes0 h0 (by assumption) hl];simp;omega
  · rw [CidM.bytes1 h1]
    have:=uv9 hc
    have hp:=Lib.uvarint_pos c.codec
    simp;omega
end Go.Proofs.Wx
