import Derived.Orders
import Derived.Laws.World
set_option maxRecDepth 100000
set_option maxHeartbeats 1000000
set_option linter.unusedVariables false
set_option linter.unusedSimpArgs false
set_option linter.deprecated false
set_option linter.all false
set_option linter.unusedSectionVars false
namespace Go

/-! ### what reads alone stays under new blocks -/
/-- w2 has all blocks of w, as they are. -/
def World.Ext (w w2 : World) : Prop:=∀ b : Nat,b < w.heap.size → w2.heap[b]? = w.heap[b]?

theorem World.Ext.refl (w : World) : w.Ext w:=fun _ _=>rfl
theorem World.Ext.size {w w2 : World} (h : w.Ext w2) : w.heap.size ≤ w2.heap.size:=by
  rcases Nat.eq_zero_or_pos w.heap.size with h0|h0
  · omega
  · have:=h (w.heap.size - 1) (by omega)
    rw [Array.getElem?_eq_getElem (show w.heap.size - 1 < w.heap.size by omega)] at this
    have:=(Array.getElem?_eq_some_iff.1 this).1
    omega
theorem World.Ext.trans {w w2 w3 : World} (h : w.Ext w2) (h' : w2.Ext w3) : w.Ext w3:=fun b hb=>by
  rw [h' b (Nat.lt_of_lt_of_le hb h.size),h b hb]
theorem World.Ext.blk {w w2 : World} (h : w.Ext w2) {b : Nat} {o : Obj} (hb : w.heap[b]? = some o) : w2.heap[b]? = some o:=by
  have hlt : b < w.heap.size:=(Array.getElem?_eq_some_iff.1 hb).1
  rw [h b hlt];exact hb
theorem World.Ext.alloc (w : World) (o : Obj) : w.Ext (w.alloc o):=fun b hb=>by
  show (w.heap.push o)[b]? = _
  rw [Array.getElem?_push,if_neg (by omega)]

theorem World.Ext.cell {w w2 : World} (h : w.Ext w2) {a : Addr} {v : Value} (hc : w.cell? a = some v) : w2.cell? a = some v:=by
  unfold World.cell? at *
  cases hb : w.heap[a.block]? with
  | none=>rw [hb] at hc;cases hc
  | some o=>rw [h.blk hb];rw [hb] at hc;exact hc

theorem World.Ext.seen {w w2 : World} (h : w.Ext w2) {p : Program} {at_ : Addr} {u : TypeId} {k : Addr} {b : Bool} {r}
    (hs : w.seen p at_ u k b = .ok r) : w2.seen p at_ u k b = .ok r:=by
  cases hb : w.heap[at_.block]? with
  | some o =>
    have h2:=h.blk hb
    unfold World.seen at *
    rw [h2];rw [hb] at hs;exact hs
  | none =>
    unfold World.seen at hs
    rw [hb] at hs
    simp only [bind,Except.bind] at hs
    repeat' (first|(cases hs;done)|(change Except.error _ = Except.ok _ at hs;cases hs;done)|split at hs)

theorem World.Ext.viewLoad {w w2 : World} (h : w.Ext w2) {p : Program} {at_ : Addr} {u : TypeId} {k : Addr} {b : Bool} {r}
    (hs : w.viewLoad p at_ u k b = .ok r) : w2.viewLoad p at_ u k b = .ok r:=by
  unfold World.viewLoad at *
  simp only [bind,Except.bind] at *
  cases hq : w.seen p at_ u k b with
  | error e=>rw [hq] at hs;simp at hs
  | ok q=>rw [hq] at hs;rw [h.seen hq];exact hs

theorem World.Ext.farLoad {w w2 : World} (h : w.Ext w2) {p : Program} {a : Addr} {b : Bool} {r} (hs : w.farLoad p a b = .ok r) : w2.farLoad p a b = .ok r:=by
  unfold World.farLoad at *
  cases hb : w.heap[a.block]? with
  | none=>rw [hb] at hs;simp at hs
  | some o =>
    rw [h.blk hb];rw [hb] at hs
    cases o <;> simp only at hs ⊢ <;> first|(cases hs;done)|skip
    rename_i at_ u
    cases hq : w.viewLoad p at_ u a b with
    | error e=>rw [hq] at hs;simp at hs
    | ok q=>rw [hq] at hs;rw [h.viewLoad hq];exact hs

/-- Only loads and looks at the program, till it halts. -/
inductive Sem.Loads {α : Type} : Sem α → Prop
  | pure (a : α) : Sem.Loads (.pure a)
  | load (m : Mode) (a : Addr) (k : Value → Sem α) : (∀ v,Sem.Loads (k v)) → Sem.Loads (.load m a k)
  | program (k : Program → Sem α) : (∀ p,Sem.Loads (k p)) → Sem.Loads (.program k)
  | halt (h : Halt) : Sem.Loads (.halt h)

theorem Sem.Loads.bind {α β : Type} {s : Sem α} (h : s.Loads) {f : α → Sem β} (hf : ∀ a,(f a).Loads) : (s.bind f).Loads:=by
  induction h with
  | pure a=>exact hf a
  | load m a k _ ih=>exact .load m a _ fun v=>ih v
  | program k _ ih=>exact .program _ fun p=>ih p
  | halt h=>exact .halt h

theorem Sem.Loads.run {α : Type} {s : Sem α} (h : s.Loads) {p : Program} {w w2 w' : World} {x : α} (he : w.Ext w2) (hr : s.run p w = .ok x w') :
    w' = w ∧ s.run p w2 = .ok x w2:=by
  induction h with
  | pure a=>simp only [Sem.run] at hr ⊢;cases hr;exact ⟨rfl,rfl⟩
  | load m a k _ ih =>
    simp only [Sem.run] at hr ⊢
    cases hc : w.cell? a with
    | some v=>rw [hc] at hr;rw [he.cell hc];exact ih v hr
    | none =>
      rw [hc] at hr
      simp only at hr
      cases hq : w.farLoad p a (m == .atomic) with
      | error e=>rw [hq] at hr;simp at hr
      | ok q =>
        rw [hq] at hr
        have hf:=he.farLoad hq
        have hn : w2.cell? a = none:=by
          unfold World.farLoad at hq
          unfold World.cell?
          cases hb : w.heap[a.block]? with
          | none=>rw [hb] at hq;simp at hq
          | some o =>
            rw [he.blk hb]
            rw [hb] at hq
            cases o <;> first|rfl|(simp at hq;done)
        rw [hn,hf]
        exact ih _ hr
  | program k _ ih=>simp only [Sem.run] at hr ⊢;exact ih p hr
  | halt h=>simp only [Sem.run] at hr;cases hr

theorem loads_isAgg (t : TypeId) : (isAgg t).Loads:=by
  unfold isAgg underlying program stuck
  refine Sem.Loads.bind (.program _ fun p=>?_) fun _=>?_
  · show Sem.Loads (match p.underlying t with | some d => pure d | none => Sem.halt (Halt.stuck "no such type"))
    cases p.underlying t
    · exact .halt _
    · exact .pure _
  · split <;> exact .pure _
theorem loads_sizeOf (t : TypeId) : (sizeOf t).Loads:=by
  unfold sizeOf typeInfo program stuck
  refine Sem.Loads.bind (.program _ fun p=>?_) fun _=>.pure _
  show Sem.Loads (match p.info? t with | some i => pure i | none => Sem.halt (Halt.stuck "no such type"))
  cases p.info? t
  · exact .halt _
  · exact .pure _
theorem loads_cellsFrom (a : Addr) (n : Nat) : ∀ (i : Nat) (acc : Array Value),(loadCellsFrom a i n acc).Loads:=by
  induction n with
  | zero=>intro i acc;exact .pure _
  | succ n ih=>intro i acc;exact .load _ _ _ fun v=>ih _ _
theorem loads_loadVar (t : TypeId) (a : Addr) : (loadVar t a).Loads:=by
  unfold loadVar
  refine Sem.Loads.bind (loads_isAgg t) fun b=>?_
  cases b
  · exact .load _ _ _ fun v=>.pure v
  · exact Sem.Loads.bind (loads_sizeOf t) fun n=>Sem.Loads.bind (loads_cellsFrom a n 0 #[]) fun _=>.pure _
theorem loads_loadAt (t : TypeId) (v : Value) : (Instr.loadAt t v).Loads:=by
  unfold Instr.loadAt Instr.sureAddr
  refine Sem.Loads.bind ?_ fun a=>loads_loadVar t a
  split
  · exact .pure _
  · exact .halt _
theorem loads_op (ρ : Operand → Value) (o : Oper) (h : ∃ t a,o.op = .load t a) : (execOp ρ o).Loads:=by
  obtain ⟨t,a,h⟩:=h
  unfold execOp
  simp only [h]
  exact Sem.Loads.bind (loads_loadAt t (ρ a)) fun _=>.pure _

/-- What a look must bear: with B none new blocks; with some B whatever leaves the blocks below B as they are. -/
abbrev World.ExtO (B : Option Nat) (w w2 : World) : Prop:=match B with
  | none=>w.Ext w2
  | some B=>B ≤ w.heap.size → w.heap.size ≤ w2.heap.size ∧ ∀ b : Nat,b < B → w2.heap[b]? = w.heap[b]?
theorem World.ExtO.refl (B : Option Nat) (w : World) : World.ExtO B w w:=by
  cases B with
  | none=>exact World.Ext.refl w
  | some B=>exact fun _=>⟨Nat.le_refl _,fun _ _=>rfl⟩
theorem World.ExtO.trans {B : Option Nat} {w w2 w3 : World} (h : World.ExtO B w w2) (h' : World.ExtO B w2 w3) : World.ExtO B w w3:=by
  cases B with
  | none=>exact World.Ext.trans h h'
  | some B=>exact fun hb=>⟨Nat.le_trans (h hb).1 (h' (Nat.le_trans hb (h hb).1)).1,fun b hl=>by rw [(h' (Nat.le_trans hb (h hb).1)).2 b hl,(h hb).2 b hl]⟩
theorem World.ExtO.alloc (B : Option Nat) (w : World) (o : Obj) : World.ExtO B w (w.alloc o):=by
  cases B with
  | none=>exact World.Ext.alloc w o
  | some B=>exact fun hb=>⟨World.Ext.size (World.Ext.alloc w o),fun b hl=>World.Ext.alloc w o b (Nat.lt_of_lt_of_le hl hb)⟩

/-! ### the classes of a region's operations -/
/-- free: one value, whatever the world · look: a load · read: it reads the world as it stands · make: it lays one new block · grow: a call that leaves all blocks that there are as they are · act: all else. -/
inductive Cls where|free|look|read|make|grow|act
  deriving DecidableEq

def Cls.acts : Cls → Bool|.make|.grow|.act=>true|_=>false
def Cls.meets : Cls → Cls → Bool
  | .free,_=>true
  | .look,.act=>false
  | .look,_=>true
  | .read,.make|.read,.grow|.read,.act=>false
  | .read,_=>true
  | _,_=>false

section
variable {P : Program} {B : Option Nat} {ops : Array Oper} {Q : Exit → Act → World → Prop} {cl : Nat → Cls}

/-- Operation o yields v in this frame and this world. -/
def YAt (P : Program) (B : Option Nat) (ops : Array Oper) (c : Cls) (o : Oper) (v : Value) (a : Act) (w : World) : Prop :=
  (Region.wanted o (yielded ops a.tmps) = true ∧ (if c = .free then ∀ w2,(execOp a.eval o).run P w2 = .ok (.value v) w2 else if c = .look then ∀ w2,World.ExtO B w w2 → (execOp a.eval o).run P w2 = .ok (.value v) w2 else (execOp a.eval o).run P w = .ok (.value v) w)) ∨
  (Region.wanted o (yielded ops a.tmps) = false ∧ v = undef)

/-- What operation i asks where it comes up. -/
def eOp (P : Program) (B : Option Nat) (ops : Array Oper) (Q : Exit → Act → World → Prop) (c : Cls) (i : Nat) (K : Act → World → Prop) (a : Act) (w : World) : Prop :=
  match ops[i]? with
  | none=>False
  | some o=>match c with
    | .free|.look|.read=>∃ v,YAt P B ops c o v a w ∧ K (a.put o.dst v) w
    | .make=>if Region.wanted o (yielded ops a.tmps) then ∃ v ob,(execOp a.eval o).run P w = .ok (.value v) (w.alloc ob) ∧ K (a.put o.dst v) (w.alloc ob) else K (a.put o.dst undef) w
    | .grow=>if Region.wanted o (yielded ops a.tmps) then o.wp P a w (fun a' w'=>World.ExtO B w w' ∧ K a' w') Q ∨ (o.asks P a w ∧ LetsOut Q) else K (a.put o.dst undef) w
    | .act=>if Region.wanted o (yielded ops a.tmps) then o.wp P a w K Q ∨ (o.asks P a w ∧ LetsOut Q) else K (a.put o.dst undef) w

theorem eOp_mono {c : Cls} {i : Nat} {K K' : Act → World → Prop} {a : Act} {w : World} (h : ∀ a w,K a w → K' a w) (hh : eOp P B ops Q c i K a w) : eOp P B ops Q c i K' a w:=by
  unfold eOp at *
  cases ho : ops[i]? with
  | none=>rw [ho] at hh;exact hh
  | some o =>
    rw [ho] at hh
    cases c <;> simp only at hh ⊢
    case make =>
      split at hh <;> rename_i hw
      · rw [if_pos hw];obtain ⟨v,ob,h1,h2⟩:=hh;exact ⟨v,ob,h1,h _ _ h2⟩
      · rw [if_neg hw];exact h _ _ hh
    case grow =>
      split at hh <;> rename_i hw
      · rw [if_pos hw];exact hh.imp (Oper.wp_mono fun a' w' h'=>⟨h'.1,h _ _ h'.2⟩) id
      · rw [if_neg hw];exact h _ _ hh
    case act =>
      split at hh <;> rename_i hw
      · rw [if_pos hw];exact hh.imp (Oper.wp_mono h) id
      · rw [if_neg hw];exact h _ _ hh
    all_goals (obtain ⟨v,h1,h2⟩:=hh;exact ⟨v,h1,h _ _ h2⟩)

theorem wpOp_of_eOp {c : Cls} {i : Nat} {K K' : Act → World → Prop} {a : Act} {w : World} (h : ∀ a w,K a w → K' a w) (hh : eOp P B ops Q c i K a w) : wpOp P ops Q i K' a w:=by
  unfold eOp at hh
  unfold wpOp
  cases ho : ops[i]? with
  | none=>rw [ho] at hh;exact hh.elim
  | some o =>
    rw [ho] at hh
    simp only
    have hy : ∀ v,YAt P B ops c o v a w → K (a.put o.dst v) w → (if Region.wanted o (yielded ops a.tmps) = true then o.wp P a w K' Q ∨ (o.asks P a w ∧ LetsOut Q) else K' (a.put o.dst undef) w):=by
      rintro v (⟨hw,hr⟩|⟨hw,rfl⟩) hk
      · rw [if_pos hw]
        refine .inl ?_
        have hr' : (execOp a.eval o).run P w = .ok (.value v) w:=by
          split at hr
          · exact hr w
          · split at hr
            · exact hr w (World.ExtO.refl B w)
            · exact hr
        simp only [Oper.wp,hr',Oper.upon]
        exact h _ _ hk
      · rw [if_neg (by simp [hw])];exact h _ _ hk
    cases c <;> simp only at hh
    case make =>
      split at hh <;> rename_i hw
      · rw [if_pos hw]
        obtain ⟨v,ob,h1,h2⟩:=hh
        refine .inl ?_
        simp only [Oper.wp,h1,Oper.upon]
        exact h _ _ h2
      · rw [if_neg hw];exact h _ _ hh
    case grow =>
      split at hh <;> rename_i hw
      · rw [if_pos hw];exact hh.imp (Oper.wp_mono fun a' w' h'=>h _ _ h'.2) id
      · rw [if_neg hw];exact h _ _ hh
    case act =>
      split at hh <;> rename_i hw
      · rw [if_pos hw];exact hh.imp (Oper.wp_mono h) id
      · rw [if_neg hw];exact h _ _ hh
    all_goals (obtain ⟨v,h1,h2⟩:=hh;exact hy v h1 h2)

/-- Whatever order is drawn from here on, each operation asked by its class. -/
def eAny (P : Program) (B : Option Nat) (ops : Array Oper) (Q : Exit → Act → World → Prop) (cl : Nat → Cls) : Nat → Array Bool → Act → World → Prop
  | 0,listed,a,w=>Region.ready .any ops listed = [] ∧ Q .normal a w
  | fuel + 1,listed,a,w =>
    (Region.ready .any ops listed = [] → Q .normal a w) ∧
    ∀ i ∈ Region.ready .any ops listed,eOp P B ops Q (cl i) i (eAny P B ops Q cl fuel (listed.setIfInBounds i true)) a w

theorem wpAny_of_eAny : ∀ (fuel : Nat) (listed : Array Bool) (a : Act) (w : World),eAny P B ops Q cl fuel listed a w → wpAny P .any ops Q fuel listed a w
  | 0,_,_,_,h=>h
  | fuel + 1,_,_,_,h=>⟨h.1,fun i hi=>wpOp_of_eOp (fun a w h'=>wpAny_of_eAny fuel _ a w h') (h.2 i hi)⟩

/-- A panic is told whatever the slots hold. -/
class Keeps (Q : Exit → Act → World → Prop) : Prop where
  keep : ∀ c a d v w,Q (.panic c) (Act.put a d v) w → Q (.panic c) a w

/-- An operation that does not touch another's slots, carried out ahead of it. -/
theorem wp_put_frame {oi oj : Oper} {v : Value} (hap : oi.apart ops oj = true)
    (hsi : ∀ cs b,oi.op ≠ .select cs b) (hsj : ∀ cs b,oj.op ≠ .select cs b) (hQ : Keeps Q) {K : Act → World → Prop} {a : Act} {w : World}
    (h : oj.wp P (a.put oi.dst v) w K Q) :
    oj.wp P a w (fun a' w'=>(execOp a'.eval oi = execOp a.eval oi ∧ Region.wanted oi (yielded ops a'.tmps) = Region.wanted oi (yielded ops a.tmps)) ∧ K (a'.put oi.dst v) w') Q:=by
  obtain ⟨h1,h2,h3⟩:=Oper.apart_spec hap
  have keep : ∀ (b : Act),execOp b.eval oi = execOp a.eval oi → Region.wanted oi (yielded ops b.tmps) = Region.wanted oi (yielded ops a.tmps) → ∀ u,
      execOp (b.put oj.dst u).eval oi = execOp a.eval oi ∧ Region.wanted oi (yielded ops (b.put oj.dst u).tmps) = Region.wanted oi (yielded ops a.tmps):=fun b e1 e2 u =>
    ⟨by rw [execOp_put oi hsi b oj.dst u h3,e1],by rw [wanted_put oi b oj.dst u h3,e2]⟩
  unfold Oper.wp at *
  rw [execOp_put oj hsj a oi.dst v h1] at h
  generalize (execOp a.eval oj).run P w = r at *
  cases r with
  | ok n w' =>
    cases n <;> simp only [Oper.upon] at h ⊢
    case value u=>exact ⟨keep a rfl rfl u,by rw [← Act.put_comm a v u h2];exact h⟩
    case skip=>exact ⟨keep a rfl rfl _,by rw [← Act.put_comm a v undef h2];exact h⟩
    case defer d =>
      refine ⟨keep { a with defers:=d :: a.defers } rfl rfl _,?_⟩
      rw [← Act.put_comm _ v undef h2,← Act.put_defers]
      exact h
    case enter f args =>
      refine Calls.mono h fun e w'' he=>?_
      cases e with
      | returned u=>exact ⟨keep a rfl rfl u,by rw [← Act.put_comm a v u h2];exact he⟩
      | panicked c=>exact hQ.keep _ _ _ _ _ he
      | outgrown=>exact he
    case row row args=>exact Rows.mono h fun u w'' he=>⟨keep a rfl rfl u,by rw [← Act.put_comm a v u h2];exact he⟩
  | halt x w' =>
    cases x <;> simp only [Oper.upon] at h ⊢
    case panic u=>exact hQ.keep _ _ _ _ _ h

theorem eOp_put {i j : Nat} {oi oj : Oper} {v : Value} (hi : ops[i]? = some oi) (hj : ops[j]? = some oj) (hap : oi.apart ops oj = true) (hm : (cl i).meets (cl j) = true)
    (hsel : Region.noSelect ops = true) (hQ : Keeps Q) {K : Act → World → Prop} {a : Act} {w : World}
    (hy : YAt P B ops (cl i) oi v a w) (h : eOp P B ops Q (cl j) j K (a.put oi.dst v) w) :
    eOp P B ops Q (cl j) j (fun a' w'=>YAt P B ops (cl i) oi v a' w' ∧ K (a'.put oi.dst v) w') a w:=by
  obtain ⟨h1,h2,h3⟩:=Oper.apart_spec hap
  have hsi:=fun cs b=>Region.noSelect_spec hsel i oi cs b hi
  have hsj:=fun cs b=>Region.noSelect_spec hsel j oj cs b hj
  have keep : ∀ u,YAt P B ops (cl i) oi v (a.put oj.dst u) w:=fun u=>by
    unfold YAt at *
    rw [execOp_put oi hsi a oj.dst u h3,wanted_put oi a oj.dst u h3]
    exact hy
  have hex:=execOp_put (ops:=ops) oj hsj a oi.dst v h1
  have hwa:=wanted_put (ops:=ops) oj a oi.dst v h1
  unfold eOp at *
  rw [hj] at h ⊢
  generalize hc : cl j = c at *
  cases c <;> simp only at h ⊢
  case make =>
    rw [hwa,hex] at h
    split at h <;> rename_i hw
    · rw [if_pos hw]
      obtain ⟨u,ob,hr,hk⟩:=h
      refine ⟨u,ob,hr,?_,by rw [← Act.put_comm a v u h2];exact hk⟩
      have:=keep u
      rcases this with ⟨hw',hr'⟩|hw'
      · refine .inl ⟨hw',?_⟩
        by_cases hf : cl i = .free
        · rw [if_pos hf] at hr' ⊢;exact hr'
        · have hlook : cl i = .look:=by
            revert hm hf;generalize cl i = d;cases d <;> simp [Cls.meets]
          rw [if_neg hf,if_pos hlook] at hr' ⊢
          exact fun w2 h2=>hr' w2 (World.ExtO.trans (World.ExtO.alloc B w ob) h2)
      · exact .inr hw'
    · rw [if_neg hw];exact ⟨keep _,by rw [← Act.put_comm a v undef h2];exact h⟩
  case grow =>
    rw [hwa] at h
    split at h <;> rename_i hw
    · rw [if_pos hw]
      rcases h with h|⟨hasks,hlets⟩
      case inr=>exact .inr ⟨by unfold Oper.asks at *;rw [hex] at hasks;exact hasks,hlets⟩
      refine .inl (Oper.wp_mono ?_ (wp_put_frame hap hsi hsj hQ h))
      rintro a' w' ⟨⟨e1,e2⟩,he,hk⟩
      refine ⟨he,?_,hk⟩
      unfold YAt at hy ⊢
      rw [e1,e2]
      rcases hy with ⟨hw',hr'⟩|hw'
      · refine .inl ⟨hw',?_⟩
        by_cases hf : cl i = .free
        · rw [if_pos hf] at hr' ⊢;exact hr'
        · have hlook : cl i = .look:=by
            revert hm hf;generalize cl i = d;cases d <;> simp [Cls.meets]
          rw [if_neg hf,if_pos hlook] at hr' ⊢
          exact fun w2 h2=>hr' w2 (World.ExtO.trans he h2)
      · exact .inr hw'
    · rw [if_neg hw];exact ⟨keep _,by rw [← Act.put_comm a v undef h2];exact h⟩
  case act =>
    have hf : cl i = .free:=by revert hm;generalize cl i = d;cases d <;> simp [Cls.meets]
    have hyy : Yields P ops oi v a:=by
      rcases hy with ⟨hw,hr⟩|hw
      · rw [if_pos hf] at hr;exact .inl ⟨hw,hr⟩
      · exact .inr hw
    have hh : wpOp P ops Q j K (a.put oi.dst v) w:=by unfold wpOp;rw [hj];exact h
    have:=wpOp_put hj hap hsi hsj (fun c a w h=>hQ.keep c a _ _ w h) hyy hh
    have h4:=wpOp_mono (K':=fun a' w'=>YAt P B ops (cl i) oi v a' w' ∧ K (a'.put oi.dst v) w') (fun a' w' h'=>⟨by
      rcases h'.1 with ⟨hw,hr⟩|hw
      · exact .inl ⟨hw,by rw [if_pos hf];exact hr⟩
      · exact .inr hw,h'.2⟩) this
    unfold wpOp at h4;rw [hj] at h4;exact h4
  all_goals
    obtain ⟨u,hyj,hk⟩:=h
    refine ⟨u,?_,keep u,by rw [← Act.put_comm a v u h2];exact hk⟩
    unfold YAt at hyj ⊢
    rw [hwa,hex] at hyj
    exact hyj

/-- The operations that wait for operation i, it among them. -/
def waitM (i : Nat) : List Oper → Nat → Nat → Nat
  | [],_,m=>m
  | o :: l,k,m=>waitM i l (k + 1) (if k = i ∨ (o.after.any fun e=>Region.binds .any e && m.testBit e.on) = true then m ||| 2 ^ k else m)

/-- Whoever is listed, what it waits for is. -/
def Closed (ops : Array Oper) (listed : Array Bool) : Prop :=
  listed.size = ops.size ∧ ∀ j oj,ops[j]? = some oj → listed.getD j false = true → ∀ e ∈ oj.after,Region.binds .any e = true → listed.getD e.on false = true

theorem waitM_spec {i : Nat} {listed : Array Bool} (hc : Closed ops listed) (hun : listed.getD i false = false) :
    ∀ (l : List Oper) (k m : Nat),(∀ j,l[j]? = ops[k + j]?) →
      (∀ j,m.testBit j = true → listed.getD j false = false ∧ (j ≠ i → j ∉ Region.ready .any ops listed)) →
      ∀ j,(waitM i l k m).testBit j = true → listed.getD j false = false ∧ (j ≠ i → j ∉ Region.ready .any ops listed)
  | [],_,_,_,h=>h
  | o :: l,k,m,hl,h=>by
    unfold waitM
    refine waitM_spec hc hun l (k + 1) _ (fun j=>by have:=hl (j + 1);simpa [Nat.add_assoc,Nat.add_comm 1 j] using this) ?_
    intro j hj
    split at hj
    · rename_i hk
      rw [Nat.testBit_or,Bool.or_eq_true] at hj
      rcases hj with hj|hj
      · exact h j hj
      · have hjk : k = j:=by simpa [Nat.testBit_two_pow] using hj
        subst hjk
        rcases hk with rfl|hk
        · exact ⟨hun,fun hne=>absurd rfl hne⟩
        · obtain ⟨e,he,hb⟩:=Array.any_eq_true'.1 hk
          simp only [Bool.and_eq_true] at hb
          have ho : ops[k]? = some o:=by simpa using (hl 0).symm
          have hne:=(h e.on hb.2).1
          constructor
          · cases hlk : listed.getD k false with
            | false=>rfl
            | true=>have:=hc.2 k o ho hlk e he hb.1;rw [hne] at this;cases this
          · intro _ hr
            obtain ⟨_,o',ho',hall⟩:=mem_ready.1 hr
            obtain rfl : o = o':=Option.some.inj (ho.symm.trans ho')
            have:=hall e he hb.1
            rw [hne] at this;cases this
    · exact h j hj

theorem Closed.set {i : Nat} {listed : Array Bool} (hc : Closed ops listed) (hi : i ∈ Region.ready .any ops listed) : Closed ops (listed.setIfInBounds i true):=by
  obtain ⟨_,oi,hoi,hall⟩:=mem_ready.1 hi
  refine ⟨by simp [hc.1],fun j oj hj hl e he hb=>?_⟩
  by_cases hij : i = j
  · subst hij
    obtain rfl : oj = oi:=Option.some.inj (hj.symm.trans hoi)
    exact getD_set_true (hall e he hb)
  · rw [getD_set_ne false hij] at hl
    exact getD_set_true (hc.2 j oj hj hl e he hb)

/-- May operation i be taken first, whatever else stands ready before it? -/
def firstB (ops : Array Oper) (cl : Nat → Cls) (listed : Array Bool) (i : Nat) : Bool :=
  match ops[i]? with
  | none=>false
  | some oi=>let m:=waitM i ops.toList 0 0
    (List.range ops.size).all fun j=>j == i || listed.getD j true || m.testBit j || match ops[j]? with
      | some oj=>oi.apart ops oj && (cl i).meets (cl j)
      | none=>true

theorem ready_unlisted {i : Nat} {listed : Array Bool} (h : i ∈ Region.ready .any ops listed) : listed.getD i false = false:=by
  have:=(mem_ready.1 h).1
  rcases Nat.lt_or_ge i listed.size with h'|h'
  · simp [h'] at this ⊢;exact this
  · simp [Array.getElem?_eq_none h']

theorem eAny_first {i : Nat} {oi : Oper} {v : Value} (hi : ops[i]? = some oi) (hsel : Region.noSelect ops = true) (hQ : Keeps Q) :
    ∀ (fuel : Nat) (listed : Array Bool) (a : Act) (w : World),Closed ops listed →
      (∀ j oj,ops[j]? = some oj → j ≠ i → listed.getD j true = false → (waitM i ops.toList 0 0).testBit j = false → oi.apart ops oj = true ∧ (cl i).meets (cl j) = true) →
      i ∈ Region.ready .any ops listed → (cl i).acts = false → YAt P B ops (cl i) oi v a w →
      eAny P B ops Q cl fuel (listed.setIfInBounds i true) (a.put oi.dst v) w → eAny P B ops Q cl (fuel + 1) listed a w:=by
  intro fuel
  have now : ∀ (fuel : Nat) (listed : Array Bool) (a : Act) (w : World),(cl i).acts = false → YAt P B ops (cl i) oi v a w → eAny P B ops Q cl fuel (listed.setIfInBounds i true) (a.put oi.dst v) w →
      eOp P B ops Q (cl i) i (eAny P B ops Q cl fuel (listed.setIfInBounds i true)) a w:=by
    intro fuel listed a w hn hy H
    unfold eOp
    rw [hi]
    revert hn hy
    generalize cl i = c
    intro hn hy
    cases c <;> first|exact ⟨v,hy,H⟩|(simp [Cls.acts] at hn;done)
  induction fuel with
  | zero =>
    intro listed a w _ _ hr hn hy H
    refine ⟨fun h=>(by rw [h] at hr;cases hr),fun j hj=>?_⟩
    by_cases hji : j = i
    · subst hji;exact now 0 listed a w hn hy H
    · have:=ready_mono hj hji
      rw [H.1] at this
      cases this
  | succ fuel ih =>
    intro listed a w hc hfree hr hn hy H
    refine ⟨fun h=>(by rw [h] at hr;cases hr),fun j hj=>?_⟩
    by_cases hji : j = i
    · subst hji;exact now (fuel + 1) listed a w hn hy H
    · have h1:=H.2 j (ready_mono hj hji)
      obtain ⟨hjun,oj,hoj,_⟩:=mem_ready.1 hj
      have hnw : (waitM i ops.toList 0 0).testBit j = false:=by
        cases hb : (waitM i ops.toList 0 0).testBit j with
        | false=>rfl
        | true =>
          have:=waitM_spec hc (ready_unlisted hr) ops.toList 0 0 (by simp) (by simp) j hb
          exact absurd hj (this.2 hji)
      obtain ⟨hap,hm⟩:=hfree j oj hoj hji hjun hnw
      have h2:=eOp_put hi hoj hap hm hsel hQ hy h1
      have hfree' : ∀ k ok,ops[k]? = some ok → k ≠ i → (listed.setIfInBounds j true).getD k true = false → (waitM i ops.toList 0 0).testBit k = false →
          oi.apart ops ok = true ∧ (cl i).meets (cl k) = true:=fun k ok hk hki hun hno=>by
        refine hfree k ok hk hki ?_ hno
        by_cases hjk : j = k
        · subst hjk;exact hjun
        · rw [getD_set_ne true hjk] at hun;exact hun
      refine eOp_mono (fun a' w' h3=>ih (listed.setIfInBounds j true) a' w' (hc.set hj) hfree' (ready_mono hr (Ne.symm hji)) hn h3.1 ?_) h2
      rw [Array.setIfInBounds_comm _ _ hji]
      exact h3.2

/-- The walk: the operations in the order that is given. -/
def wpE (P : Program) (B : Option Nat) (ops : Array Oper) (Q : Exit → Act → World → Prop) : List (Nat × Cls) → Act → World → Prop
  | [],a,w=>Q .normal a w
  | (i,c) :: rest,a,w=>eOp P B ops Q c i (wpE P B ops Q rest) a w

def eagerB (ops : Array Oper) (cl : Nat → Cls) : List (Nat × Cls) → Array Bool → Bool
  | [],listed=>(Region.ready .any ops listed).isEmpty
  | (i,c) :: rest,listed =>
    decide (cl i = c) && (if c.acts then decide (Region.ready .any ops listed = [i]) else (Region.ready .any ops listed).contains i && firstB ops cl listed i) &&
    eagerB ops cl rest (listed.setIfInBounds i true)

theorem eAny_of_wpE (hsel : Region.noSelect ops = true) (hQ : Keeps Q) : ∀ (l : List (Nat × Cls)) (listed : Array Bool) (a : Act) (w : World),Closed ops listed →
    eagerB ops cl l listed = true → wpE P B ops Q l a w → eAny P B ops Q cl l.length listed a w
  | [],listed,a,w,_,hB,h=>⟨by simpa [eagerB] using hB,h⟩
  | (i,c) :: rest,listed,a,w,hc,hB,h=>by
    simp only [eagerB,Bool.and_eq_true,decide_eq_true_eq] at hB
    obtain ⟨⟨rfl,hfst⟩,hrest⟩:=hB
    by_cases hact : (cl i).acts = true
    · rw [if_pos hact] at hfst
      have hready : Region.ready .any ops listed = [i]:=by simpa using hfst
      refine ⟨fun h0=>(by rw [hready] at h0;cases h0),fun j hj=>?_⟩
      rw [hready] at hj
      obtain rfl : j = i:=by simpa using hj
      exact eOp_mono (fun a' w' h'=>eAny_of_wpE hsel hQ rest _ a' w' (hc.set (by rw [hready];simp)) hrest h') h
    · rw [if_neg hact] at hfst
      simp only [Bool.and_eq_true] at hfst
      have hr : i ∈ Region.ready .any ops listed:=by simpa using hfst.1
      have hna : (cl i).acts = false:=by simpa using hact
      cases hoi : ops[i]? with
      | none=>unfold wpE eOp at h;rw [hoi] at h;exact h.elim
      | some oi =>
        have hex : ∃ v,YAt P B ops (cl i) oi v a w ∧ wpE P B ops Q rest (a.put oi.dst v) w:=by
          unfold wpE eOp at h
          rw [hoi] at h
          revert h hna
          generalize cl i = c
          intro hna h
          cases c <;> first|exact h|(simp [Cls.acts] at hna;done)
        obtain ⟨v,hy,hk⟩:=hex
        refine eAny_first hoi hsel hQ rest.length listed a w hc ?_ hr hna hy (eAny_of_wpE hsel hQ rest _ _ w (hc.set hr) hrest hk)
        intro j oj hj hne hun hno
        have hfb:=hfst.2
        unfold firstB at hfb
        rw [hoi] at hfb
        have h1:=List.all_eq_true.1 hfb j (List.mem_range.2 (Array.getElem?_eq_some_iff.1 hj).1)
        rw [hj] at h1
        simp only [Bool.or_eq_true,beq_iff_eq,hne,false_or,hun,hno,Bool.false_eq_true,Bool.and_eq_true] at h1
        exact h1

/-- The class that the order gives an operation. -/
def clOf : List (Nat × Cls) → Nat → Cls
  | [],_=>.act
  | (j,c) :: rest,i=>if i = j then c else clOf rest i

/-- A REGION THAT DRAWS: one walk, in the order given. -/
theorem wp_region_eager {id : Nat} {a : Act} {w : World} (hm : P.follows .mixedOrders = true) (l : List (Nat × Cls))
    (hB : (Region.noSelect ops && eagerB ops (clOf l) l (Array.replicate ops.size false) && (l.length == ops.size)) = true) [hQ : Keeps Q]
    (h : wpE P none ops Q l a w.drew) : (Code.region id ops true).wp P Q a w:=by
  simp only [Bool.and_eq_true,beq_iff_eq] at hB
  obtain ⟨⟨hsel,hE⟩,hlen⟩:=hB
  refine wp_region_any hm (wpAny_of_eAny (B:=none) (cl:=clOf l) _ _ _ _ ?_)
  have hsz:=hlen
  rw [← hlen]
  refine eAny_of_wpE hsel hQ l _ a _ ⟨by simp [hsz],fun j oj _ hl=>?_⟩ (by rw [hsz];exact hE) h
  rcases Nat.lt_or_ge j l.length with h'|h'
  · simp [h'] at hl
  · simp [Nat.not_lt.2 h'] at hl
end
end Go
