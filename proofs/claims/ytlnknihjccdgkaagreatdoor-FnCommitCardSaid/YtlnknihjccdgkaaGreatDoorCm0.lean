/- A frame told by what is known of its slots; what changes fro -/
import Derived.Orders
import Derived.RegionTactic
import Derived.Below
import Derived.KernelRfl
import Derived.ProofKit
import Derived.Laws.Bits
import Derived.Laws.Rows
import Derived.Maps.OwnOps
import Derived.WalkSpells
import Derived.Laws.AppendOwn
import Derived.Laws.Tables
import Derived.Great.BuildSlice
import Derived.IntWalk
import Derived.Laws.Pointers
import Derived.Laws.Small
import Derived.WideLaws
import Derived.Laws.ResultCell
import Derived.Laws.OwnMore
import Derived.Laws.MakeOwn
import Derived.Laws.CopyRow
import Derived.Laws.BytesString
import Derived.Lib.ConvBytes
import Derived.Laws.Slices
import Derived.LoopN
namespace Go.Proofs.YtlnknihjccdgkaaGreatDoor.X
open Go.RowKit
set_option linter.unusedVariables false
set_option linter.unusedSimpArgs false
def okind:Obj→Nat
  | .cells _ t _=>t
  | .map _ _=>1000001
  | _=>1000002
structure Mv (σ:List Nat) (base:Nat) (w w1:World):Prop where
  os:w1.os=w.os
  tape:w1.tape=w.tape
  output:w1.output=w.output
  size:w.heap.size≤w1.heap.size
  keep: ∀b o,w.heap[b]? =some o→b<base∨σ.contains (okind o)=false→w1.heap[b]? =some o
theorem Mv.refl (σ:List Nat) (base:Nat) (w:World):Mv σ base w w:=⟨rfl,rfl,rfl,Nat.le_refl _,fun _ _ h _=>h⟩
theorem Mv.trans {σ:List Nat} {base:Nat} {a b c:World} (h:Mv σ base a b) (k:Mv σ base b c):Mv σ base a c:=
  ⟨k.os.trans h.os,k.tape.trans h.tape,k.output.trans h.output,Nat.le_trans h.size k.size,fun i o hi hc=>k.keep i o (h.keep i o hi hc) hc⟩
def subB (σ τ:List Nat):Bool:=σ.all (fun x=>τ.contains x)
theorem subB_not {σ τ:List Nat} (h:subB σ τ=true) {x:Nat} (hx:τ.contains x=false):σ.contains x=false:=by
  cases hc:σ.contains x with
  | false=>rfl
  | true=>
    have h1:=List.all_eq_true.1 h x (by simpa using hc);rw [hx] at h1;cases h1
theorem Mv.up {σ τ:List Nat} {base base1:Nat} {a b:World} (h:Mv σ base a b) (hs:subB σ τ=true) (hb:base1≤base):Mv τ base1 a b:=
  ⟨h.os,h.tape,h.output,h.size,fun i o hi hc=>h.keep i o hi (hc.elim (fun x=> .inl (Nat.lt_of_lt_of_le x hb)) (fun x=> .inr (subB_not hs x)))⟩
theorem Mv.step {σ τ:List Nat} {base base1:Nat} {a b c:World} (h:Mv τ base1 a b) (k:Mv σ base b c) (hs:subB σ τ=true) (hb:base1≤base):Mv τ base1 a c:=h.trans (k.up hs hb)
theorem Mv.step0 {τ:List Nat} {base1:Nat} {a b c:World} (h:Mv τ base1 a b) (k:Below b.heap.size b c):Mv τ base1 a c:=
  h.trans ⟨k.os,k.tape,k.output,k.size,fun i o hi _=>(k.block i (Array.getElem?_eq_some_iff.1 hi).1).trans hi⟩
theorem Mv.of_below {a b:World} (k:Below a.heap.size a b) (σ:List Nat) (base:Nat):Mv σ base a b:=(Mv.refl σ base a).step0 k
theorem Mv.below0 {base:Nat} {a b:World} (h:Mv [] base a b):Below a.heap.size a b:=
  ⟨h.os,h.tape,h.output,h.size,fun k hk=>by
    rw [Array.getElem?_eq_getElem hk];exact h.keep k _ (Array.getElem?_eq_getElem hk) (.inr rfl)⟩
theorem mv_drew (σ:List Nat) (base:Nat) (w:World):Mv σ base w w.drew:=⟨rfl,rfl,rfl,Nat.le_refl _,fun _ _ h _=>h⟩
theorem mv_alloc (σ:List Nat) (base:Nat) (w:World) (o:Obj):Mv σ base w (w.alloc o):=Mv.of_below ((Below.refl _ _).alloc (Nat.le_refl _) o) σ base
theorem heap_new (w:World) (o:Obj):(w.alloc o).heap[w.heap.size]? =some o:=by
  show (w.heap.push o)[w.heap.size]? =_;simp
theorem heap_lt {w:World} {g:Nat} {o:Obj} (h:w.heap[g]? =some o):g<w.heap.size:=(Array.getElem?_eq_some_iff.1 h).1
theorem Mv.blk {σ:List Nat} {base:Nat} {a b:World} (h:Mv σ base a b) {g t:Nat} {cs:Array Value} {fr:Nat×Nat} (hg:a.heap[g]? =some (.cells cs t fr)) (hc:σ.contains t=false):b.heap[g]? =some (.cells cs t fr):=h.keep g _ hg (.inr hc)
theorem Mv.blkLt {σ:List Nat} {base:Nat} {a b:World} (h:Mv σ base a b) {g:Nat} {o:Obj} (hg:a.heap[g]? =some o) (hc:g<base):b.heap[g]? =some o:=h.keep g _ hg (.inl hc)
theorem Mv.obj {σ:List Nat} {base:Nat} {a b:World} (h:Mv σ base a b) {g:Nat} {o:Obj} (hg:a.heap[g]? =some o) (hc:σ.contains (okind o)=false):b.heap[g]? =some o:=h.keep g _ hg (.inr hc)
theorem cell_of {w:World} {g t i:Nat} {cs:Array Value} {fr:Nat×Nat} {v:Value} (h:w.heap[g]? =some (.cells cs t fr)) (hi:cs[i]? =some v):w.cell? ⟨g,i,none⟩=some v:=by
  simp [World.cell?,h,hi]
theorem nbeq {a b:Nat} (h: ¬a=b):Nat.beq a b=false:=by
  cases hb:Nat.beq a b with
  | false=>rfl
  | true=>exact absurd (Nat.eq_of_beq_eq_true hb) h
def lk:List (Nat×Value)→Nat→Option Value
  | [],_=>none
  | (k,v)::r,i=>bif Nat.beq k i then some v else lk r i
def Env (T:Array Value) (n:Nat) (l:List (Nat×Value)):Prop:=T.size=n∧∀i v,lk l i=some v→T[i]? =some v
theorem Env.get {T:Array Value} {n:Nat} {l:List (Nat×Value)} (E:Env T n l) {i:Nat} {v:Value} (h:lk l i=some v):T[i]? =some v:=E.2 i v h
theorem Env.put {T:Array Value} {n:Nat} {l:List (Nat×Value)} (E:Env T n l) {d:Nat} (hd:Nat.blt d n=true) (v:Value):Env (T.setIfInBounds d v) n ((d,v)::l):=by
  have hd':d<n:=by simpa using hd
  refine ⟨by simp [E.1],fun i u h=> ?_⟩;by_cases e:d=i
  · subst e
    simp [lk] at h;simp [E.1,hd',h]
  · have e1:Nat.beq d i=false:=nbeq e
    rw [lk,e1] at h;rw [Array.getElem?_setIfInBounds_ne e];exact E.2 i u h
theorem Env.add {T:Array Value} {n:Nat} {l:List (Nat×Value)} (E:Env T n l) {d:Nat} {v:Value} (h:T[d]? =some v):Env T n ((d,v)::l):=by
  refine ⟨E.1,fun i u hi=> ?_⟩;by_cases e:d=i
  · subst e
    simp [lk] at hi;rw [← hi];exact h
  · have e1:Nat.beq d i=false:=nbeq e
    rw [lk,e1] at hi;exact E.2 i u hi
def Lks (l:List (Nat×Value)):List (Nat×Value)→Prop
  | []=>True
  | (k,v)::r=>lk l k=some v∧Lks l r
theorem Lks.spec {l:List (Nat×Value)}: ∀{r:List (Nat×Value)},Lks l r→∀i v,lk r i=some v→lk l i=some v
  | [],_,i,v,h=>by cases h
  | (k,u)::r,hl,i,v,h=>by
    by_cases e:k=i
    · subst e
      simp [lk] at h;rw [← h];exact hl.1
    · have e1:Nat.beq k i=false:=nbeq e
      rw [lk,e1] at h;exact Lks.spec hl.2 i v h
theorem Env.sub {T:Array Value} {n:Nat} {l r:List (Nat×Value)} (E:Env T n l) (h:Lks l r):Env T n r:=⟨E.1,fun i v hi=>E.2 i v (Lks.spec h i v hi)⟩
def lits:List Value→Nat→List (Nat×Value)
  | [],_=> []
  | v::r,k=>(k,v)::lits r (k+1)
theorem lk_lits: ∀(l:List Value) (k i:Nat) (v:Value),lk (lits l k) i=some v→k≤i∧l[i-k]? =some v
  | [],_,_,_,h=>by cases h
  | u::r,k,i,v,h=>by
    by_cases e:k=i
    · subst e
      simp [lits,lk] at h;simp [h]
    · have e1:Nat.beq k i=false:=nbeq e
      rw [lits,lk,e1] at h;obtain ⟨h1,h2⟩:=lk_lits r (k+1) i v h;refine ⟨by omega,?_⟩;rw [show i-k=(i-(k+1))+1 from by omega,List.getElem?_cons_succ];exact h2
theorem Env.start {n:Nat} {l:List Value} (h:Nat.ble l.length n=true):Env (l.toArray++Array.replicate (n-l.length) undef) n (lits l 0):=by
  have h':l.length≤n:=by simpa using h
  refine ⟨by simp;omega,fun i v hi=> ?_⟩;obtain ⟨_,h2⟩:=lk_lits l 0 i v hi;have hlt:i<l.length:=by
    have:=(List.getElem?_eq_some_iff.1 h2).1
    simpa using this
  rw [Array.getElem?_append_left (by simpa using hlt)]
  simpa using h2
def ev (l:List (Nat×Value)):Operand→Option Value
  | .tmp t=>lk l t
  | .const v=>some v
  | .global g=>some (.pointer (some ⟨g,0,none⟩))
  | .func f=>some (.func (.func f) #[] #[])
theorem Env.ev {T:Array Value} {n:Nat} {l:List (Nat×Value)} (E:Env T n l) {x:Operand} {v:Value} (h:ev l x=some v) (ds:List Deferred):(Act.mk T ds).eval x=v:=by
  cases x with
  | tmp t=>
    have:=E.get h;simp [Act.eval,this]
  | const u=>simpa [X.ev,Act.eval] using h
  | global g=>simpa [X.ev,Act.eval] using h
  | func f=>simpa [X.ev,Act.eval] using h
section
variable {P:Program} {ops:Array Oper} {Q:Exit→Act→World→Prop}
def Stp (P:Program) (ops:Array Oper) (Q:Exit→Act→World→Prop) (o:Oper) (a:Act) (w:World) (K:Act→World→Prop):Prop:=
  if Region.wanted o (yielded ops a.tmps) then o.wp P a w K Q∨(o.asks P a w∧LetsOut Q) else K (a.put o.dst undef) w
def Ru (P:Program) (ops:Array Oper) (Q:Exit→Act→World→Prop) (o:Oper) (a:Act) (w:World) (R:Value→World→Prop):Prop:=
  ∀K:Act→World→Prop,(∀v w1,R v w1→K (a.put o.dst v) w1)→Stp P ops Q o a w K
theorem Ru.mono {o:Oper} {a:Act} {w:World} {R R1:Value→World→Prop} (h:Ru P ops Q o a w R) (hr: ∀v w1,R v w1→R1 v w1):Ru P ops Q o a w R1:=
  fun K hK=>h K (fun v w1 hv=>hK v w1 (hr v w1 hv))
theorem Ru.list {o:Oper} {rest:List Oper} {a:Act} {w:World} {R:Value→World→Prop} (h:Ru P ops Q o a w R) (k: ∀v w1,R v w1→wpList P ops Q rest (a.put o.dst v) w1):wpList P ops Q (o::rest) a w:=h _ k
theorem Ru.op {i:Nat} {o:Oper} {a:Act} {w:World} {K:Act→World→Prop} {R:Value→World→Prop} (ho:ops[i]? =some o) (h:Ru P ops Q o a w R) (k: ∀v w1,R v w1→K (a.put o.dst v) w1):wpOp P ops Q i K a w:=by
  have:=h K k;unfold wpOp;rw [ho];exact this
theorem Ru.of {o:Oper} {a:Act} {w:World} {R:Value→World→Prop} (h: ∀K:Act→World→Prop,(∀v w1,R v w1→K (a.put o.dst v) w1)→if Region.wanted o (yielded ops a.tmps)=true then Oper.wp P o a w K Q else K (a.put o.dst undef) w):Ru P ops Q o a w R:=fun K hK=>by
  have:=h K hK;unfold Stp
  split
  · rename_i hw;rw [if_pos hw] at this;exact .inl this
  · rename_i hw;rw [if_neg hw] at this;exact this
def Dv (P:Program) (o:Oper) (a:Act) (w:World) (v:Value) (w1:World):Prop:=(execOp a.eval o).run P w= .ok (.value v) w1
def Dk (P:Program) (o:Oper) (a:Act) (w:World) (w1:World):Prop:=(execOp a.eval o).run P w= .ok .skip w1
theorem wanted_none {o:Oper} (h:o.guard=none) (y:Nat→Option Bool):Region.wanted o y=true:=by simp [Region.wanted,h]
theorem Ru.v {o:Oper} {a:Act} {w w1:World} {v:Value} {R:Value→World→Prop} (h:Dv P o a w v w1) (hg:o.guard=none) (hR:R v w1):Ru P ops Q o a w R:=Ru.of fun K hK=>by
  rw [if_pos (wanted_none hg _)];unfold Oper.wp;rw [show (execOp a.eval o).run P w=_ from h];exact hK v w1 hR
theorem Ru.k {o:Oper} {a:Act} {w w1:World} {R:Value→World→Prop} (h:Dk P o a w w1) (hg:o.guard=none) (hR:R undef w1):Ru P ops Q o a w R:=Ru.of fun K hK=>by
  rw [if_pos (wanted_none hg _)];unfold Oper.wp;rw [show (execOp a.eval o).run P w=_ from h];exact hK undef w1 hR
theorem seq_v {o:Oper} {rest:List Oper} {T:Array Value} {ds:List Deferred} {n d:Nat} {l:List (Nat×Value)} {w w1:World} {v:Value} (E:Env T n l) (h:Dv P o ⟨T,ds⟩ w v w1) (hg:o.guard=none) (hd:o.dst=some d) (hn:Nat.blt d n=true)
    (k: ∀T1,Env T1 n ((d,v)::l)→wpList P ops Q rest ⟨T1,ds⟩ w1):wpList P ops Q (o::rest) ⟨T,ds⟩ w:=by
  refine (Ru.v (R:=fun u w2=>u=v∧w2=w1) h hg ⟨rfl,rfl⟩).list ?_;rintro u w2 ⟨rfl,rfl⟩;rw [hd];exact k _ (E.put hn _)
theorem sv {o:Oper} {rest:List Oper} {T:Array Value} {ds:List Deferred} {n d:Nat} {l:List (Nat×Value)} {w w1:World} {v:Value} (E:Env T n l) (h:Dv P o ⟨T,ds⟩ w v w1) (k: ∀T1,Env T1 n ((d,v)::l)→wpList P ops Q rest ⟨T1,ds⟩ w1) (hg:o.guard=none:=by exact rfl) (hd:o.dst=some d:=by exact rfl) (hn:Nat.blt d n=true:=by exact rfl):wpList P ops Q (o::rest) ⟨T,ds⟩ w:=seq_v E h hg hd hn k
theorem seq_k {o:Oper} {rest:List Oper} {a:Act} {w w1:World} (h:Dk P o a w w1) (hg:o.guard=none) (hd:o.dst=none) (k:wpList P ops Q rest a w1):wpList P ops Q (o::rest) a w:=by
  refine (Ru.k (R:=fun _ w2=>w2=w1) h hg rfl).list ?_;rintro u w2 rfl;rw [hd];exact k
theorem seq_r {o:Oper} {rest:List Oper} {T:Array Value} {ds:List Deferred} {n d:Nat} {l:List (Nat×Value)} {w:World} {R:Value→World→Prop} (E:Env T n l) (h:Ru P ops Q o ⟨T,ds⟩ w R) (hd:o.dst=some d) (hn:Nat.blt d n=true)
    (k: ∀v w1,R v w1→∀T1,Env T1 n ((d,v)::l)→wpList P ops Q rest ⟨T1,ds⟩ w1):wpList P ops Q (o::rest) ⟨T,ds⟩ w:=by
  refine h.list (fun v w1 hv=> ?_);rw [hd];exact k v w1 hv _ (E.put hn _)
theorem sr {o:Oper} {rest:List Oper} {T:Array Value} {ds:List Deferred} {n d:Nat} {l:List (Nat×Value)} {w:World} {R:Value→World→Prop} (E:Env T n l) (h:Ru P ops Q o ⟨T,ds⟩ w R)
    (k: ∀v w1,R v w1→∀T1,Env T1 n ((d,v)::l)→wpList P ops Q rest ⟨T1,ds⟩ w1) (hd:o.dst=some d:=by exact rfl) (hn:Nat.blt d n=true:=by exact rfl):wpList P ops Q (o::rest) ⟨T,ds⟩ w:=seq_r E h hd hn k
theorem seq_off {o:Oper} {rest:List Oper} {T:Array Value} {ds:List Deferred} {n d j dj:Nat} {b:Bool} {l:List (Nat×Value)} {w:World} {oj:Oper} (E:Env T n l) (hg:o.guard=some (j,!b)) (hj:ops[j]? =some oj) (hdj:oj.dst=some dj) (hv:lk l dj=some (.bool b)) (hd:o.dst=some d) (hn:Nat.blt d n=true)
    (k: ∀T1,Env T1 n ((d,undef)::l)→wpList P ops Q rest ⟨T1,ds⟩ w):wpList P ops Q (o::rest) ⟨T,ds⟩ w:=by
  have hy:Region.wanted o (yielded ops T)=false:=by
    have h1:=E.get hv;simp [Region.wanted,hg,yielded,hj,hdj,h1]
  unfold wpList;rw [if_neg (by show ¬(Region.wanted o (yielded ops T)=true);rw [hy];simp),hd];exact k _ (E.put hn _)
theorem wanted_on {o oj:Oper} {T:Array Value} {n j dj:Nat} {b:Bool} {l:List (Nat×Value)} (E:Env T n l) (hg:o.guard=some (j,b)) (hj:ops[j]? =some oj) (hdj:oj.dst=some dj) (hv:lk l dj=some (.bool b)):Region.wanted o (yielded ops T)=true:=by
  have h1:=E.get hv;simp [Region.wanted,hg,yielded,hj,hdj,h1]
theorem seq_von {o oj:Oper} {rest:List Oper} {T:Array Value} {ds:List Deferred} {n d j dj:Nat} {b:Bool} {l:List (Nat×Value)} {w w1:World} {v:Value} (E:Env T n l) (h:Dv P o ⟨T,ds⟩ w v w1) (hg:o.guard=some (j,b)) (hj:ops[j]? =some oj) (hdj:oj.dst=some dj) (hv:lk l dj=some (.bool b)) (hd:o.dst=some d) (hn:Nat.blt d n=true)
    (k: ∀T1,Env T1 n ((d,v)::l)→wpList P ops Q rest ⟨T1,ds⟩ w1):wpList P ops Q (o::rest) ⟨T,ds⟩ w:=by
  unfold wpList;rw [if_pos (wanted_on (ops:=ops) E hg hj hdj hv)];refine .inl ?_;unfold Oper.wp;rw [show (execOp (Act.mk T ds).eval o).run P w=_ from h];show wpList P ops Q rest ((Act.mk T ds).put o.dst v) w1;rw [hd];exact k _ (E.put hn _)
end
section
variable {P:Program} {ops:Array Oper} {Q:Exit→Act→World→Prop}
def needs (o:Oper):List Nat:=(o.after.toList.filter (fun e=>Region.binds .any e)).map (·.on)
theorem mem_needs {o:Oper} {j:Nat}:j∈needs o↔∃e∈o.after,Region.binds .any e=true∧e.on=j:=by
  simp only [needs,List.mem_map,List.mem_filter,Array.mem_toList_iff];exact ⟨fun ⟨e,⟨h1,h2⟩,h3⟩=>⟨e,h1,h2,h3⟩,fun ⟨e,h1,h2,h3⟩=>⟨e,⟨h1,h2⟩,h3⟩⟩
def Left (ops:Array Oper) (R:Nat→Value→World→Prop) (j:Nat) (T:Array Value) (w:World):Prop:=
  match (ops[j]?).bind (·.dst) with
  | some d=> ∃v,T[d]? =some v∧R j v w
  | none=> ∃v,R j v w
def dstOf (ops:Array Oper) (n0:Nat):List (Option Nat):=(List.range n0).map fun j=>(ops[j]?).bind (·.dst)
def oldB (ops:Array Oper) (n0 i s:Nat):Bool:=(List.range n0).all fun j=>match ops[j]? with
  | some o=>o.dst !=some s || (needs o).contains i
  | none=>true
def ancs (ops:Array Oper):Nat→List (List Nat)
  | 0=> []
  | n+1=>ancs ops n++ [match ops[n]? with
    | some o=>(needs o++(needs o).flatMap (fun j=>(ancs ops n).getD j [])).eraseDups
    | none=> []]
theorem ancs_len: ∀n,(ancs ops n).length=n
  | 0=>rfl
  | n+1=>by rw [ancs,List.length_append,ancs_len];rfl
theorem anc_listed {l:Array Bool} (hcl: ∀j o,j<ops.size→l.getD j false=true→ops[j]? =some o→∀k∈needs o,l.getD k false=true) (hback: ∀i o,ops[i]? =some o→∀j∈needs o,j<i):
    ∀n i o,i<n→ops[i]? =some o→(∀k∈needs o,l.getD k false=true)→∀j∈(ancs ops n).getD i [],l.getD j false=true
  | 0,i,o,h,_,_,_,_=>by omega
  | n+1,i,o,hi,ho,hn,j,hj=>by
    rw [ancs] at hj;by_cases e:i=n
    · subst e
      rw [List.getD_eq_getElem?_getD,List.getElem?_append_right (by rw [ancs_len];exact Nat.le_refl _),ancs_len,Nat.sub_self] at hj;simp only [List.getElem?_cons_zero,Option.getD_some,ho] at hj;rw [List.mem_eraseDups,List.mem_append] at hj;rcases hj with hj | hj
      · exact hn j hj
      · obtain ⟨k,hk,hjk⟩:=List.mem_flatMap.1 hj
        have hlt:=hback i o ho k hk;cases hok:ops[k]? with
        | none=>
          exfalso;have h1:=(Array.getElem?_eq_some_iff.1 ho).1;rw [Array.getElem?_eq_getElem (by omega)] at hok;cases hok
        | some ok=>
          exact anc_listed hcl hback i k ok hlt hok (hcl k ok (Array.getElem?_eq_some_iff.1 hok).1 (hn k hk) hok) j hjk
    · rw [List.getD_eq_getElem?_getD,List.getElem?_append_left (by rw [ancs_len];omega),← List.getD_eq_getElem?_getD] at hj
      exact anc_listed hcl hback n i o (by omega) ho hn j hj
def formB (ops:Array Oper) (n0 n:Nat):Bool:=
  Nat.ble n0 ops.size && (List.range ops.size).all (fun i=>match ops[i]? with
    | some o=>(needs o).all (fun j=>Nat.blt j i) && (if i<n0 then (match o.dst with
        | some d=>Nat.blt d n && (List.range n0).all (fun j=>j==i || (ops[j]?).bind (·.dst) !=some d)
        | none=>true) else (List.range i).all (fun j=>((ancs ops ops.size).getD i []).contains j))
    | none=>false)
structure FormP (ops:Array Oper) (n0 n:Nat):Prop where
  le:n0≤ops.size
  back: ∀i o,ops[i]? =some o→∀j∈needs o,j<i
  one: ∀i o d,i<n0→ops[i]? =some o→o.dst=some d→d<n∧∀j oj,j<n0→ops[j]? =some oj→oj.dst=some d→j=i
  tail: ∀i o,n0≤i→ops[i]? =some o→∀j,j<i→j∈(ancs ops ops.size).getD i []
theorem formB_spec {n0 n:Nat} (h:formB ops n0 n=true):FormP ops n0 n:=by
  simp only [formB,Bool.and_eq_true,List.all_eq_true,List.mem_range] at h;obtain ⟨h0,h1⟩:=h;have hx: ∀i o,ops[i]? =some o→_:=fun i o ho=>by
    have:=h1 i (Array.getElem?_eq_some_iff.1 ho).1;rw [ho] at this
    simpa only [Bool.and_eq_true] using this
  refine ⟨by simpa using h0,?_,?_,?_⟩
  · intro i o ho j hj
    have:=(hx i o ho).1;rw [List.all_eq_true] at this
    simpa using this j hj
  · intro i o d hi ho hd
    have:=(hx i o ho).2;rw [if_pos hi,hd] at this;simp only [Bool.and_eq_true,List.all_eq_true,List.mem_range] at this;refine ⟨by simpa using this.1,fun j oj hj hoj hdj=> ?_⟩;have:=this.2 j hj;simp only [hoj,Option.bind_some,hdj,Bool.or_eq_true,beq_iff_eq,bne_self_eq_false,Bool.false_eq_true,or_false] at this;exact this
  · intro i o hi ho j hj
    have:=(hx i o ho).2;rw [if_neg (by omega),List.all_eq_true] at this;have h2:=this j (List.mem_range.2 hj);exact List.contains_iff_mem.1 h2
theorem tail_list {n0 n:Nat} {ds:List Deferred} (F:FormP ops n0 n): ∀(fuel k:Nat) (l:Array Bool) (a:Act) (w:World),n0≤k→k≤ops.size→ops.size-k≤fuel→l.size=ops.size→
    (∀j,j<k→l.getD j false=true)→(∀j,k≤j→j<ops.size→l.getD j true=false)→wpList P ops Q (ops.toList.drop k) a w→wpAny P .any ops Q fuel l a w:=by
  intro fuel
  induction fuel with
  | zero=>
    intro k l a w h0 hk hf hs hl hu h;obtain rfl:k=ops.size:=by omega
    rw [List.drop_of_length_le (by simp)] at h;refine ⟨?_,h⟩;apply List.eq_nil_iff_forall_not_mem.2;intro j hj;obtain ⟨h1,o,ho,_⟩:=mem_ready.1 hj;have hlt:=(Array.getElem?_eq_some_iff.1 ho).1;have:=hl j hlt;simp [hs▸hlt] at h1 this;rw [h1] at this;cases this
  | succ fuel ih=>
    intro k l a w h0 hk hf hs hl hu h;refine ⟨fun hr=> ?_,fun i hi=> ?_⟩
    · by_cases hlt:k<ops.size
      · exfalso
        have hm:k∈Region.ready .any ops l:=by
          refine mem_ready.2 ⟨hu k (Nat.le_refl _) hlt,ops[k],Array.getElem?_eq_getElem hlt,fun e he hb=>hl _ ?_⟩;exact F.back k _ (Array.getElem?_eq_getElem hlt) _ (mem_needs.2 ⟨e,he,hb,rfl⟩)
        rw [hr] at hm;cases hm
      · rw [List.drop_of_length_le (by simp;omega)] at h
        exact h
    · obtain ⟨h1,o,ho,hall⟩:=mem_ready.1 hi
      have hlt:=(Array.getElem?_eq_some_iff.1 ho).1;have hki:k≤i:=by
        rcases Nat.lt_or_ge i k with hx | hx
        · have:=hl i hx
          simp [hs▸hlt] at h1 this;rw [h1] at this;cases this
        · exact hx
      have hik:i≤k:=by
        obtain ⟨k',hk'⟩: ∃k',k'=k:=⟨k,rfl⟩;rw [← hk'] at hl hu hki hk h0 ⊢;rcases Nat.lt_or_ge k' i with hx | hx
        · have hn: ∀k∈needs o,l.getD k false=true:=fun k hk=>by
            obtain ⟨e,he,hb,rfl⟩:=mem_needs.1 hk;exact hall e he hb
          have h2:=anc_listed (l:=l) (fun j oj hj hlj hoj k hk=>by
            have hjk:j<k':=by
              rcases Nat.lt_or_ge j k' with h | h
              · exact h
              · have h4:=hu j h hj
                simp [hs▸hj] at h4 hlj;rw [hlj] at h4;cases h4
            have:=F.back j oj hoj k hk;exact hl k (by omega)) F.back ops.size i o hlt ho hn k' (F.tail i o (by omega) ho k' hx)
          have h3:=hu k' (Nat.le_refl _) (by omega);simp [show k'<l.size from by omega] at h2 h3;rw [h2] at h3;cases h3
        · exact hx
      obtain rfl:i=k:=by omega
      have hdr:ops.toList.drop i=o::ops.toList.drop (i+1):=by
        rw [List.drop_eq_getElem_cons (by simpa using hlt)]
        congr 1
        rw [Array.getElem?_eq_getElem hlt] at ho
        simpa using ho
      rw [hdr] at h;have h':Stp P ops Q o a w (wpList P ops Q (ops.toList.drop (i+1))):=h;unfold wpOp;rw [ho];unfold Stp at h';have hnext: ∀a' w',wpList P ops Q (ops.toList.drop (i+1)) a' w'→wpAny P .any ops Q fuel (l.setIfInBounds i true) a' w':=fun a' w' hh=>by
        refine ih (i+1) _ a' w' (by omega) (by omega) (by omega) (by simpa using hs) ?_ ?_ hh
        · intro j hj
          by_cases e:i=j
          · subst e;simp [hs▸hlt]
          · rw [getD_set_ne false e];exact hl j (by omega)
        · intro j h3 h4
          rw [getD_set_ne true (by omega)];exact hu j (by omega) h4
      show if Region.wanted o (yielded ops a.tmps)=true then _ else _
      split
      · rename_i hw
        rw [if_pos hw] at h';exact h'.imp (Oper.wp_mono hnext) id
      · rename_i hw
        rw [if_neg hw] at h';exact hnext _ _ h'
theorem rg_any {n0 n:Nat} {T0:Array Value} {ds:List Deferred} {R:Nat→Value→World→Prop} {M:Nat→Array Value→World→Value→World→Prop} {H:Array Bool→World→Prop} {X:Array Bool→Array Value→World→Prop} (F:FormP ops n0 n) (hn:T0.size=n) (hM: ∀i l T w v w1,i<n0→i<l.size→l.getD i false=false→H l w→M i T w v w1→H (l.setIfInBounds i true) w1)
    (hX: ∀i o l T w v w1,i<n0→ops[i]? =some o→i<l.size→l.getD i false=false→(∀k∈needs o,l.getD k false=true)→T.size=n→X l T w→M i T w v w1→X (l.setIfInBounds i true) (match o.dst with | some d=>T.setIfInBounds d v | none=>T) w1)
    (hst: ∀i j T v w u w1,i<n0→j<n0→i≠j→R j v w→M i T w u w1→R j v w1)
    (step: ∀i o,i<n0→ops[i]? =some o→∀l T w,l.getD i false=false→H l w→T.size=n→(∀s,oldB ops n0 i s=true→T[s]? =T0[s]?)→(∀j∈needs o,Left ops R j T w)→Ru P ops Q o ⟨T,ds⟩ w (fun v w1=>M i T w v w1∧R i v w1))
    (fin: ∀l T w,H l w→(∀j,j<n0→l.getD j false=true)→X l T w→T.size=n→(∀s,(∀j o,j<n0→ops[j]? =some o→o.dst≠some s)→T[s]? =T0[s]?)→(∀j,j<n0→Left ops R j T w)→wpList P ops Q (ops.toList.drop n0) ⟨T,ds⟩ w):
    ∀(fuel:Nat) (l:Array Bool) (T:Array Value) (w:World),l.size=ops.size→(List.range ops.size).countP (fun j=>l.getD j true==false)≤fuel→H l w→X l T w→T.size=n→
      (∀j o,j<ops.size→l.getD j false=true→ops[j]? =some o→∀k∈needs o,l.getD k false=true)→(∀j,n0≤j→j<ops.size→l.getD j true=false)→
      (∀s,(∀j o,j<n0→ops[j]? =some o→l.getD j false=true→o.dst≠some s)→T[s]? =T0[s]?)→(∀j,j<n0→l.getD j false=true→Left ops R j T w)→wpAny P .any ops Q fuel l ⟨T,ds⟩ w:=by
  intro fuel
  induction fuel with
  | zero=>
    intro l T w hs hc hm hXl hT hcl htl hold hleft;have hall: ∀j,j<ops.size→l.getD j true=true:=fun j hj=>by
      have h1:(List.range ops.size).countP (fun j=>l.getD j true==false)=0:=by omega
      have h2:=List.countP_eq_zero.1 h1 j (List.mem_range.2 hj)
      simpa using h2
    have h0:n0=ops.size:=by
      have:=F.le;rcases Nat.lt_or_ge n0 ops.size with hx | hx
      · have h1:=htl n0 (Nat.le_refl _) hx
        rw [hall n0 hx] at h1;cases h1
      · omega
    refine tail_list F 0 n0 l ⟨T,ds⟩ w (Nat.le_refl _) F.le (by omega) hs ?_ htl (fin l T w hm (fun j hj=>by
      have:=hall j (by omega);simp [show j<l.size from by omega] at this ⊢;exact this) hXl hT ?_ ?_) (ds:=ds)
    · intro j hj
      have:=hall j (by omega);simp [show j<l.size from by omega] at this ⊢;exact this
    · intro s h;exact hold s (fun j o hj ho _=>h j o hj ho)
    · intro j hj
      refine hleft j hj ?_;have:=hall j (by omega);simp [show j<l.size from by omega] at this ⊢;exact this
  | succ fuel ih=>
    intro l T w hs hc hm hXl hT hcl htl hold hleft;by_cases hpre: ∀j,j<n0→l.getD j false=true
    · have hcnt:ops.size-n0≤fuel+1:=by
        refine Nat.le_trans ?_ hc;have hle:=F.le;have:(List.range ops.size).countP (fun j=>l.getD j true==false)=ops.size-n0:=by
          rw [show ops.size=n0+(ops.size-n0) from by omega,List.range_add,List.countP_append];have h1:(List.range n0).countP (fun j=>l.getD j true==false)=0:=by
            rw [List.countP_eq_zero];intro j hj;have hj':=List.mem_range.1 hj;have:=hpre j hj';simp [show j<l.size from by omega] at this ⊢;exact this
          have h2:(List.map (fun x=>n0+x) (List.range (ops.size-n0))).countP (fun j=>l.getD j true==false)=ops.size-n0:=by
            rw [List.countP_map,List.countP_eq_length.2]
            · simp
            · intro j hj
              have hj':=List.mem_range.1 hj;have:=htl (n0+j) (by omega) (by omega)
              simpa using this
          omega
        omega
      exact tail_list F (fuel+1) n0 l ⟨T,ds⟩ w (Nat.le_refl _) F.le hcnt hs hpre htl (fin l T w hm hpre hXl hT (fun s h=>hold s (fun j o hj ho _=>h j o hj ho)) (fun j hj=>hleft j hj (hpre j hj))) (ds:=ds)
    · refine ⟨fun hr=> ?_,fun i hi=> ?_⟩
      · exfalso
        obtain ⟨j,hj,hmin⟩: ∃j,(j<n0∧l.getD j false=false)∧∀k,k<j→l.getD k false=true:=by
          have hex: ∃j,j<n0∧l.getD j false=false:=by
            false_or_by_contra;rename_i hno;refine hpre (fun j hj=> ?_);cases hb:l.getD j false with
            | true=>rfl
            | false=>exact absurd ⟨j,hj,hb⟩ hno
          have key: ∀m,(∃j,j<m∧j<n0∧l.getD j false=false)→∃j,(j<n0∧l.getD j false=false)∧∀k,k<j→l.getD k false=true:=by
            intro m
            induction m with
            | zero=>rintro ⟨j,hj,_⟩;omega
            | succ m ihm=>
              rintro ⟨j,hj,h1,h2⟩;by_cases hsm: ∃j,j<m∧j<n0∧l.getD j false=false
              · exact ihm hsm
              · refine ⟨j,⟨h1,h2⟩,fun k hk=> ?_⟩
                cases hb:l.getD k false with
                | true=>rfl
                | false=>exact absurd ⟨k,by omega,by omega,hb⟩ hsm
          obtain ⟨j,h1,h2⟩:=hex;exact key n0 ⟨j,h1,h1,h2⟩
        have hle:=F.le;have hlt:j<ops.size:=by omega
        have hm:j∈Region.ready .any ops l:=by
          refine mem_ready.2 ⟨?_,ops[j],Array.getElem?_eq_getElem hlt,fun e he hb=>hmin _ (F.back j _ (Array.getElem?_eq_getElem hlt) _ (mem_needs.2 ⟨e,he,hb,rfl⟩))⟩;have:=hj.2;simp [show j<l.size from by omega] at this ⊢;exact this
        rw [hr] at hm;cases hm
      · obtain ⟨h1,o,ho,hall⟩:=mem_ready.1 hi
        have hlt:=(Array.getElem?_eq_some_iff.1 ho).1;have hneeds: ∀k∈needs o,l.getD k false=true:=fun k hk=>by
          obtain ⟨e,he,hb,rfl⟩:=mem_needs.1 hk;exact hall e he hb
        have hin:i<n0:=by
          rcases Nat.lt_or_ge i n0 with hx | hx
          · exact hx
          · exact absurd (fun j hj=>anc_listed (l:=l) hcl F.back ops.size i o hlt ho hneeds j (F.tail i o hx ho j (by omega))) hpre
        have hun:l.getD i false=false:=by
          simp [show i<l.size from by omega] at h1 ⊢;exact h1
        refine Ru.op ho (step i o hin ho l T w hun hm hT ?_ ?_) ?_
        · intro s hsb
          refine hold s (fun j oj hj hoj hlj hd=> ?_);have h2:=List.all_eq_true.1 hsb j (List.mem_range.2 hj);rw [hoj] at h2;simp only [hd,bne_self_eq_false,Bool.false_or] at h2;have h3:=hcl j oj (Array.getElem?_eq_some_iff.1 hoj).1 hlj hoj i (by simpa using h2);rw [hun] at h3;cases h3
        · intro j hj
          have:=F.back i o ho j hj;exact hleft j (by omega) (hneeds j hj)
        · rintro v w1 ⟨hmv,hR⟩
          have hTs:((Act.mk T ds).put o.dst v)=⟨(match o.dst with | some d=>T.setIfInBounds d v | none=>T),ds⟩:=by cases o.dst <;> rfl
          rw [hTs];refine ih _ _ w1 (by simpa using hs) ?_ (hM i l T _ v _ hin (by omega) hun hm hmv) (hX i o l T w v w1 hin ho (by omega) hun hneeds hT hXl hmv) (by cases o.dst <;> simp [hT]) ?_ ?_ ?_ ?_
          · have hlt2:(List.range ops.size).countP (fun j=>(l.setIfInBounds i true).getD j true==false)<(List.range ops.size).countP (fun j=>l.getD j true==false):=by
              have hsplit: ∀m,(List.range m).countP (fun j=>(l.setIfInBounds i true).getD j true==false)+(if i<m then 1 else 0)=(List.range m).countP (fun j=>l.getD j true==false):=by
                intro m
                induction m with
                | zero=>simp
                | succ m ihm=>
                  rw [List.range_succ,List.countP_append,List.countP_append];simp only [List.countP_singleton];by_cases e:i=m
                  · subst e
                    have e1:(l.setIfInBounds i true).getD i true=true:=by
                      simp [show i<l.size from by omega]
                    rw [e1,h1];simp at ihm ⊢;omega
                  · rw [getD_set_ne true e]
                    by_cases e2:i<m
                    · rw [if_pos e2] at ihm
                      rw [show (if i<m+1 then 1 else 0)=1 from if_pos (by omega)];omega
                    · rw [if_neg e2] at ihm
                      rw [show (if i<m+1 then 1 else 0)=0 from if_neg (by omega)];omega
              have:=hsplit ops.size;rw [if_pos hlt] at this;omega
            omega
          · intro j oj hj hlj hoj k hk
            by_cases e:i=j
            · subst e
              have:oj=o:=Option.some.inj (hoj.symm.trans ho);subst this;exact getD_set_true (hneeds k hk)
            · rw [getD_set_ne false e] at hlj
              exact getD_set_true (hcl j oj hj hlj hoj k hk)
          · intro j h2 h3
            rw [getD_set_ne true (by omega)];exact htl j h2 h3
          · intro s hsx
            have hne:o.dst≠some s:=hsx i o hin ho (by simp [show i<l.size from by omega]);have hT':(match o.dst with | some d=>T.setIfInBounds d v | none=>T)[s]? =T[s]? :=by
              cases hd:o.dst with
              | none=>rfl
              | some d=>
                simp only;rw [Array.getElem?_setIfInBounds_ne];rintro rfl;exact hne hd
            rw [hT'];refine hold s (fun j oj hj hoj hlj=>hsx j oj hj hoj ?_);exact getD_set_true hlj
          · intro j hj hlj
            by_cases e:i=j
            · subst e
              unfold Left;rw [ho];simp only [Option.bind_some];cases hd:o.dst with
              | none=>
                exact ⟨v,hR⟩
              | some d=>
                simp only;have hdn:=(F.one i o d hin ho hd).1;exact ⟨v,by simp [hT,hdn],hR⟩
            · rw [getD_set_ne false e] at hlj
              have hl2:=hleft j hj hlj;unfold Left at hl2 ⊢;cases hoj:ops[j]? with
              | none=>
                rw [hoj] at hl2;simp only [Option.bind_none] at hl2 ⊢;exact hl2.imp fun u hu=>hst i j _ _ _ v _ hin hj e hu hmv
              | some oj=>
                rw [hoj] at hl2;simp only [Option.bind_some] at hl2 ⊢;cases hdj:oj.dst with
                | none=>
                  rw [hdj] at hl2;exact hl2.imp fun u hu=>hst i j _ _ _ v _ hin hj e hu hmv
                | some d=>
                  rw [hdj] at hl2;obtain ⟨u,hu,hRu⟩:=hl2;refine ⟨u,?_,hst i j _ _ _ v _ hin hj e hRu hmv⟩;cases hdi:o.dst with
                  | none=>exact hu
                  | some d2=>
                    simp only;rw [Array.getElem?_setIfInBounds_ne]
                    · exact hu
                    · rintro rfl
                      exact e ((F.one j oj d2 hj hoj hdj).2 i o hin ho hdi)
def AllI (f:Nat→Prop) (k m:Nat):Prop:=∀i,k≤i→i<k+m→f i
theorem AllI.nil {f:Nat→Prop} {k:Nat}:AllI f k 0:=fun i h1 h2=>by omega
theorem AllI.cons {f:Nat→Prop} {k m:Nat} (h:f k) (h':AllI f (k+1) m):AllI f k (m+1):=fun i h1 h2=>by
  by_cases e:i=k
  · subst e;exact h
  · exact h' i (by omega) (by omega)
theorem AllI.get {f:Nat→Prop} {m k i:Nat} (h:AllI f k m) (h1:k≤i) (h2:i<k+m):f i:=h i h1 h2
def opAt (ops:Array Oper) (i:Nat):Oper:=ops.getD i default
def Rn (Rs:List (Value→World→Prop)) (i:Nat):Value→World→Prop:=Rs.getD i (fun _ _=>True)
theorem dstOf_not {n0 s:Nat} (h: ∀j o,j<n0→ops[j]? =some o→o.dst≠some s):(dstOf ops n0).contains (some s)=false:=by
  cases hc:(dstOf ops n0).contains (some s) with
  | false=>rfl
  | true=>
    exfalso;have h1:some s∈dstOf ops n0:=by simpa using hc
    simp only [dstOf,List.mem_map,List.mem_range] at h1;obtain ⟨j,hj,hd⟩:=h1;cases ho:ops[j]? with
    | none=>rw [ho] at hd;cases hd
    | some o=>
      rw [ho] at hd;exact h j o hj ho hd
theorem rg {id:Nat} {lops:List Oper} {T0:Array Value} {n:Nat} {l0:List (Nat×Value)} {ds:List Deferred} {w0:World} (n0:Nat) (σ:List Nat) (base:Nat) (Rs:List (Value→World→Prop)) (E0:Env T0 n l0) (hm:P.follows .mixedOrders=true) (hF:formB lops.toArray n0 n=true)
    (hst:AllI (fun i=> ∀v w w1,Rn Rs i v w→Mv σ base w w1→Rn Rs i v w1) 0 n0)
    (step:AllI (fun i=> ∀T w,Mv σ base w0.drew w→T.size=n→(∀s,oldB lops.toArray n0 i s=true→T[s]? =T0[s]?)→(∀j,(needs (opAt lops.toArray i)).contains j=true→Left lops.toArray (Rn Rs) j T w)→Ru P lops.toArray Q (opAt lops.toArray i) ⟨T,ds⟩ w (fun v w1=>Mv σ base w w1∧Rn Rs i v w1)) 0 n0)
    (fin: ∀T w,Mv σ base w0.drew w→T.size=n→(∀s,(dstOf lops.toArray n0).contains (some s)=false→T[s]? =T0[s]?)→(∀j,Nat.blt j n0=true→Left lops.toArray (Rn Rs) j T w)→wpList P lops.toArray Q (lops.drop n0) ⟨T,ds⟩ w):
    (Code.region id lops.toArray true).wp P Q ⟨T0,ds⟩ w0:=by
  have F:=formB_spec hF;refine wp_region_any hm ?_;refine rg_any (R:=Rn Rs) (M:=fun _ _ w _ w1=>Mv σ base w w1) (H:=fun _ w=>Mv σ base w0.drew w) (X:=fun _ _ _=>True) F E0.1 (fun _ _ _ _ _ _ _ _ _ h k=>h.trans k) (fun _ _ _ _ _ _ _ _ _ _ _ _ _ _ _=>trivial) (fun i j _ v w _ w1 _ hj _=>hst.get (Nat.zero_le _) (by omega) v w w1) ?_ ?_ lops.toArray.size _ T0 _ (by simp) ?_ (Mv.refl _ _ _) trivial E0.1 ?_ ?_ ?_ ?_
  · intro i o hi ho l T w hun hmv hT hold hN
    have hoe:opAt lops.toArray i=o:=by
      have:=(Array.getElem?_eq_some_iff.1 ho);unfold opAt;rw [Array.getD_eq_getD_getElem?,ho];rfl
    have h1:=step.get (Nat.zero_le _) (by omega:i<0+n0) T w hmv hT hold;rw [hoe] at h1;exact h1 (fun j hj=>hN j (by simpa using hj))
  · intro l T w hmv _ _ hT hold hl
    have:=fin T w hmv hT (fun s hs=>hold s (fun j o hj ho hd=> ?_)) (fun j hj=>hl j (by simpa using hj))
    · simpa using this
    · have h1:some s∈dstOf lops.toArray n0:=by
        simp only [dstOf,List.mem_map,List.mem_range];exact ⟨j,hj,by rw [ho];exact hd⟩
      have h2:(dstOf lops.toArray n0).contains (some s)=true:=by simpa using h1
      rw [hs] at h2;cases h2
  · exact Nat.le_trans List.countP_le_length (by simp)
  · intro j o hj hl
    simp at hl;have:(Array.replicate lops.toArray.size false).getD j false=false:=by
      simp [Array.getD_eq_getD_getElem?];cases h:(Array.replicate lops.length false)[j]? with
      | none=>rfl
      | some b=>simp [Array.getElem?_replicate] at h;simp [h]
    simp_all
  · intro j h1 h2
    simp at h2;simp [h2]
  · intro s _;rfl
  · intro j hj hl
    have:(Array.replicate lops.toArray.size false).getD j false=false:=by
      simp [Array.getD_eq_getD_getElem?];cases h:(Array.replicate lops.length false)[j]? with
      | none=>rfl
      | some b=>simp [Array.getElem?_replicate] at h;simp [h]
    rw [this] at hl;cases hl
theorem pair_step {n0 n i1 i2 d1 d2:Nat} {G:Nat→Value} (hG: ∀a b,G a=G b→a=b) (F:FormP ops n0 n) (hd1:Nat.blt i1 n0=true∧(ops[i1]?).bind (·.dst)=some d1) (hd2:Nat.blt i2 n0=true∧(ops[i2]?).bind (·.dst)=some d2) (h12:Nat.beq i1 i2=false):
    ∀i o (l:Array Bool) (T:Array Value) (w:World) v (w1:World),i<n0→ops[i]? =some o→i<l.size→l.getD i false=false→T.size=n→
      ((l.getD i1 false=true→∃g,T[d1]? =some (G g)∧g<w.heap.size)∧(l.getD i2 false=true→∃g,T[d2]? =some (G g)∧g<w.heap.size)∧(l.getD i1 false=true→l.getD i2 false=true→T[d1]? ≠T[d2]?))→
      (w.heap.size≤w1.heap.size∧(bif Nat.beq i i1 || Nat.beq i i2 then ∃g,v=G g∧w.heap.size≤g∧g<w1.heap.size else True))→
      (((l.setIfInBounds i true).getD i1 false=true→∃g,(match o.dst with | some d=>T.setIfInBounds d v | none=>T)[d1]? =some (G g)∧g<w1.heap.size)∧((l.setIfInBounds i true).getD i2 false=true→∃g,(match o.dst with | some d=>T.setIfInBounds d v | none=>T)[d2]? =some (G g)∧g<w1.heap.size)∧((l.setIfInBounds i true).getD i1 false=true→(l.setIfInBounds i true).getD i2 false=true→(match o.dst with | some d=>T.setIfInBounds d v | none=>T)[d1]? ≠(match o.dst with | some d=>T.setIfInBounds d v | none=>T)[d2]?)):=by
  intro i o l T w v w1 hi ho hl hun hT hX hm;have hne:i1≠i2:=fun e=>by subst e;simp at h12
  obtain ⟨hb1,hd1⟩:=hd1;obtain ⟨hb2,hd2⟩:=hd2;have hb1':i1<n0:=by simpa using hb1
  have hb2':i2<n0:=by simpa using hb2
  have get: ∀k d,k<n0→(ops[k]?).bind (·.dst)=some d→d<n∧(i≠k→(match o.dst with | some d=>T.setIfInBounds d v | none=>T)[d]? =T[d]?)∧(i=k→(match o.dst with | some d=>T.setIfInBounds d v | none=>T)[d]? =some v):=by
    intro k d hk hd;cases hok:ops[k]? with
    | none=>rw [hok] at hd;cases hd
    | some ok=>
      rw [hok] at hd;have h1:=F.one k ok d hk hok hd;refine ⟨h1.1,fun hik=> ?_,fun hik=> ?_⟩
      · cases hod:o.dst with
        | none=>rfl
        | some d2=>
          simp only;rw [Array.getElem?_setIfInBounds_ne];rintro rfl;exact hik (h1.2 i o hi ho hod)
      · subst hik
        have:ok=o:=Option.some.inj (hok.symm.trans ho);subst this;rw [show ok.dst=some d from hd];simp [hT,h1.1]
  have g1:=get i1 d1 hb1' hd1;have g2:=get i2 d2 hb2' hd2;have sz:=hm.1;have ex: ∀k,i=k→(k=i1∨k=i2)→∃g,v=G g∧w.heap.size≤g∧g<w1.heap.size:=by
    intro k hk hk2;have h:=hm.2;have:(Nat.beq i i1 || Nat.beq i i2)=true:=by
      subst hk;rcases hk2 with rfl | rfl <;> simp
    rw [this] at h;exact h
  by_cases e1:i=i1
  · have e2:i≠i2:=fun e=>hne (e1.symm.trans e)
    obtain ⟨g,hv,h1,h2⟩:=ex i1 e1 (.inl rfl);rw [g1.2.2 e1,g2.2.1 e2,getD_set_ne false e2];refine ⟨fun _=>⟨g,by rw [hv],h2⟩,fun h=> ?_,fun _ h=> ?_⟩
    · obtain ⟨q,hq,hlt⟩:=hX.2.1 h
      exact ⟨q,hq,by omega⟩
    · obtain ⟨q,hq,hlt⟩:=hX.2.1 h
      rw [hq,hv];intro h3;have h3:=hG _ _ (Option.some.inj h3);omega
  · by_cases e2:i=i2
    · obtain ⟨g,hv,h1,h2⟩:=ex i2 e2 (.inr rfl)
      rw [g2.2.2 e2,g1.2.1 e1,getD_set_ne false e1];refine ⟨fun h=> ?_,fun _=>⟨g,by rw [hv],h2⟩,fun h _=> ?_⟩
      · obtain ⟨q,hq,hlt⟩:=hX.1 h
        exact ⟨q,hq,by omega⟩
      · obtain ⟨q,hq,hlt⟩:=hX.1 h
        rw [hq,hv];intro h3;have h3:=hG _ _ (Option.some.inj h3);omega
    · rw [g1.2.1 e1,g2.2.1 e2,getD_set_ne false e1,getD_set_ne false e2]
      refine ⟨fun h=> ?_,fun h=> ?_,hX.2.2⟩
      · obtain ⟨q,hq,hlt⟩:=hX.1 h
        exact ⟨q,hq,by omega⟩
      · obtain ⟨q,hq,hlt⟩:=hX.2.1 h
        exact ⟨q,hq,by omega⟩
theorem rg2 {id:Nat} {lops:List Oper} {T0:Array Value} {n:Nat} {l0:List (Nat×Value)} {ds:List Deferred} {w0:World} (G:Nat→Value) (n0 i1 i2 d1 d2:Nat) (Rs:List (Value→World→Prop)) (E0:Env T0 n l0) (hm:P.follows .mixedOrders=true) (hF:formB lops.toArray n0 n=true) (hd1:Nat.blt i1 n0=true∧(lops.toArray[i1]?).bind (·.dst)=some d1) (hd2:Nat.blt i2 n0=true∧(lops.toArray[i2]?).bind (·.dst)=some d2) (h12:Nat.beq i1 i2=false) (hG: ∀a b,G a=G b→a=b)
    (hst:AllI (fun i=> ∀v w w1,Rn Rs i v w→Mv [] 0 w w1→Rn Rs i v w1) 0 n0)
    (step:AllI (fun i=> ∀T w,Mv [] 0 w0.drew w→T.size=n→(∀s,oldB lops.toArray n0 i s=true→T[s]? =T0[s]?)→(∀j,(needs (opAt lops.toArray i)).contains j=true→Left lops.toArray (Rn Rs) j T w)→Ru P lops.toArray Q (opAt lops.toArray i) ⟨T,ds⟩ w (fun v w1=>(Mv [] 0 w w1∧(bif Nat.beq i i1 || Nat.beq i i2 then ∃g,v=G g∧w.heap.size≤g∧g<w1.heap.size else True))∧Rn Rs i v w1)) 0 n0)
    (fin: ∀T w,Mv [] 0 w0.drew w→T.size=n→(∀s,(dstOf lops.toArray n0).contains (some s)=false→T[s]? =T0[s]?)→(∀j,Nat.blt j n0=true→Left lops.toArray (Rn Rs) j T w)→T[d1]? ≠T[d2]? →wpList P lops.toArray Q (lops.drop n0) ⟨T,ds⟩ w):
    (Code.region id lops.toArray true).wp P Q ⟨T0,ds⟩ w0:=by
  have F:=formB_spec hF;refine wp_region_any hm ?_;refine rg_any (R:=Rn Rs) (M:=fun i _ w v w1=>Mv [] 0 w w1∧(bif Nat.beq i i1 || Nat.beq i i2 then ∃g,v=G g∧w.heap.size≤g∧g<w1.heap.size else True)) (H:=fun _ w=>Mv [] 0 w0.drew w) (X:=fun l T w=>(l.getD i1 false=true→∃g,T[d1]? =some (G g)∧g<w.heap.size)∧(l.getD i2 false=true→∃g,T[d2]? =some (G g)∧g<w.heap.size)∧(l.getD i1 false=true→l.getD i2 false=true→T[d1]? ≠T[d2]?)) F E0.1 (fun _ _ _ _ _ _ _ _ _ h k=>h.trans k.1) ?_ (fun i j _ v w _ w1 _ hj _ hr hm=>hst.get (Nat.zero_le _) (by omega) v w w1 hr hm.1) ?_ ?_ lops.toArray.size _ T0 _ (by simp) ?_ (Mv.refl _ _ _) ?_ E0.1 ?_ ?_ ?_ ?_
  · exact fun i o l T w v w1 a1 a2 a3 a4 _ a5 hX hm=>pair_step hG F hd1 hd2 h12 i o l T w v w1 a1 a2 a3 a4 a5 hX ⟨hm.1.size,hm.2⟩
  · intro i o hi ho l T w hun hmv hT hold hN
    have hoe:opAt lops.toArray i=o:=by
      have:=(Array.getElem?_eq_some_iff.1 ho);unfold opAt;rw [Array.getD_eq_getD_getElem?,ho];rfl
    have h1:=step.get (Nat.zero_le _) (by omega:i<0+n0) T w hmv hT hold;rw [hoe] at h1;exact h1 (fun j hj=>hN j (by simpa using hj))
  · intro l T w hmv hall hXl hT hold hl
    have:=fin T w hmv hT (fun s hs=>hold s (fun j o hj ho hd=> ?_)) (fun j hj=>hl j (by simpa using hj)) (hXl.2.2 (hall i1 (by simpa using hd1.1)) (hall i2 (by simpa using hd2.1)))
    · simpa using this
    · have h1:some s∈dstOf lops.toArray n0:=by
        simp only [dstOf,List.mem_map,List.mem_range];exact ⟨j,hj,by rw [ho];exact hd⟩
      have h2:(dstOf lops.toArray n0).contains (some s)=true:=by simpa using h1
      rw [hs] at h2;cases h2
  · exact Nat.le_trans List.countP_le_length (by simp)
  · have h0: ∀j,(Array.replicate lops.toArray.size false).getD j false=false:=fun j=>by
      simp [Array.getD_eq_getD_getElem?];cases h:(Array.replicate lops.length false)[j]? with
      | none=>rfl
      | some b=>simp [Array.getElem?_replicate] at h;simp [h]
    exact ⟨fun h=>(by rw [h0] at h;cases h),fun h=>(by rw [h0] at h;cases h),fun h=>(by rw [h0] at h;cases h)⟩
  · intro j o hj hl
    simp at hl;have:(Array.replicate lops.toArray.size false).getD j false=false:=by
      simp [Array.getD_eq_getD_getElem?];cases h:(Array.replicate lops.length false)[j]? with
      | none=>rfl
      | some b=>simp [Array.getElem?_replicate] at h;simp [h]
    simp_all
  · intro j h1 h2
    simp at h2;simp [h2]
  · intro s _;rfl
  · intro j hj hl
    have:(Array.replicate lops.toArray.size false).getD j false=false:=by
      simp [Array.getD_eq_getD_getElem?];cases h:(Array.replicate lops.length false)[j]? with
      | none=>rfl
      | some b=>simp [Array.getElem?_replicate] at h;simp [h]
    rw [this] at hl;cases hl
theorem rgW {id:Nat} {lops:List Oper} {T0:Array Value} {n:Nat} {l0:List (Nat×Value)} {ds:List Deferred} {w0:World} (n0 ks:Nat) (σ:List Nat) (base:Nat) (Mk:World→World→Prop) (Rs:List (Value→World→Prop)) (E0:Env T0 n l0) (hm:P.follows .mixedOrders=true) (hF:formB lops.toArray n0 n=true)
    (hMk: ∀w w1,Mk w w1→Mv σ base w w1) (hst:AllI (fun i=> ∀v w w1,Rn Rs i v w→Mv [] 0 w w1→Rn Rs i v w1) 0 n0) (hst1:AllI (fun i=>Nat.beq i ks=false→∀v w w1,Rn Rs i v w→Mk w w1→Rn Rs i v w1) 0 n0)
    (step:AllI (fun i=> ∀T w,Mv (bif Nat.beq i ks then [] else σ) (bif Nat.beq i ks then 0 else base) w0.drew w→T.size=n→(∀s,oldB lops.toArray n0 i s=true→T[s]? =T0[s]?)→(∀j,(needs (opAt lops.toArray i)).contains j=true→Left lops.toArray (Rn Rs) j T w)→Ru P lops.toArray Q (opAt lops.toArray i) ⟨T,ds⟩ w (fun v w1=>(bif Nat.beq i ks then Mk w w1 else Mv [] 0 w w1)∧Rn Rs i v w1)) 0 n0)
    (fin: ∀T w,Mv σ base w0.drew w→T.size=n→(∀s,(dstOf lops.toArray n0).contains (some s)=false→T[s]? =T0[s]?)→(∀j,Nat.blt j n0=true→Left lops.toArray (Rn Rs) j T w)→wpList P lops.toArray Q (lops.drop n0) ⟨T,ds⟩ w):
    (Code.region id lops.toArray true).wp P Q ⟨T0,ds⟩ w0:=by
  have F:=formB_spec hF;refine wp_region_any hm ?_;refine rg_any (R:=Rn Rs) (M:=fun i _ w _ w1=>bif Nat.beq i ks then Mk w w1 else Mv [] 0 w w1) (X:=fun _ _ _=>True) (H:=fun l w=>Mv σ base w0.drew w∧(l.getD ks false=false→Mv [] 0 w0.drew w)) F E0.1 ?_ (fun _ _ _ _ _ _ _ _ _ _ _ _ _ _ _=>trivial) ?_ ?_ ?_ lops.toArray.size _ T0 _ (by simp) ?_ ⟨Mv.refl _ _ _,fun _=>Mv.refl _ _ _⟩ trivial E0.1 ?_ ?_ ?_ ?_
  · intro i l _ w v w1 _ hl hun hH h
    cases hb:Nat.beq i ks with
    | false=>
      rw [hb] at h;refine ⟨hH.1.trans (Mv.of_below h.below0 _ _),fun hk=>(hH.2 ?_).trans h⟩;have hne:i≠ks:=fun e=>by subst e;simp at hb
      rw [getD_set_ne false hne] at hk;exact hk
    | true=>
      rw [hb] at h;refine ⟨hH.1.trans (hMk _ _ h),fun hk=> ?_⟩;obtain rfl:=Nat.eq_of_beq_eq_true hb;simp [hl] at hk
  · intro i j _ v w u w1 _ hj hne hR h
    cases hb:Nat.beq i ks with
    | false=>
      rw [hb] at h;exact hst.get (Nat.zero_le _) (by omega) v w w1 hR h
    | true=>
      rw [hb] at h;obtain rfl:=Nat.eq_of_beq_eq_true hb;exact hst1.get (Nat.zero_le _) (by omega) (nbeq (Ne.symm hne)) v w w1 hR h
  · intro i o hi ho l T w hun hmv hT hold hN
    have hoe:opAt lops.toArray i=o:=by
      have:=(Array.getElem?_eq_some_iff.1 ho);unfold opAt;rw [Array.getD_eq_getD_getElem?,ho];rfl
    have hm2:Mv (bif Nat.beq i ks then [] else σ) (bif Nat.beq i ks then 0 else base) w0.drew w:=by
      cases hb:Nat.beq i ks with
      | false=>exact hmv.1
      | true=>
        obtain rfl:=Nat.eq_of_beq_eq_true hb;exact hmv.2 hun
    have h1:=step.get (Nat.zero_le _) (by omega:i<0+n0) T w hm2 hT hold;rw [hoe] at h1;exact h1 (fun j hj=>hN j (by simpa using hj))
  · intro l T w hmv _ _ hT hold hl
    have:=fin T w hmv.1 hT (fun s hs=>hold s (fun j o hj ho hd=> ?_)) (fun j hj=>hl j (by simpa using hj))
    · simpa using this
    · have h1:some s∈dstOf lops.toArray n0:=by
        simp only [dstOf,List.mem_map,List.mem_range];exact ⟨j,hj,by rw [ho];exact hd⟩
      have h2:(dstOf lops.toArray n0).contains (some s)=true:=by simpa using h1
      rw [hs] at h2;cases h2
  · exact Nat.le_trans List.countP_le_length (by simp)
  · intro j o hj hl
    simp at hl;have:(Array.replicate lops.toArray.size false).getD j false=false:=by
      simp [Array.getD_eq_getD_getElem?];cases h:(Array.replicate lops.length false)[j]? with
      | none=>rfl
      | some b=>simp [Array.getElem?_replicate] at h;simp [h]
    simp_all
  · intro j h1 h2
    simp at h2;simp [h2]
  · intro s _;rfl
  · intro j hj hl
    have:(Array.replicate lops.toArray.size false).getD j false=false:=by
      simp [Array.getD_eq_getD_getElem?];cases h:(Array.replicate lops.length false)[j]? with
      | none=>rfl
      | some b=>simp [Array.getElem?_replicate] at h;simp [h]
    rw [this] at hl;cases hl
theorem mvD {σ:List Nat} {b:Nat} {w w1:World} (h:Mv σ b w.drew w1):Mv σ b w w1:=(mv_drew σ b w).trans h
abbrev Qx:=Option Value×(Value→World→Prop)
def Rq (x:Qx):Value→World→Prop:=fun u W=>match x.1 with
  | some v=>u=v
  | none=>x.2 u W
def kv (v:Value):Qx:=(some v,fun _ _=>True)
def kp (R:Value→World→Prop):Qx:=(none,R)
def xAt (xs:List Qx) (i:Nat):Qx:=xs.getD i (none,fun _ _=>True)
def depL (ops:Array Oper) (xs:List Qx) (js:List Nat):List (Nat×Value):=js.filterMap (fun j=>match (ops[j]?).bind (·.dst),(xAt xs j).1 with
  | some d,some v=>some (d,v)
  | _,_=>none)
def pick (l:List (Nat×Value)) (ss:List Nat):List (Nat×Value):=ss.filterMap (fun s=>(lk l s).map (fun v=>(s,v)))
def depsB (ops:Array Oper) (n0:Nat) (Ds:List (List Nat×List Nat)):Bool:=(List.range n0).all (fun i=>(Ds.getD i ([],[])).1.all (fun j=>(needs (opAt ops i)).contains j && Nat.blt j n0) && (Ds.getD i ([],[])).2.all (fun s=>oldB ops n0 i s))
def Hx (T:Array Value):List (Nat×Value)→Prop
  | []=>True
  | (k,v)::r=>T[k]? =some v∧Hx T r
def coverB (ops:Array Oper) (xs:List Qx) (n0:Nat) (js:List Nat) (l0:List (Nat×Value)) (ks:List Nat):Bool:=js.all (fun j=>Nat.blt j n0) && (List.range n0).all (fun j=>match (ops[j]?).bind (·.dst) with
  | none=>true
  | some d=>(xAt xs j).1.isSome && js.contains j || ks.contains d || (lk l0 d).isNone)
theorem Hx.get {T:Array Value}: ∀{l:List (Nat×Value)},Hx T l→∀i v,lk l i=some v→T[i]? =some v
  | [],_,_,_,h=>by cases h
  | (k,u)::r,hl,i,v,h=>by
    by_cases e:k=i
    · subst e
      simp [lk] at h;rw [← h];exact hl.1
    · have e1:Nat.beq k i=false:=nbeq e
      rw [lk,e1] at h;exact Hx.get hl.2 i v h
theorem lk_mem: ∀{l:List (Nat×Value)} {i:Nat} {v:Value},lk l i=some v→(i,v)∈l
  | [],_,_,h=>by cases h
  | (k,u)::r,i,v,h=>by
    by_cases e:k=i
    · subst e
      simp [lk] at h;subst h;exact List.mem_cons_self
    · have e1:Nat.beq k i=false:=nbeq e
      rw [lk,e1] at h;exact List.mem_cons_of_mem _ (lk_mem h)
theorem lk_append: ∀{l r:List (Nat×Value)} {i:Nat} {v:Value},lk (l++r) i=some v→lk l i=some v∨((∀u,(i,u) ∉ l)∧lk r i=some v)
  | [],r,i,v,h=> .inr ⟨fun _ h=>(by cases h),h⟩
  | (k,u)::l,r,i,v,h=>by
    by_cases e:k=i
    · subst e
      simp [lk] at h;exact .inl (by simp [lk,h])
    · have e1:Nat.beq k i=false:=nbeq e
      rw [List.cons_append,lk,e1] at h;rcases lk_append (l:=l) h with h | ⟨h1,h2⟩
      · exact .inl (by rw [lk,e1];exact h)
      · refine .inr ⟨fun u2 hu=> ?_,h2⟩
        rcases List.mem_cons.1 hu with hu | hu
        · injection hu with h3 _;exact e h3.symm
        · exact h1 u2 hu
theorem xAt_map {xs:List Qx} {i:Nat} (h:i<xs.length):Rn (xs.map Rq) i=Rq (xAt xs i):=by
  unfold Rn xAt;simp [List.getD,h]
theorem depL_at {n0 n:Nat} {xs:List Qx} {T:Array Value} {w:World} (F:FormP ops n0 n) {j:Nat} (hj:j<n0) (hx:n0≤xs.length) (h:Left ops (Rn (xs.map Rq)) j T w) {d:Nat} {v:Value} (hd:(ops[j]?).bind (·.dst)=some d) (hv:(xAt xs j).1=some v):T[d]? =some v:=by
  unfold Left at h;rw [hd] at h;obtain ⟨u,hu,hR⟩:=h;rw [xAt_map (by omega)] at hR;unfold Rq at hR;rw [hv] at hR;rw [hu,hR]
theorem depE {n0 n i:Nat} {xs:List Qx} {T T0:Array Value} {l0:List (Nat×Value)} {w:World} (F:FormP ops n0 n) (hx:n0≤xs.length) (E0:Env T0 n l0) (hT:T.size=n) (hO: ∀s,oldB ops n0 i s=true→T[s]? =T0[s]?) (hN: ∀j,(needs (opAt ops i)).contains j=true→Left ops (Rn (xs.map Rq)) j T w) {js ss:List Nat} (h1:js.all (fun j=>(needs (opAt ops i)).contains j && Nat.blt j n0)=true) (h2:ss.all (fun s=>oldB ops n0 i s)=true):Env T n (depL ops xs js++pick l0 ss):=by
  refine ⟨hT,fun s v h=> ?_⟩;rcases lk_append h with h | ⟨_,h⟩
  · have hm:=lk_mem h
    unfold depL at hm;rw [List.mem_filterMap] at hm;obtain ⟨j,hj,he⟩:=hm;have hj2:=List.all_eq_true.1 h1 j hj;simp only [Bool.and_eq_true] at hj2;cases hd:(ops[j]?).bind (·.dst) with
    | none=>rw [hd] at he;simp at he
    | some d=>
      cases hv:(xAt xs j).1 with
      | none=>rw [hd,hv] at he;simp at he
      | some u=>
        rw [hd,hv] at he;simp only [Option.some.injEq,Prod.mk.injEq] at he;obtain ⟨rfl,rfl⟩:=he;exact depL_at F (by simpa using hj2.2) hx (hN j hj2.1) hd hv
  · have hm:=lk_mem h
    unfold pick at hm;rw [List.mem_filterMap] at hm;obtain ⟨k,hk,he⟩:=hm;rw [Option.map_eq_some_iff] at he;obtain ⟨u,hu,he⟩:=he;injection he with h3 h4;subst h3 h4;rw [hO k (List.all_eq_true.1 h2 k hk)];exact E0.get hu
theorem finE {n0 n:Nat} {xs:List Qx} {T T0:Array Value} {l0:List (Nat×Value)} {w:World} (F:FormP ops n0 n) (hx:n0≤xs.length) (E0:Env T0 n l0) (hT:T.size=n) (hO: ∀s,(dstOf ops n0).contains (some s)=false→T[s]? =T0[s]?) (hN: ∀j,Nat.blt j n0=true→Left ops (Rn (xs.map Rq)) j T w) (js:List Nat) (ex:List (Nat×Value)) (h1:Hx T ex) (h2:coverB ops xs n0 js l0 (ex.map (·.1))=true):Env T n (ex++(depL ops xs js++l0)):=by
  unfold coverB at h2;rw [Bool.and_eq_true] at h2;obtain ⟨h0,h2⟩:=h2;refine ⟨hT,fun s v h=> ?_⟩;rcases lk_append h with h | ⟨hne,h⟩
  · exact h1.get s v h
  · rcases lk_append h with h | ⟨hne2,h⟩
    · have hm:=lk_mem h
      unfold depL at hm;rw [List.mem_filterMap] at hm;obtain ⟨j,hj,he⟩:=hm;have hj2:j<n0:=by simpa using List.all_eq_true.1 h0 j hj
      cases hd:(ops[j]?).bind (·.dst) with
      | none=>rw [hd] at he;simp at he
      | some d=>
        cases hv:(xAt xs j).1 with
        | none=>rw [hd,hv] at he;simp at he
        | some u=>
          rw [hd,hv] at he;simp only [Option.some.injEq,Prod.mk.injEq] at he;obtain ⟨rfl,rfl⟩:=he;exact depL_at F hj2 hx (hN j (by simpa using hj2)) hd hv
    · rw [hO s ?_]
      · exact E0.get h
      · refine dstOf_not (fun j o hj ho hd=> ?_)
        have hd2:(ops[j]?).bind (·.dst)=some s:=by rw [ho];exact hd
        have h3:=List.all_eq_true.1 h2 j (List.mem_range.2 hj);rw [hd2] at h3;simp only [Bool.or_eq_true,Bool.and_eq_true] at h3;rcases h3 with (h3 | h3) | h3
        · cases hv:(xAt xs j).1 with
          | none=>rw [hv] at h3;cases h3.1
          | some u=>
            refine hne2 u ?_;unfold depL;rw [List.mem_filterMap];exact ⟨j,by simpa using h3.2,by rw [hd2,hv]⟩
        · have h4:s∈ex.map (·.1):=by simpa using h3
          obtain ⟨p,hp,rfl⟩:=List.mem_map.1 h4;exact hne p.2 hp
        · rw [h] at h3;cases h3
theorem Ru.q {o:Oper} {T:Array Value} {ds:List Deferred} {w:World} {v:Value} (h:Dv P o ⟨T,ds⟩ w v w) (hg:o.guard=none):Ru P ops Q o ⟨T,ds⟩ w (fun u w1=>Mv [] 0 w w1∧Rq (kv v) u w1):=Ru.v h hg ⟨Mv.refl _ _ _,rfl⟩
theorem Ru.qw {o:Oper} {T:Array Value} {ds:List Deferred} {w:World} {v:Value} (h:Dv P o ⟨T,ds⟩ w v w) (hg:Region.wanted o (yielded ops T)=true):Ru P ops Q o ⟨T,ds⟩ w (fun u w1=>Mv [] 0 w w1∧Rq (kv v) u w1):=Ru.of fun K hK=>by
  rw [if_pos hg];unfold Oper.wp;rw [show (execOp (Act.mk T ds).eval o).run P w=_ from h];exact hK v w ⟨Mv.refl _ _ _,rfl⟩
theorem Ru.qo {o:Oper} {a:Act} {w:World} (hg:Region.wanted o (yielded ops a.tmps)=false):Ru P ops Q o a w (fun u w1=>Mv [] 0 w w1∧Rq (kv undef) u w1):=Ru.of fun K hK=>by
  rw [if_neg (by rw [hg];simp)];exact hK _ _ ⟨Mv.refl _ _ _,rfl⟩
theorem Ru.d {o:Oper} {T:Array Value} {ds:List Deferred} {w:World} {v:Value} (h:Dv P o ⟨T,ds⟩ w v w) (hg:o.guard=none:=by exact rfl):Ru P ops Q o ⟨T,ds⟩ w (fun u w1=>Mv [] 0 w w1∧Rq (kv v) u w1):=Ru.q h hg
def Stb (x:Qx):Prop:=x.1.isSome=true∨∀v w w1,x.2 v w→Mv [] 0 w w1→x.2 v w1
theorem Stb.p {R:Value→World→Prop} (h: ∀v w w1,R v w→Mv [] 0 w w1→R v w1):Stb (kp R):= .inr h
theorem Stb.use {x:Qx} (h:Stb x) {v:Value} {w w1:World} (hr:Rq x v w) (e:Mv [] 0 w w1):Rq x v w1:=by
  unfold Rq at hr ⊢;rcases h with h | h
  · cases hx:x.1 with
    | none=>rw [hx] at h;cases h
    | some u=>rw [hx] at hr;exact hr
  · cases hx:x.1 with
    | none=>rw [hx] at hr;exact h v w w1 hr e
    | some u=>rw [hx] at hr;exact hr
theorem rgE {id:Nat} {lops:List Oper} {T0:Array Value} {n:Nat} {l0:List (Nat×Value)} {ds:List Deferred} {w0:World} (n0:Nat) (xs:List Qx) (Ds:List (List Nat×List Nat)) (E0:Env T0 n l0) (hm:P.follows .mixedOrders=true) (hF:(formB lops.toArray n0 n && depsB lops.toArray n0 Ds && Nat.ble n0 xs.length)=true)
    (hst:AllI (fun i=>Stb (xAt xs i)) 0 n0)
    (step:AllI (fun i=> ∀T w,Mv [] 0 w0 w→Env T n (depL lops.toArray xs (Ds.getD i ([],[])).1++pick l0 (Ds.getD i ([],[])).2)→(∀j,(needs (opAt lops.toArray i)).contains j=true→Left lops.toArray (Rn (xs.map Rq)) j T w)→Ru P lops.toArray Q (opAt lops.toArray i) ⟨T,ds⟩ w (fun v w1=>Mv [] 0 w w1∧Rq (xAt xs i) v w1)) 0 n0)
    (fin: ∀T w,Mv [] 0 w0 w→(∀js ex,Hx T ex→coverB lops.toArray xs n0 js l0 (ex.map (·.1))=true→Env T n (ex++(depL lops.toArray xs js++l0)))→(∀j,Nat.blt j n0=true→Left lops.toArray (Rn (xs.map Rq)) j T w)→wpList P lops.toArray Q (lops.drop n0) ⟨T,ds⟩ w):
    (Code.region id lops.toArray true).wp P Q ⟨T0,ds⟩ w0:=by
  simp only [Bool.and_eq_true] at hF;obtain ⟨⟨hF,hD⟩,hx⟩:=hF;have hx:n0≤xs.length:=by simpa using hx
  have F:=formB_spec hF;refine rg n0 [] 0 (xs.map Rq) E0 hm hF (fun i h1 h2 v w w1 hr e=> ?_) (fun i h1 h2 T w hmv hT hO hN=> ?_) (fun T w hmv hT hO hN=> ?_)
  · rw [xAt_map (by omega)] at hr ⊢
    exact (hst i h1 h2).use hr e
  · have hd:=List.all_eq_true.1 hD i (List.mem_range.2 (by omega))
    simp only [Bool.and_eq_true] at hd;rw [xAt_map (by omega)];exact step i h1 h2 T w (mvD hmv) (depE F hx E0 hT hO hN hd.1 hd.2) hN
  · exact fin T w (mvD hmv) (finE F hx E0 hT hO hN) hN
theorem Env.nil {T:Array Value} {n:Nat} (h:T.size=n):Env T n []:=⟨h,fun _ _ h=>by cases h⟩
end
section
variable {P:Program} {o:Oper} {T:Array Value} {ds:List Deferred} {n:Nat} {l:List (Nat×Value)} {w:World}
theorem dv_of {v:Value} {w1:World} {s:Sem Value} (h:execOp (Act.mk T ds).eval o=(do pure (.value (← s)))) (hs:s.run P w= .ok v w1):Dv P o ⟨T,ds⟩ w v w1:=by
  unfold Dv;rw [h];simp [hs]
theorem dv_move {x:Operand} {v:Value} (E:Env T n l) (ho:o.op= .move x) (hx:ev l x=some v):Dv P o ⟨T,ds⟩ w v w:=by
  unfold Dv execOp;rw [ho];simp only [E.ev hx ds];rfl
theorem dv_assign {x:Operand} {v:Value} (E:Env T n l) (ho:o.op= .assign x) (hx:ev l x=some v):Dv P o ⟨T,ds⟩ w v w:=by
  unfold Dv execOp;rw [ho];simp only [E.ev hx ds];rfl
theorem dv_pick {c x y:Operand} {b:Bool} {u v:Value} (E:Env T n l) (ho:o.op= .pick c x y) (hc:ev l c=some (.bool b)) (hx:ev l x=some u) (hy:ev l y=some v):Dv P o ⟨T,ds⟩ w (if b then u else v) w:=by
  unfold Dv execOp;rw [ho];simp only [E.ev hx ds,E.ev hy ds,E.ev hc ds];cases b <;> rfl
theorem run_zero {t:TypeId} {z:Value} (hz:(P.info? t).bind (·.zero)=some z):(zeroValue t).run P w= .ok z w:=by
  cases h:P.info? t with
  | none=>rw [h] at hz;cases hz
  | some i=>
    rw [h] at hz;simp only [Option.bind_some] at hz;simp [zeroValue,typeInfo,h,hz,go_sem]
theorem dv_alloc {t:TypeId} {z:Value} (ho:o.op= .alloc t) (hz:(P.info? t).bind (·.zero)=some z):Dv P o ⟨T,ds⟩ w (.pointer (some ⟨w.heap.size,0,none⟩)) (w.alloc (.cells z.cells t)):=by
  refine dv_of (by unfold execOp;rw [ho]) ?_;simp [Instr.alloc,run_zero hz,newVar,go_sem]
theorem dv_box {t:TypeId} {x:Operand} {v:Value} (E:Env T n l) (ho:o.op= .box t x) (hx:ev l x=some v):Dv P o ⟨T,ds⟩ w (.pointer (some ⟨w.heap.size,0,none⟩)) (w.alloc (.cells v.cells t)):=by
  refine dv_of (by unfold execOp;rw [ho]) ?_;simp only [E.ev hx ds];simp [Instr.box,newVar,go_sem]
theorem dv_add {k:IntKind} {t t2:TypeId} {x y:Operand} {a b c:Int} (E:Env T n l) (ho:o.op= .binOp .add t x y t2) (hx:ev l x=some (.int k a)) (hy:ev l y=some (.int k b)) (hc:k.wrap (a+b)=c):Dv P o ⟨T,ds⟩ w (.int k c) w:=by
  refine dv_of (by unfold execOp;rw [ho]) ?_;simp only [E.ev hx ds,E.ev hy ds];simp [eqGuard,binOp,Op.intArith,hc,go_sem]
theorem dv_sub {k:IntKind} {t t2:TypeId} {x y:Operand} {a b c:Int} (E:Env T n l) (ho:o.op= .binOp .sub t x y t2) (hx:ev l x=some (.int k a)) (hy:ev l y=some (.int k b)) (hc:k.wrap (a-b)=c):Dv P o ⟨T,ds⟩ w (.int k c) w:=by
  refine dv_of (by unfold execOp;rw [ho]) ?_;simp only [E.ev hx ds,E.ev hy ds];simp [eqGuard,binOp,Op.intArith,hc,go_sem]
theorem dv_mul {k:IntKind} {t t2:TypeId} {x y:Operand} {a b c:Int} (E:Env T n l) (ho:o.op= .binOp .mul t x y t2) (hx:ev l x=some (.int k a)) (hy:ev l y=some (.int k b)) (hc:k.wrap (a*b)=c):Dv P o ⟨T,ds⟩ w (.int k c) w:=by
  refine dv_of (by unfold execOp;rw [ho]) ?_;simp only [E.ev hx ds,E.ev hy ds];simp [eqGuard,binOp,Op.intArith,hc,go_sem]
theorem dv_quo {k:IntKind} {t t2:TypeId} {x y:Operand} {a b c:Int} (E:Env T n l) (ho:o.op= .binOp .quo t x y t2) (hx:ev l x=some (.int k a)) (hy:ev l y=some (.int k b)) (h0:b≠0) (hc:k.wrap (a.tdiv b)=c):Dv P o ⟨T,ds⟩ w (.int k c) w:=by
  refine dv_of (by unfold execOp;rw [ho]) ?_;simp only [E.ev hx ds,E.ev hy ds];simp [eqGuard,binOp,Op.intDiv,hc,h0,go_sem]
theorem dv_rem {k:IntKind} {t t2:TypeId} {x y:Operand} {a b c:Int} (E:Env T n l) (ho:o.op= .binOp .rem t x y t2) (hx:ev l x=some (.int k a)) (hy:ev l y=some (.int k b)) (h0:b≠0) (hc:a.tmod b=c):Dv P o ⟨T,ds⟩ w (.int k c) w:=by
  refine dv_of (by unfold execOp;rw [ho]) ?_;simp only [E.ev hx ds,E.ev hy ds];simp [eqGuard,binOp,Op.intDiv,hc,h0,go_sem]
theorem dv_eql {k:IntKind} {t t2:TypeId} {x y:Operand} {a b:Int} {c:Bool} (E:Env T n l) (ho:o.op= .binOp .eql t x y t2) (hx:ev l x=some (.int k a)) (hy:ev l y=some (.int k b)) (hc:decide (a=b)=c):Dv P o ⟨T,ds⟩ w (.bool c) w:=by
  refine dv_of (by unfold execOp;rw [ho]) ?_;simp only [E.ev hx ds,E.ev hy ds];have:(a==b)=c:=by rw [← hc];cases h:decide (a=b) <;> simp_all
  simp [eqGuard,binOp,Op.intCmp,this,go_sem]
theorem dv_neq {k:IntKind} {t t2:TypeId} {x y:Operand} {a b:Int} {c:Bool} (E:Env T n l) (ho:o.op= .binOp .neq t x y t2) (hx:ev l x=some (.int k a)) (hy:ev l y=some (.int k b)) (hc:decide (a≠b)=c):Dv P o ⟨T,ds⟩ w (.bool c) w:=by
  refine dv_of (by unfold execOp;rw [ho]) ?_;simp only [E.ev hx ds,E.ev hy ds];have:(a !=b)=c:=by rw [← hc];cases h:decide (a≠b) <;> simp_all
  simp [eqGuard,binOp,Op.intCmp,this,go_sem]
theorem dv_lss {k:IntKind} {t t2:TypeId} {x y:Operand} {a b:Int} {c:Bool} (E:Env T n l) (ho:o.op= .binOp .lss t x y t2) (hx:ev l x=some (.int k a)) (hy:ev l y=some (.int k b)) (hc:decide (a<b)=c):Dv P o ⟨T,ds⟩ w (.bool c) w:=by
  refine dv_of (by unfold execOp;rw [ho]) ?_;simp only [E.ev hx ds,E.ev hy ds];simp [eqGuard,binOp,Op.intCmp,hc,go_sem]
theorem dv_leq {k:IntKind} {t t2:TypeId} {x y:Operand} {a b:Int} {c:Bool} (E:Env T n l) (ho:o.op= .binOp .leq t x y t2) (hx:ev l x=some (.int k a)) (hy:ev l y=some (.int k b)) (hc:decide (a≤b)=c):Dv P o ⟨T,ds⟩ w (.bool c) w:=by
  refine dv_of (by unfold execOp;rw [ho]) ?_;simp only [E.ev hx ds,E.ev hy ds];simp [eqGuard,binOp,Op.intCmp,hc,go_sem]
theorem dv_gtr {k:IntKind} {t t2:TypeId} {x y:Operand} {a b:Int} {c:Bool} (E:Env T n l) (ho:o.op= .binOp .gtr t x y t2) (hx:ev l x=some (.int k a)) (hy:ev l y=some (.int k b)) (hc:decide (b<a)=c):Dv P o ⟨T,ds⟩ w (.bool c) w:=by
  refine dv_of (by unfold execOp;rw [ho]) ?_;simp only [E.ev hx ds,E.ev hy ds];simp [eqGuard,binOp,Op.intCmp,hc,go_sem]
theorem dv_geq {k:IntKind} {t t2:TypeId} {x y:Operand} {a b:Int} {c:Bool} (E:Env T n l) (ho:o.op= .binOp .geq t x y t2) (hx:ev l x=some (.int k a)) (hy:ev l y=some (.int k b)) (hc:decide (b≤a)=c):Dv P o ⟨T,ds⟩ w (.bool c) w:=by
  refine dv_of (by unfold execOp;rw [ho]) ?_;simp only [E.ev hx ds,E.ev hy ds];simp [eqGuard,binOp,Op.intCmp,hc,go_sem]
theorem dv_not {t:TypeId} {x:Operand} {b:Bool} (E:Env T n l) (ho:o.op= .unOp .not t x) (hx:ev l x=some (.bool b)):Dv P o ⟨T,ds⟩ w (.bool (!b)) w:=by
  refine dv_of (by unfold execOp;rw [ho]) ?_;simp only [E.ev hx ds];simp [Op.unary,go_sem]
theorem dv_neg {k:IntKind} {t:TypeId} {x:Operand} {a c:Int} (E:Env T n l) (ho:o.op= .unOp .neg t x) (hx:ev l x=some (.int k a)) (hc:k.wrap (0-a)=c):Dv P o ⟨T,ds⟩ w (.int k c) w:=by
  refine dv_of (by unfold execOp;rw [ho]) ?_;simp only [E.ev hx ds];simp only [Op.unary,Op.intArith,hc];rfl
theorem dv_nilCheck {x:Operand} {a:Addr} (E:Env T n l) (ho:o.op= .nilCheck x) (hx:ev l x=some (.pointer (some a))):Dv P o ⟨T,ds⟩ w (.pointer (some a)) w:=by
  unfold Dv execOp;rw [ho];simp only [E.ev hx ds];rfl
theorem run_under {t:TypeId} {d:TypeDesc} (h:P.underlying t=some d):(underlying t).run P w= .ok d w:=by
  simp [underlying,h,go_sem]
theorem run_size {t:TypeId} {k:Nat} (h:(P.info? t).map (·.size)=some k):(sizeOf t).run P w= .ok k w:=by
  cases hi:P.info? t with
  | none=>rw [hi] at h;cases h
  | some i=>
    rw [hi] at h;simp only [Option.map_some,Option.some.injEq] at h;simp [sizeOf,typeInfo,hi,h,go_sem]
def fieldB (P:Program) (t f off:Nat):Bool:=match P.underlying t with
  | some (.struct fs)=>match fs[f]? with
    | some x=>x.offset==off && (match P.info? x.type with | some i=> !(i.size==0) | none=>false)
    | none=>false
  | _=>false
theorem run_fieldAt {t f off:Nat} {a:Addr} (h:fieldB P t f off=true):(Instr.fieldAt t (.pointer (some a)) f).run P w= .ok (.pointer (some (a.add off))) w:=by
  unfold fieldB at h;cases hu:P.underlying t with
  | none=>rw [hu] at h;cases h
  | some d=>
    rw [hu] at h;cases d <;> simp only [Bool.false_eq_true] at h
    rename_i fs;cases hf:fs[f]? with
    | none=>rw [hf] at h;cases h
    | some x=>
      rw [hf] at h;simp only [Bool.and_eq_true,beq_iff_eq] at h;cases hi:P.info? x.type with
      | none=>rw [hi] at h;simp at h
      | some i=>
        rw [hi] at h;have h2: ¬i.size=0:=by simpa using h.2
        simp [Instr.fieldAt,run_under hu,hf,Instr.sureAddr,fieldPlace,sizeOf,typeInfo,hi,h2,h.1,go_sem]
theorem dv_fieldAddr {t f:Nat} {x:Operand} {a b:Addr} (off:Nat) (E:Env T n l) (ho:o.op= .fieldAddr t x f) (hx:ev l x=some (.pointer (some a))) (hf:fieldB P t f off=true) (hb:a.add off=b):Dv P o ⟨T,ds⟩ w (.pointer (some b)) w:=by
  refine dv_of (by unfold execOp;rw [ho]) ?_;simp only [E.ev hx ds];rw [run_fieldAt hf,hb]
def sliceB (P:Program) (t k:Nat):Bool:=match P.underlying t with
  | some (.slice e)=>match P.info? e with | some i=>i.size==k | none=>false
  | _=>false
theorem dv_indexAddr {t k i:Nat} {x y:Operand} {ky:IntKind} {a b:Addr} {m c:Nat} (E:Env T n l) (ho:o.op= .indexAddr t x y) (hx:ev l x=some (.slice (some a) m c)) (hy:ev l y=some (.int ky (i:Int))) (hs:sliceB P t k=true) (hi:i<m) (hb:a.add (i*k)=b):Dv P o ⟨T,ds⟩ w (.pointer (some b)) w:=by
  refine dv_of (by unfold execOp;rw [ho]) ?_;simp only [E.ev hx ds,E.ev hy ds];unfold sliceB at hs;cases hu:P.underlying t with
  | none=>rw [hu] at hs;cases hs
  | some d=>
    rw [hu] at hs;cases d <;> simp only [Bool.false_eq_true] at hs
    rename_i e;cases hi2:P.info? e with
    | none=>rw [hi2] at hs;cases hs
    | some inf=>
      rw [hi2] at hs;have h2:inf.size=k:=by simpa using hs
      simp [Instr.indexAt,asIntOf,run_under hu,hi,sizeOf,typeInfo,hi2,h2,hb,go_sem]
def aggB (P:Program) (t:Nat) (b:Bool):Bool:=match P.underlying t with
  | some (.struct _) | some (.array _ _)=>b
  | some _=> !b
  | none=>false
theorem run_isAgg {t:Nat} {b:Bool} (h:aggB P t b=true):(isAgg t).run P w= .ok b w:=by
  unfold aggB at h;cases hu:P.underlying t with
  | none=>rw [hu] at h;cases h
  | some d=>
    rw [hu] at h;cases d <;> simp at h <;> subst h <;> simp [isAgg,run_under hu,go_sem]
theorem dv_load {t:Nat} {x:Operand} {a:Addr} {v:Value} (E:Env T n l) (ho:o.op= .load t x) (hx:ev l x=some (.pointer (some a))) (ht:aggB P t false=true) (hc:w.cell? a=some v):Dv P o ⟨T,ds⟩ w v w:=by
  refine dv_of (by unfold execOp;rw [ho]) ?_;simp only [E.ev hx ds];simp [Instr.loadAt,Instr.sureAddr,loadVar,run_isAgg ht,hc,go_sem]
theorem run_loadCells (P:Program) (w:World) (a:Addr): ∀(k i:Nat) (acc vs:Array Value),(∀j,j<k→w.cell? (a.add (i+j))=vs[j]?)→vs.size=k→(loadCellsFrom a i k acc).run P w= .ok (acc++vs) w
  | 0,i,acc,vs,h,hs=>by
    have:vs=#[]:=Array.eq_empty_of_size_eq_zero hs;subst this;simp [loadCellsFrom,go_sem]
  | k+1,i,acc,vs,h,hs=>by
    have h0:=h 0 (by omega);rw [Nat.add_zero,Array.getElem?_eq_getElem (by omega)] at h0;have ih:=run_loadCells P w a k (i+1) (acc.push vs[0]) (vs.extract 1 (k+1)) (fun j hj=>by
      have:=h (j+1) (by omega);rw [show i+1+j=i+(j+1) from by omega,this];simp [Array.getElem?_extract];rw [if_pos (by omega),Nat.add_comm]) (by simp;omega)
    have e:acc.push vs[0]++vs.extract 1 (k+1)=acc++vs:=by
      apply Array.ext
      · simp;omega
      · intro j h1 h2
        simp [Array.getElem_append,Array.getElem_push]
        split
        · split
          · rfl
          · rename_i h3 h4
            obtain rfl:j=acc.size:=by omega
            simp
        · rename_i h3
          rw [dif_neg (by omega)]
          congr 1
          omega
    rw [e] at ih;simp [loadCellsFrom,h0,go_sem];exact ih
theorem dv_loadRow {t k:Nat} {x:Operand} {a:Addr} {vs:Array Value} (E:Env T n l) (ho:o.op= .load t x) (hx:ev l x=some (.pointer (some a))) (ht:aggB P t true=true) (hk:(P.info? t).map (·.size)=some k) (hs:vs.size=k) (hc: ∀j,j<k→w.cell? (a.add j)=vs[j]?):Dv P o ⟨T,ds⟩ w (.agg vs) w:=by
  refine dv_of (by unfold execOp;rw [ho]) ?_;simp only [E.ev hx ds];have h1:=run_loadCells P w a k 0 #[] vs (fun j hj=>by rw [Nat.zero_add];exact hc j hj) hs;simp at h1;simp [Instr.loadAt,Instr.sureAddr,loadVar,run_isAgg ht,run_size hk,loadCells,h1,go_sem]
end
theorem row_cells {w:World} {g t:Nat} {cs:Array Value} {fr:Nat×Nat} (h:w.heap[g]? =some (.cells cs t fr)) (j:Nat):w.cell? ((Addr.mk g 0 none).add j)=cs[j]? :=by
  unfold Addr.add
  split
  · rename_i e;subst e;simp [World.cell?,h]
  · simp [World.cell?,h]
theorem row_cells_at {w:World} {g t k:Nat} {cs vs:Array Value} {fr:Nat×Nat} (h:w.heap[g]? =some (.cells cs t fr)) (hv: ∀j,j<vs.size→cs[k+j]? =vs[j]?) (j:Nat) (hj:j<vs.size):w.cell? ((Addr.mk g k none).add j)=vs[j]? :=by
  rw [← hv j hj];unfold Addr.add
  split
  · rename_i e;subst e;simp [World.cell?,h]
  · simp [World.cell?,h]
section
variable {P:Program} {o:Oper} {T:Array Value} {ds:List Deferred} {n:Nat} {l:List (Nat×Value)} {w:World}
def putRow (cs:Array Value) (k:Nat) (vs:List Value):Array Value:=(vs.zipIdx.foldl (fun c p=>c.setIfInBounds (k+p.2) p.1) cs)
def setBlk (w:World) (g:Nat) (cs:Array Value) (t:Nat):World:={w with heap:=w.heap.setIfInBounds g (.cells cs t (0,0))}
theorem setBlk_at {w:World} {g t:Nat} {cs:Array Value} (h:g<w.heap.size):(setBlk w g cs t).heap[g]? =some (.cells cs t (0,0)):=by simp [setBlk,h]
theorem setBlk_ne {w:World} {g t k:Nat} {cs:Array Value} (h:k≠g):(setBlk w g cs t).heap[k]? =w.heap[k]? :=by simp [setBlk,Array.getElem?_setIfInBounds_ne (Ne.symm h)]
theorem setCell_setBlk {w:World} {g t i:Nat} {cs:Array Value} {v:Value} (h:w.heap[g]? =some (.cells cs t (0,0))):w.setCell ⟨g,i,none⟩ v=setBlk w g (cs.setIfInBounds i v) t:=by
  have hg:=heap_lt h;have:w.heap.modify g (fun | .cells c elem frozen=> .cells (if (Addr.mk g i none).spot.isSome then c else c.setIfInBounds i v) elem frozen | o=>o)=w.heap.setIfInBounds g (.cells (cs.setIfInBounds i v) t (0,0)):=by
    apply Array.ext_getElem?;intro j;rw [Array.getElem?_modify,Array.getElem?_setIfInBounds];by_cases e:g=j
    · subst e
      rw [if_pos rfl,if_pos rfl,h];simp [hg]
    · rw [if_neg e,if_neg e]
  unfold World.setCell setBlk;simp only [World.mk.injEq,and_self,and_true];exact this
theorem setBlk_setBlk {w:World} {g t:Nat} {cs cs2:Array Value}:setBlk (setBlk w g cs t) g cs2 t=setBlk w g cs2 t:=by simp [setBlk]
theorem mv_setBlk {w:World} {g t:Nat} {cs cs2:Array Value} (h:w.heap[g]? =some (.cells cs t (0,0))):Mv [t] g w (setBlk w g cs2 t):=by
  refine ⟨rfl,rfl,rfl,by simp [setBlk],fun b o hb hc=> ?_⟩;by_cases e:b=g
  · subst e
    rcases hc with hc | hc
    · omega
    · rw [h] at hb
      obtain rfl:=Option.some.inj hb;simp [okind] at hc
  · rw [setBlk_ne e];exact hb
theorem setBlk_keep {w:World} {g t:Nat} {cs:Array Value} {b:Nat} {o:Obj} (hb:w.heap[b]? =some o) (hne:b≠g):(setBlk w g cs t).heap[b]? =some o:=by rw [setBlk_ne hne];exact hb
theorem run_storeCells {g t:Nat}: ∀(vs:List Value) (w:World) (cs:Array Value) (k i:Nat),w.heap[g]? =some (.cells cs t (0,0))→k+i+vs.length≤cs.size→(∀v∈vs,v.oneCell'=true)→
    (storeCells ⟨g,k,none⟩ vs i).run P w= .ok () (setBlk w g (vs.zipIdx.foldl (fun c p=>c.setIfInBounds (k+i+p.2) p.1) cs) t)
  | [],w,cs,k,i,h,hk,hv=>by
    have hg:=heap_lt h;have e:setBlk w g cs t=w:=by
      unfold setBlk
      congr 1
      apply Array.ext_getElem?;intro j;rw [Array.getElem?_setIfInBounds];by_cases e:g=j
      · subst e;rw [if_pos rfl,if_pos hg,h]
      · rw [if_neg e]
    simp [storeCells,e,go_sem]
  | v::r,w,cs,k,i,h,hk,hv=>by
    have hg:=heap_lt h;have hadd:(Addr.mk g k none).add i=⟨g,k+i,none⟩:=by
      unfold Addr.add
      split
      · rename_i e;subst e;rfl
      · rfl
    have hlen:k+i<cs.size:=by simp at hk;omega
    have hcell:w.cell? ⟨g,k+i,none⟩=some cs[k+i]:=by simp [World.cell?,h,hlen]
    have hfr:w.frozen? ⟨g,k+i,none⟩=false:=by simp [World.frozen?,h]
    have h1:=hv v (by simp);have ih:=run_storeCells r (setBlk w g (cs.setIfInBounds (k+i) v) t) (cs.setIfInBounds (k+i) v) k (i+1) (setBlk_at hg) (by simp at hk ⊢;omega) (fun u hu=>hv u (by simp [hu]));rw [setBlk_setBlk] at ih;have hfold:(v::r).zipIdx.foldl (fun c p=>c.setIfInBounds (k+i+p.2) p.1) cs=r.zipIdx.foldl (fun c p=>c.setIfInBounds (k+(i+1)+p.2) p.1) (cs.setIfInBounds (k+i) v):=by
      rw [List.zipIdx_cons,List.foldl_cons,Nat.zero_add];rw [show k+i+0=k+i from rfl];have: ∀(r:List Value) (m:Nat) (c:Array Value),(r.zipIdx (m+1)).foldl (fun c p=>c.setIfInBounds (k+i+p.2) p.1) c=(r.zipIdx m).foldl (fun c p=>c.setIfInBounds (k+(i+1)+p.2) p.1) c:=by
        intro r
        induction r with
        | nil=>intro m c;rfl
        | cons x r ihr=>
          intro m c;rw [List.zipIdx_cons,List.zipIdx_cons,List.foldl_cons,List.foldl_cons,ihr];rw [show k+i+(m+1)=k+(i+1)+m from by omega]
      exact this r 0 _
    rw [hfold];have hrun:(store ((Addr.mk g k none).add i) v).run P w= .ok () (setBlk w g (cs.setIfInBounds (k+i) v) t):=by
      rw [hadd,← setCell_setBlk h];cases v <;> simp [Value.oneCell'] at h1 <;> simp [store,Sem.run,hcell,hfr]
    unfold storeCells;rw [Sem.run_bind,hrun];exact ih
theorem evs {T:Array Value} {n:Nat} {l:List (Nat×Value)} (E:Env T n l) (ds:List Deferred): ∀{az:List Operand} {vs:List Value},az.map (ev l)=vs.map some→az.map (Act.mk T ds).eval=vs
  | [],[],_=>rfl
  | [],_::_,h=>by cases h
  | _::_,[],h=>by cases h
  | a::az,v::vs,h=>by
    simp only [List.map_cons,List.cons.injEq] at h;rw [List.map_cons,E.ev h.1 ds,evs E ds h.2]
theorem evsP {T:Array Value} {n:Nat} {l:List (Nat×Value)} (E:Env T n l) (ds:List Deferred): ∀{az:List (Nat×Operand)} {vs:List (Nat×Value)},az.map (fun p=>(p.1,ev l p.2))=vs.map (fun p=>(p.1,some p.2))→az.map (fun p=>(p.1,(Act.mk T ds).eval p.2))=vs
  | [],[],_=>rfl
  | [],_::_,h=>by cases h
  | _::_,[],h=>by cases h
  | a::az,v::vs,h=>by
    simp only [List.map_cons,List.cons.injEq,Prod.mk.injEq] at h;rw [List.map_cons,E.ev h.1.2 ds,evsP E ds h.2,h.1.1]
theorem dv_build {t:Nat} {parts:List (Nat×Operand)} {vs:List (Nat×Value)} {C:Array Value} (E:Env T n l) (ho:o.op= .build t parts.toArray) (hv:parts.map (fun p=>(p.1,ev l p.2))=vs.map (fun p=>(p.1,some p.2))) (hC:P.built t vs=some C):Dv P o ⟨T,ds⟩ w (.agg C) w:=by
  refine dv_of (by unfold execOp;rw [ho]) ?_;refine run_build w t _ C ?_;have h1:=evsP E ds hv;rw [← hC]
  congr 1
  rw [← h1];simp
theorem dk_store {t:Nat} {x y:Operand} {g i:Nat} {v:Value} {cs:Array Value} {tb:Nat} (E:Env T n l) (ho:o.op= .store t x y) (hx:ev l x=some (.pointer (some ⟨g,i,none⟩))) (hy:ev l y=some v) (h1:v.oneCell'=true) (ht:(P.info? t).map (·.size)=some 1) (hb:w.heap[g]? =some (.cells cs tb (0,0))) (hi:Nat.blt i cs.size=true):Dk P o ⟨T,ds⟩ w (setBlk w g (cs.setIfInBounds i v) tb):=by
  unfold Dk execOp;rw [ho];simp only [E.ev hx ds,E.ev hy ds];have hi':i<cs.size:=by simpa using hi
  have hcells:v.cells=#[v]:=by cases v <;> simp [Value.oneCell'] at h1 <;> rfl
  have h2:=run_storeCells (P:=P) [v] w cs i 0 hb (by simp;omega) (by simp [h1]);simp [storeCells,go_sem] at h2;have h3:(storeVar t ⟨g,i,none⟩ v).run P w= .ok () (setBlk w g (cs.setIfInBounds i v) tb):=by
    unfold storeVar;rw [hcells];simp [run_size ht,storeCells,h2,go_sem]
  simp only [Instr.storeAt,Instr.sureAddr];rw [show ((do storeVar t (← pure (Addr.mk g i none)) v):Sem Unit)=storeVar t ⟨g,i,none⟩ v from rfl];simp only [Sem.run_bind,h3];rfl
theorem dk_storeRow {t k:Nat} {x y:Operand} {g i:Nat} {vs cs:Array Value} {tb:Nat} (E:Env T n l) (ho:o.op= .store t x y) (hx:ev l x=some (.pointer (some ⟨g,i,none⟩))) (hy:ev l y=some (.agg vs)) (h1:vs.toList.all (·.oneCell')=true) (ht:(P.info? t).map (·.size)=some k) (hk:vs.size=k) (hb:w.heap[g]? =some (.cells cs tb (0,0))) (hi:i+k≤cs.size):Dk P o ⟨T,ds⟩ w (setBlk w g (putRow cs i vs.toList) tb):=by
  unfold Dk execOp;rw [ho];simp only [E.ev hx ds,E.ev hy ds];have h2:=run_storeCells (P:=P) vs.toList w cs i 0 hb (by simp;omega) (fun v hv=>by have:=List.all_eq_true.1 h1 v hv;exact this);simp at h2;simp [Instr.storeAt,Instr.sureAddr,storeVar,run_size ht,Value.cells,hk,h2,putRow,go_sem]
theorem putRow_get (cs:Array Value) (k:Nat): ∀(vs:List Value) (m:Nat) (c:Array Value),(∀j,j<m→True)→∀j,((vs.zipIdx m).foldl (fun c p=>c.setIfInBounds (k+p.2) p.1) c).size=c.size∧((vs.zipIdx m).foldl (fun c p=>c.setIfInBounds (k+p.2) p.1) c)[j]? =(if k+m≤j∧j<k+m+vs.length∧j<c.size then vs[j-(k+m)]? else c[j]?)
  | [],m,c,_,j=>by
    refine ⟨rfl,?_⟩;rw [if_neg (by simp;omega)];rfl
  | v::r,m,c,_,j=>by
    rw [List.zipIdx_cons,List.foldl_cons];obtain ⟨h1,h2⟩:=putRow_get cs k r (m+1) (c.setIfInBounds (k+m) v) (fun _ _=>trivial) j;refine ⟨by rw [h1];simp,?_⟩;rw [h2];simp only [Array.size_setIfInBounds,List.length_cons];by_cases e:j=k+m
    · subst e
      rw [if_neg (by omega)];by_cases hs:k+m<c.size
      · rw [if_pos ⟨by omega,by omega,hs⟩]
        simp [hs]
      · rw [if_neg (by omega)]
        simp [hs]
    · by_cases hin:k+(m+1)≤j∧j<k+(m+1)+r.length∧j<c.size
      · rw [if_pos hin,if_pos (by omega),show j-(k+m)=(j-(k+(m+1)))+1 from by omega,List.getElem?_cons_succ]
      · rw [if_neg hin,Array.getElem?_setIfInBounds_ne (Ne.symm e),if_neg (by omega)]
theorem putRow_full {cs:Array Value} {vs:List Value} (h:vs.length=cs.size):putRow cs 0 vs=vs.toArray:=by
  apply Array.ext_getElem?;intro j;obtain ⟨_,h2⟩:=putRow_get cs 0 vs 0 cs (fun _ _=>trivial) j;unfold putRow;rw [h2];by_cases hj:j<cs.size
  · rw [if_pos (by omega)]
    simp
  · rw [if_neg (by omega)]
    simp [hj,show ¬j<vs.length from by omega]
theorem dk_storeAll {t k:Nat} {x y:Operand} {g:Nat} {vs:List Value} {cs:Array Value} {tb:Nat} (E:Env T n l) (ho:o.op= .store t x y) (hx:ev l x=some (.pointer (some ⟨g,0,none⟩))) (hy:ev l y=some (.agg vs.toArray)) (h1:vs.all (·.oneCell')=true) (ht:(P.info? t).map (·.size)=some k) (hk:vs.length=k) (hb:w.heap[g]? =some (.cells cs tb (0,0))) (hi:cs.size=k):Dk P o ⟨T,ds⟩ w (setBlk w g vs.toArray tb):=by
  have h:=dk_storeRow (P:=P) (ds:=ds) (k:=k) E ho hx hy (by simpa using h1) ht (by simpa using hk) hb (by omega);have e:putRow cs 0 vs.toArray.toList=vs.toArray:=by
    rw [List.toList_toArray];exact putRow_full (by omega)
  rw [e] at h;exact h
theorem wp_of_enter {Q:Exit→Act→World→Prop} {a:Act} {f:FuncId} {args:Array Value} {K:Act→World→Prop} {R:Value→World→Prop} (hr:(execOp a.eval o).run P w= .ok (.enter f args) w) (h:Calls P f args w (fun e w1=> ∃v,e= .returned v∧R v w1)) (hK: ∀v w1,R v w1→K (a.put o.dst v) w1):o.wp P a w K Q:=by
  unfold Oper.wp;rw [hr,Oper.upon_enter];refine h.mono fun e w2 hh=> ?_;obtain ⟨v,rfl,hR⟩:=hh;exact hK v w2 hR
theorem ru_call {ops:Array Oper} {Q:Exit→Act→World→Prop} {f:FuncId} {fn:Func} {az:List Operand} {ts:Array TypeId} {args:List Value} {R:Value→World→Prop} (E:Env T n l) (hg:Region.wanted o (yielded ops T)=true) (ho:o.op= .call {callee:= .value (.func f),args:=az.toArray,argTypes:=ts}) (hargs:az.map (ev l)=args.map some)
    (hf:P.funcs[f]? =some fn) (hname:(fn.name== "runtime.NumGoroutine")=false) (hb:fn.body.isSome=true) (h:Calls P f args.toArray w (fun e w1=> ∃v,e= .returned v∧R v w1)):Ru P ops Q o ⟨T,ds⟩ w R:=Ru.of fun K hK=>by
  rw [if_pos hg];refine wp_of_enter (f:=f) (args:=args.toArray) ?_ h hK;have h1:=evs E ds hargs;have h2:fn.name≠ "runtime.NumGoroutine" :=by simpa using hname
  obtain ⟨c,hc⟩:=Option.isSome_iff_exists.1 hb;have h3:az.toArray.map (Act.mk T ds).eval=args.toArray:=by rw [← h1];simp
  unfold execOp;rw [ho];simp only [resolve,Act.eval,Deferred.ofValue];rw [show (az.toArray.map (Act.mk T ds).eval)=args.toArray from h3];simp [invoke,callFunc,hf,h2,hc,go_sem]
end
def Ret (P:Program) (f:FuncId) (args:Array Value) (w:World) (R:Value→World→Prop):Prop:=Calls P f args w (fun e w1=> ∃v,e= .returned v∧R v w1)
theorem Ret.mono {P:Program} {f:FuncId} {args:Array Value} {w:World} {R S:Value→World→Prop} (h:Ret P f args w R) (hs: ∀v w1,R v w1→S v w1):Ret P f args w S:=
  Calls.mono h (fun e w1 ⟨v,he,hR⟩=>⟨v,he,hs v w1 hR⟩)
def Post (P:Program) (fn:Func) (R:Value→World→Prop):Exit→Act→World→Prop:=bodyPost P fn (fun e w1=> ∃v,e= .returned v∧R v w1)
theorem enter {P:Program} {f:FuncId} {fn:Func} {c:Code} {n:Nat} {args:List Value} {w:World} {R:Value→World→Prop} (hf:P.funcs[f]? =some fn) (hb:fn.body=some c) (hn:(fn.ntmps==n && Nat.ble args.length n)=true)
    (k: ∀T,Env T n (lits args 0)→c.wp P (Post P fn R) ⟨T,[]⟩ w):Ret P f args.toArray w R:=by
  simp only [Bool.and_eq_true,beq_iff_eq] at hn;refine calls_of_wp hf hb ?_;have h:c.wp P (bodyPost P fn (fun e w1=> ∃v,e= .returned v∧R v w1)) ⟨args.toArray++Array.replicate (n-args.length) undef,[]⟩ w:=k _ (Env.start (l:=args) hn.2);rw [hn.1];exact h
section
variable {P:Program} {fn:Func} {R:Value→World→Prop} {T:Array Value} {n:Nat} {l:List (Nat×Value)} {w:World}
theorem post1_ret {t:Tmp} {v:Value} (E:Env T n l) (hr:fn.results=#[.tmp t]) (hv:lk l t=some v) (h:R v w):Post P fn R .ret ⟨T,[]⟩ w:=
  bodyPost_ret (v:=v) (by rw [results_tmp hr];have:=E.get hv;simp [this]) rfl ⟨v,rfl,h⟩
theorem post2_ret {t u:Tmp} {v x:Value} (E:Env T n l) (hr:fn.results=#[.tmp t,.tmp u]) (hv:lk l t=some v) (hx:lk l u=some x) (h:R (.tuple #[v,x]) w):Post P fn R .ret ⟨T,[]⟩ w:=
  bodyPost_ret (v:= .tuple #[v,x]) (by rw [results_tmp2 hr];have h1:=E.get hv;have h2:=E.get hx;simp [h1,h2]) rfl ⟨_,rfl,h⟩
theorem post0_normal (hr:fn.results=#[]) (h:R (.tuple #[]) w):Post P fn R .normal ⟨T,[]⟩ w:=
  bodyPost_end (v:= .tuple #[]) (by rw [results_none hr]) rfl ⟨_,rfl,h⟩
theorem run_loadRow {t k g:Nat} {vs:Array Value} (ht:aggB P t true=true) (hk:(P.info? t).map (·.size)=some k) (hs:vs.size=k) {tb:Nat} (hb:w.heap[g]? =some (.cells vs tb (0,0))):(loadVar t ⟨g,0,none⟩).run P w= .ok (.agg vs) w:=by
  have h1:=run_loadCells P w ⟨g,0,none⟩ k 0 #[] vs (fun j hj=>by rw [Nat.zero_add];exact row_cells hb j) hs;simp at h1;simp [loadVar,run_isAgg ht,run_size hk,loadCells,h1,go_sem]
theorem results_cell1 {p:Tmp} {ty:TypeId} (h:fn.results=#[.cell p ty]):(results fn T).run P w=((asAddr (T.getD p undef)).run P w).andThen fun a w1=>(loadVar ty a).run P w1:=by
  simp only [results,h];simp [Sem.run_bind,Result.andThen]
theorem postC_ret {p:Tmp} {ty k g tb:Nat} {vs:Array Value} (E:Env T n l) (hr:fn.results=#[.cell p ty]) (hp:lk l p=some (.pointer (some ⟨g,0,none⟩))) (ht:aggB P ty true=true) (hk:(P.info? ty).map (·.size)=some k) (hs:vs.size=k) (hb:w.heap[g]? =some (.cells vs tb (0,0))) (h:R (.agg vs) w):Post P fn R .ret ⟨T,[]⟩ w:=by
  refine bodyPost_ret (v:= .agg vs) ?_ rfl ⟨_,rfl,h⟩;have h1:=E.get hp;have h3:=run_loadRow (P:=P) ht hk hs hb;have h4:(T.getD p undef)= .pointer (some ⟨g,0,none⟩):=by simp [h1]
  rw [results_cell1 hr,h4];show (((Sem.pure (⟨g,0,none⟩:Addr)).run P w).andThen _)=_;simp only [Sem.run,Result.andThen,h3]
theorem postCT_ret {p u:Tmp} {ty k g tb:Nat} {vs:Array Value} {x:Value} (E:Env T n l) (hr:fn.results=#[.cell p ty,.tmp u]) (hp:lk l p=some (.pointer (some ⟨g,0,none⟩))) (hx:lk l u=some x) (ht:aggB P ty true=true) (hk:(P.info? ty).map (·.size)=some k) (hs:vs.size=k) (hb:w.heap[g]? =some (.cells vs tb (0,0))) (h:R (.tuple #[.agg vs,x]) w):Post P fn R .ret ⟨T,[]⟩ w:=by
  refine bodyPost_ret (v:= .tuple #[.agg vs,x]) ?_ rfl ⟨_,rfl,h⟩;have h1:=E.get hp;have h2:=E.get hx;have h3:=run_loadRow (P:=P) ht hk hs hb;have h4:(T.getD p undef)= .pointer (some ⟨g,0,none⟩):=by simp [h1]
  have h5:(T.getD u undef)=x:=by simp [h2]
  rw [results_cell_tmp hr,h4,h5];show (((Sem.pure (⟨g,0,none⟩:Addr)).run P w).andThen _)=_;simp only [Sem.run,Result.andThen,h3]
end
section
variable {P:Program} {Q:Exit→Act→World→Prop} {T:Array Value} {ds:List Deferred} {n:Nat} {l:List (Nat×Value)} {w:World}
theorem c_t {c:Operand} {x y:Code} {b:Bool} (E:Env T n l) (h:ev l c=some (.bool b)) (hb:b=true) (k:x.wp P Q ⟨T,ds⟩ w):(Code.cond c x y).wp P Q ⟨T,ds⟩ w:=wp_cond_true (by rw [E.ev h ds,hb]) k
theorem c_f {c:Operand} {x y:Code} {b:Bool} (E:Env T n l) (h:ev l c=some (.bool b)) (hb:b=false) (k:y.wp P Q ⟨T,ds⟩ w):(Code.cond c x y).wp P Q ⟨T,ds⟩ w:=wp_cond_false (by rw [E.ev h ds,hb]) k
theorem c_s {c:Operand} {x y:Code} {b:Bool} (E:Env T n l) (h:ev l c=some (.bool b)) (k:b=true→x.wp P Q ⟨T,ds⟩ w) (k2:b=false→y.wp P Q ⟨T,ds⟩ w):(Code.cond c x y).wp P Q ⟨T,ds⟩ w:=wp_cond_split (E.ev h ds) k k2
theorem loopM {c:Code} {a:Act} (I:Nat→Act→World→Prop) (m0:Nat) (h0:I m0 a w) (round: ∀m a w,I m a w→c.wp P (Exit.then (fun a1 w1=> ∃m1,m1<m∧I m1 a1 w1) Q) a w):(Code.loop c).wp P Q a w:=by
  intro b k cs;have key: ∀m a w,I m a w→∃e a1 w1,Q e a1 w1∧Arrives P (lone (b.at a (.code c:: .inLoop c::k)) cs w) b k cs e a1 w1:=by
    intro m
    induction m using Nat.strongRecOn with
    | _ m ih=>
      intro a w hI;obtain ⟨e,a₁,w₁,hq,harr⟩:=round m a w hI b (.inLoop c::k) cs;cases e with
      | normal=>
        obtain ⟨m1,hlt,hI1⟩:=hq;obtain ⟨e₂,a₂,w₂,hq₂,harr₂⟩:=ih m1 hlt a₁ w₁ hI1;exact ⟨e₂,a₂,w₂,hq₂,.of_steps (Steps.trans harr (.one step_inLoop)) harr₂⟩
      | exit id=>exact ⟨_,a₁,w₁,hq,.pass (x:= .inLoop c) rfl (fun _ _=> .inl (by simp)) harr⟩
      | goto l=>exact ⟨_,a₁,w₁,hq,.pass (x:= .inLoop c) rfl (fun _ _=> .inl (by simp)) harr⟩
      | ret=>exact ⟨_,a₁,w₁,hq,.pass (x:= .inLoop c) rfl (fun _ _=> .inl (by simp)) harr⟩
      | panic ch=>exact ⟨_,a₁,w₁,hq,.pass (x:= .inLoop c) rfl (fun _ _=> .inl (by simp)) harr⟩
      | outgrown=>exact ⟨_,a₁,w₁,hq,.pass (x:= .inLoop c) rfl (fun _ _=> .inl (by simp)) harr⟩
  obtain ⟨e,a1,w1,hq,harr⟩:=key m0 a w h0;exact ⟨e,a1,w1,hq,.of_steps (.one step_loop) harr⟩
variable {ops:Array Oper} {o:Oper} {rest:List Oper}
theorem seq_r0 {R:Value→World→Prop} (E:Env T n l) (h:Ru P ops Q o ⟨T,ds⟩ w R) (hd:o.dst=none) (k: ∀v w1,R v w1→wpList P ops Q rest ⟨T,ds⟩ w1):wpList P ops Q (o::rest) ⟨T,ds⟩ w:=by
  refine h.list (fun v w1 hv=> ?_);rw [hd];exact k v w1 hv
theorem seq_st {g t:Nat} {cs:Array Value} {cs2:Array Value} (h:Dk P o ⟨T,ds⟩ w (setBlk w g cs2 t)) (hg:o.guard=none) (hd:o.dst=none)
    (k: ∀w1,Mv [t] g w w1→(∀b x,w.heap[b]? =some x→b≠g→w1.heap[b]? =some x)→w1.heap[g]? =some (.cells cs2 t (0,0))→wpList P ops Q rest ⟨T,ds⟩ w1) (hb:w.heap[g]? =some (.cells cs t (0,0)):=by assumption):wpList P ops Q (o::rest) ⟨T,ds⟩ w:=
  seq_k h hg hd (k _ (mv_setBlk hb) (fun b x hx hne=>setBlk_keep hx hne) (setBlk_at (heap_lt hb)))
theorem ru_alloc {t:TypeId} {z:Value} (ho:o.op= .alloc t) (hg:o.guard=none) (hz:(P.info? t).bind (·.zero)=some z):
    Ru P ops Q o ⟨T,ds⟩ w (fun v w1=> ∃g,v= .pointer (some ⟨g,0,none⟩)∧Mv [] 0 w w1∧w.heap.size≤g∧g=w.heap.size∧w1.heap[g]? =some (.cells z.cells t (0,0))):=
  Ru.v (dv_alloc ho hz) hg ⟨_,rfl,mv_alloc _ _ _ _,Nat.le_refl _,rfl,heap_new _ _⟩
theorem ru_box {t:TypeId} {x:Operand} {v:Value} (E:Env T n l) (ho:o.op= .box t x) (hg:o.guard=none) (hx:ev l x=some v):
    Ru P ops Q o ⟨T,ds⟩ w (fun u w1=> ∃g,u= .pointer (some ⟨g,0,none⟩)∧Mv [] 0 w w1∧w.heap.size≤g∧g=w.heap.size∧w1.heap[g]? =some (.cells v.cells t (0,0))):=
  Ru.v (dv_box E ho hx) hg ⟨_,rfl,mv_alloc _ _ _ _,Nat.le_refl _,rfl,heap_new _ _⟩
def underB (P:Program) (t:Nat) (d:TypeDesc→Bool):Bool:=match P.underlying t with
  | some x=>d x
  | none=>false
def isSlice (e:Nat):TypeDesc→Bool
  | .slice x=>x==e
  | _=>false
theorem under_slice {t e:Nat} (h:underB P t (isSlice e)=true):P.underlying t=some (.slice e):=by
  unfold underB at h;cases hu:P.underlying t with
  | none=>rw [hu] at h;cases h
  | some d=>rw [hu] at h;cases d <;> simp [isSlice] at h;rw [h]
theorem ru_buildSlice {t e len:Nat} {parts:List (Nat×Operand)} {vs:List (Nat×Value)} {C:Array Value} {k:Nat} {z:Value} (E:Env T n l) (ho:o.op= .buildSlice t len parts.toArray) (hg:o.guard=none) (hv:parts.map (fun p=>(p.1,ev l p.2))=vs.map (fun p=>(p.1,some p.2)))
    (ht:underB P t (isSlice e)=true) (he:(P.info? e).map (fun i=>(i.size,i.zero))=some (k,some z)) (hC:(Nat.ble (len*k) 16777216 && !(len*k==0))=true)
    (hf:Instr.fill (fun i=>some (i*k,k)) ((Array.range (len*k)).map (z.cells[· % z.cells.size]!)) vs=some C):
    Ru P ops Q o ⟨T,ds⟩ w (fun u w1=> ∃g,u= .slice (some ⟨g,0,none⟩) len len∧Mv [] 0 w w1∧w.heap.size≤g∧g=w.heap.size∧w1.heap[g]? =some (.cells C e (0,0))):=by
  have hu:=under_slice ht;cases hi:P.info? e with
  | none=>rw [hi] at he;cases he
  | some ie=>
    rw [hi] at he;simp only [Option.map_some,Option.some.injEq,Prod.mk.injEq] at he;obtain ⟨rfl,hz⟩:=he;simp only [Bool.and_eq_true,Bool.not_eq_true',beq_eq_false_iff_ne] at hC;have h1: ¬len*ie.size > 2^24:=by
      have:=hC.1;have h3:len*ie.size≤16777216:=Nat.le_of_ble_eq_true this;omega
    have hr:=run_buildSlice (P:=P) w t e len vs.toArray C ie z hu hi hz h1 hC.2 (by simpa using hf);refine Ru.v (v:= .slice (some ⟨w.heap.size,0,none⟩) len len) (w1:=w.alloc (.cells C e)) (dv_of (by unfold execOp;rw [ho]) ?_) hg ⟨_,rfl,mv_alloc _ _ _ _,Nat.le_refl _,rfl,heap_new _ _⟩;have h2:=evsP E ds hv;rw [← hr]
    congr 2
    rw [← h2];simp
theorem ru_ret {f:FuncId} {fn:Func} {az:List Operand} {ts:Array TypeId} {args:List Value} {R:Value→World→Prop} (E:Env T n l) (hg:Region.wanted o (yielded ops T)=true) (ho:o.op= .call {callee:= .value (.func f),args:=az.toArray,argTypes:=ts}) (hargs:az.map (ev l)=args.map some)
    (hf:P.funcs[f]? =some fn) (hname:(fn.name== "runtime.NumGoroutine")=false) (hb:fn.body.isSome=true) (h:Ret P f args.toArray w R):Ru P ops Q o ⟨T,ds⟩ w R:=ru_call E hg ho hargs hf hname hb h
end
section
variable {P:Program} {o:Oper} {T:Array Value} {ds:List Deferred} {n:Nat} {l:List (Nat×Value)} {w:World}
theorem dv_pickT {c x y:Operand} {b:Bool} {u v:Value} (E:Env T n l) (ho:o.op= .pick c x y) (hc:ev l c=some (.bool b)) (hx:ev l x=some u) (hy:ev l y=some v) (hb:b=true):Dv P o ⟨T,ds⟩ w u w:=by
  have h:=dv_pick (P:=P) (w:=w) (ds:=ds) E ho hc hx hy;rw [hb] at h;exact h
theorem dv_pickF {c x y:Operand} {b:Bool} {u v:Value} (E:Env T n l) (ho:o.op= .pick c x y) (hc:ev l c=some (.bool b)) (hx:ev l x=some u) (hy:ev l y=some v) (hb:b=false):Dv P o ⟨T,ds⟩ w v w:=by
  have h:=dv_pick (P:=P) (w:=w) (ds:=ds) E ho hc hx hy;rw [hb] at h;exact h
theorem dv_loadAll {t k g tb:Nat} {x:Operand} {vs:Array Value} (E:Env T n l) (ho:o.op= .load t x) (hx:ev l x=some (.pointer (some ⟨g,0,none⟩))) (ht:aggB P t true=true) (hk:(P.info? t).map (·.size)=some k) (hs:vs.size=k) (hb:w.heap[g]? =some (.cells vs tb (0,0))):Dv P o ⟨T,ds⟩ w (.agg vs) w:=
  dv_loadRow E ho hx ht hk hs (fun j _=>row_cells hb j)
theorem run_part {t:Nat} {b:Bool} {cs:Array Value} {off:Nat} {v:Value} (ht:aggB P t b=true) (hv:(match b with | true=>some (.agg (cs.extract off (off+(P.cellsOf t)))) | false=>cs[off]?)=some v):(part t cs off).run P w= .ok v w:=by
  cases b with
  | true=>
    simp only [Option.some.injEq] at hv;subst hv;cases hi:P.info? t with
    | none=>
      unfold aggB at ht;have:P.underlying t=none:=by simp [Program.underlying,hi]
      rw [this] at ht;cases ht
    | some i=>simp [part,run_isAgg ht,sizeOf,typeInfo,hi,Program.cellsOf,go_sem]
  | false=>
    simp only at hv;simp [part,run_isAgg ht,hv,go_sem]
theorem dv_extract {x:Operand} {i:Nat} {vs:Array Value} {v:Value} (E:Env T n l) (ho:o.op= .extract x i) (hx:ev l x=some (.tuple vs)) (hv:vs[i]? =some v):Dv P o ⟨T,ds⟩ w v w:=by
  refine dv_of (by unfold execOp;rw [ho]) ?_;simp only [E.ev hx ds];simp [Instr.extract,hv,go_sem]
def notIface:TypeDesc→Bool
  | .interface _=>false
  | _=>true
theorem dv_makeIf {t:Nat} {x:Operand} {v:Value} (E:Env T n l) (ho:o.op= .makeInterface t x) (hx:ev l x=some v) (ht:underB P t notIface=true):Dv P o ⟨T,ds⟩ w (.iface t v) w:=by
  refine dv_of (by unfold execOp;rw [ho]) ?_;simp only [E.ev hx ds];unfold underB at ht;cases hu:P.underlying t with
  | none=>rw [hu] at ht;cases ht
  | some d=>rw [hu] at ht;cases d <;> simp [notIface] at ht <;> simp [Instr.makeInterface,run_under hu,go_sem]
def isPtr:TypeDesc→Bool
  | .pointer _=>true
  | _=>false
def isIface:TypeDesc→Bool
  | .interface _=>true
  | _=>false
theorem under_ptr {t:Nat} (h:underB P t isPtr=true): ∃e,P.underlying t=some (.pointer e):=by
  unfold underB at h;cases hu:P.underlying t with
  | none=>rw [hu] at h;cases h
  | some d=>rw [hu] at h;cases d <;> simp [isPtr] at h;exact ⟨_,rfl⟩
theorem under_iface {t:Nat} (h:underB P t isIface=true): ∃m,P.underlying t=some (.interface m):=by
  unfold underB at h;cases hu:P.underlying t with
  | none=>rw [hu] at h;cases h
  | some d=>rw [hu] at h;cases d <;> simp [isIface] at h;exact ⟨_,rfl⟩
theorem guard_plain {op:BinOp} {t:Nat} {x y:Operand} {a b v:Value} {w1:World} (h:(binOp op t a b).run P w= .ok v w1) (hg:eqGuard op t x y a b=pure ()):(do eqGuard op t x y a b;binOp op t a b:Sem Value).run P w= .ok v w1:=by
  rw [hg];exact h
theorem dv_eqlPtrNilS {t t2:Nat} {x y:Operand} {a:Addr} (E:Env T n l) (ho:o.op= .binOp .eql t x y t2) (hx:ev l x=some (.pointer (some a))) (hy:ev l y=some (.pointer none)) (ht:underB P t isPtr=true):Dv P o ⟨T,ds⟩ w (.bool false) w:=by
  refine dv_of (by unfold execOp;rw [ho]) ?_;simp only [E.ev hx ds,E.ev hy ds];obtain ⟨e,hu⟩:=under_ptr ht;have hp:P.underlying t=some (.pointer (P.pointee t)):=by simp [Program.pointee,hu]
  have h:=run_eql_pointer_nil (P:=P) w t (some a) hp;simp only [Option.isNone_some,Option.isNone_none,Bool.not_false,Bool.not_true] at h;exact guard_plain h rfl
theorem dv_eqlPtrNilN {t t2:Nat} {x y:Operand} (E:Env T n l) (ho:o.op= .binOp .eql t x y t2) (hx:ev l x=some (.pointer none)) (hy:ev l y=some (.pointer none)) (ht:underB P t isPtr=true):Dv P o ⟨T,ds⟩ w (.bool true) w:=by
  refine dv_of (by unfold execOp;rw [ho]) ?_;simp only [E.ev hx ds,E.ev hy ds];obtain ⟨e,hu⟩:=under_ptr ht;have hp:P.underlying t=some (.pointer (P.pointee t)):=by simp [Program.pointee,hu]
  have h:=run_eql_pointer_nil (P:=P) w t (none) hp;simp only [Option.isNone_some,Option.isNone_none,Bool.not_false,Bool.not_true] at h;exact guard_plain h rfl
theorem dv_neqPtrNilS {t t2:Nat} {x y:Operand} {a:Addr} (E:Env T n l) (ho:o.op= .binOp .neq t x y t2) (hx:ev l x=some (.pointer (some a))) (hy:ev l y=some (.pointer none)) (ht:underB P t isPtr=true):Dv P o ⟨T,ds⟩ w (.bool true) w:=by
  refine dv_of (by unfold execOp;rw [ho]) ?_;simp only [E.ev hx ds,E.ev hy ds];obtain ⟨e,hu⟩:=under_ptr ht;have hp:P.underlying t=some (.pointer (P.pointee t)):=by simp [Program.pointee,hu]
  have h:=run_neq_pointer_nil (P:=P) w t (some a) hp;simp only [Option.isNone_some,Option.isNone_none,Bool.not_false,Bool.not_true] at h;exact guard_plain h rfl
theorem dv_neqPtrNilN {t t2:Nat} {x y:Operand} (E:Env T n l) (ho:o.op= .binOp .neq t x y t2) (hx:ev l x=some (.pointer none)) (hy:ev l y=some (.pointer none)) (ht:underB P t isPtr=true):Dv P o ⟨T,ds⟩ w (.bool false) w:=by
  refine dv_of (by unfold execOp;rw [ho]) ?_;simp only [E.ev hx ds,E.ev hy ds];obtain ⟨e,hu⟩:=under_ptr ht;have hp:P.underlying t=some (.pointer (P.pointee t)):=by simp [Program.pointee,hu]
  have h:=run_neq_pointer_nil (P:=P) w t (none) hp;simp only [Option.isNone_some,Option.isNone_none,Bool.not_false,Bool.not_true] at h;exact guard_plain h rfl
theorem dv_eqlIfNilS {t t2:Nat} {x:Operand} {a:Nat} {u:Value} (E:Env T n l) (ho:o.op= .binOp .eql t x (.const .nilIface) t2) (hx:ev l x=some (.iface a u)) (hy:ev l (.const .nilIface)=some .nilIface) (ht:underB P t isIface=true):Dv P o ⟨T,ds⟩ w (.bool false) w:=by
  refine dv_of (by unfold execOp;rw [ho]) ?_;simp only [E.ev hx ds,E.ev hy ds];obtain ⟨e,hu⟩:=under_iface ht;have hp:P.underlying t=some (.interface (P.methodsAt t)):=by simp [Program.methodsAt,hu]
  have h:=run_eql_held_nil (P:=P) w t a u hp;exact guard_plain h rfl
theorem dv_eqlIfNilN {t t2:Nat} {x:Operand} (E:Env T n l) (ho:o.op= .binOp .eql t x (.const .nilIface) t2) (hx:ev l x=some .nilIface) (hy:ev l (.const .nilIface)=some .nilIface) (ht:underB P t isIface=true):Dv P o ⟨T,ds⟩ w (.bool true) w:=by
  refine dv_of (by unfold execOp;rw [ho]) ?_;simp only [E.ev hx ds,E.ev hy ds];obtain ⟨e,hu⟩:=under_iface ht;have hp:P.underlying t=some (.interface (P.methodsAt t)):=by simp [Program.methodsAt,hu]
  have h:=run_eql_nil_nil (P:=P) w t hp;exact guard_plain h (by cases x <;> rfl)
theorem dv_neqIfNilS {t t2:Nat} {x:Operand} {a:Nat} {u:Value} (E:Env T n l) (ho:o.op= .binOp .neq t x (.const .nilIface) t2) (hx:ev l x=some (.iface a u)) (hy:ev l (.const .nilIface)=some .nilIface) (ht:underB P t isIface=true):Dv P o ⟨T,ds⟩ w (.bool true) w:=by
  refine dv_of (by unfold execOp;rw [ho]) ?_;simp only [E.ev hx ds,E.ev hy ds];obtain ⟨e,hu⟩:=under_iface ht;have hp:P.underlying t=some (.interface (P.methodsAt t)):=by simp [Program.methodsAt,hu]
  have h:=run_neq_held_nil (P:=P) w t a u hp;exact guard_plain h rfl
theorem dv_neqIfNilN {t t2:Nat} {x:Operand} (E:Env T n l) (ho:o.op= .binOp .neq t x (.const .nilIface) t2) (hx:ev l x=some .nilIface) (hy:ev l (.const .nilIface)=some .nilIface) (ht:underB P t isIface=true):Dv P o ⟨T,ds⟩ w (.bool false) w:=by
  refine dv_of (by unfold execOp;rw [ho]) ?_;simp only [E.ev hx ds,E.ev hy ds];obtain ⟨e,hu⟩:=under_iface ht;have hp:P.underlying t=some (.interface (P.methodsAt t)):=by simp [Program.methodsAt,hu]
  have h:=run_neq_nil_nil (P:=P) w t hp;exact guard_plain h (by cases x <;> rfl)
theorem dv_bits {b:BinOp} {k:IntKind} {t t2:TypeId} {x y:Operand} {p q c:Int} (E:Env T n l) (ho:o.op= .binOp b t x y t2) (hx:ev l x=some (.int k p)) (hy:ev l y=some (.int k q)) (hb:(b matches .and | .or | .xor | .andNot)=true) (hc:bits b k p q=c):Dv P o ⟨T,ds⟩ w (.int k c) w:=by
  refine dv_of (by unfold execOp;rw [ho]) ?_;simp only [E.ev hx ds,E.ev hy ds];subst hc;cases b <;> simp at hb <;> simp [eqGuard,binOp,Op.intBits,bits,go_sem]
theorem dv_shl {k yk:IntKind} {t t2:TypeId} {x y:Operand} {p q c:Int} (E:Env T n l) (ho:o.op= .binOp .shl t x y t2) (hx:ev l x=some (.int k p)) (hy:ev l y=some (.int yk q)) (h0:0≤q) (hc:k.wrap (p*2^(min q.toNat k.bits))=c):Dv P o ⟨T,ds⟩ w (.int k c) w:=by
  refine dv_of (by unfold execOp;rw [ho]) ?_;simp only [E.ev hx ds,E.ev hy ds];have: ¬q<0:=by omega
  simp only [eqGuard,binOp,Op.shift,this,if_false,hc];rfl
theorem dv_shr {k yk:IntKind} {t t2:TypeId} {x y:Operand} {p q c:Int} (E:Env T n l) (ho:o.op= .binOp .shr t x y t2) (hx:ev l x=some (.int k p)) (hy:ev l y=some (.int yk q)) (h0:0≤q) (hc:p.fdiv (2^(min q.toNat k.bits))=c):Dv P o ⟨T,ds⟩ w (.int k c) w:=by
  refine dv_of (by unfold execOp;rw [ho]) ?_;simp only [E.ev hx ds,E.ev hy ds];have: ¬q<0:=by omega
  simp only [eqGuard,binOp,Op.shift,this,if_false,hc];rfl
def isInt (k:IntKind):TypeDesc→Bool
  | .int x=>x==k
  | _=>false
def isInts:TypeDesc→Bool
  | .int _=>true
  | _=>false
theorem under_int {t:Nat} {k:IntKind} (h:underB P t (isInt k)=true):P.underlying t=some (.int k):=by
  unfold underB at h;cases hu:P.underlying t with
  | none=>rw [hu] at h;cases h
  | some d=>rw [hu] at h;cases d <;> simp [isInt] at h;rw [h]
theorem under_ints {t:Nat} (h:underB P t isInts=true): ∃k,P.underlying t=some (.int k):=by
  unfold underB at h;cases hu:P.underlying t with
  | none=>rw [hu] at h;cases h
  | some d=>rw [hu] at h;cases d <;> simp [isInts] at h;exact ⟨_,rfl⟩
theorem dv_cvt {a b:Nat} {k k0:IntKind} {x:Operand} {p c:Int} (E:Env T n l) (ho:o.op= .convert a b x) (hx:ev l x=some (.int k0 p)) (ha:underB P a isInts=true) (hb:underB P b (isInt k)=true) (hc:k.wrap p=c):Dv P o ⟨T,ds⟩ w (.int k c) w:=by
  refine dv_of (by unfold execOp;rw [ho]) ?_;simp only [E.ev hx ds];obtain ⟨k1,hu⟩:=under_ints ha;simp [convert,run_under hu,run_under (under_int hb),Conv.intToInt,hc,go_sem]
def isStr:TypeDesc→Bool
  | .string=>true
  | _=>false
theorem under_str {t:Nat} (h:underB P t isStr=true):P.underlying t=some .string:=by
  unfold underB at h;cases hu:P.underlying t with
  | none=>rw [hu] at h;cases h
  | some d=>rw [hu] at h;cases d <;> simp [isStr] at h;rfl
def isSlices:TypeDesc→Bool
  | .slice _=>true
  | _=>false
theorem under_slices {t:Nat} (h:underB P t isSlices=true): ∃e,P.underlying t=some (.slice e):=by
  unfold underB at h;cases hu:P.underlying t with
  | none=>rw [hu] at h;cases h
  | some d=>rw [hu] at h;cases d <;> simp [isSlices] at h;exact ⟨_,rfl⟩
theorem dv_lenSl {t:Nat} {x:Operand} {a:Option Addr} {m c:Nat} (E:Env T n l) (ho:o.op= .call {callee:= .builtin .len,args:=#[x],argTypes:=#[t]}) (hx:ev l x=some (.slice a m c)) (ht:underB P t isSlices=true):Dv P o ⟨T,ds⟩ w (.int .i64 (m:Int)) w:=by
  unfold Dv execOp;rw [ho];obtain ⟨e,hu⟩:=under_slices ht;simp only [resolve,List.map_toArray,List.map_cons,List.map_nil,E.ev hx ds];simp [invoke,builtin,Builtin.len_,run_under hu,goInt,go_sem]
theorem dv_lenStr {t:Nat} {x:Operand} {s:ByteArray} (E:Env T n l) (ho:o.op= .call {callee:= .builtin .len,args:=#[x],argTypes:=#[t]}) (hx:ev l x=some (.string s)) (ht:underB P t isStr=true):Dv P o ⟨T,ds⟩ w (.int .i64 (s.size:Int)) w:=by
  unfold Dv execOp;rw [ho];simp only [resolve,List.map_toArray,List.map_cons,List.map_nil,E.ev hx ds];simp [invoke,builtin,Builtin.len_,run_under (under_str ht),goInt,go_sem]
theorem toList_eq (a b:ByteArray):(a.toList==b.toList)=decide (a=b):=by
  rw [Bool.eq_iff_iff];simp only [beq_iff_eq,decide_eq_true_eq];exact ⟨fun h=>by
    have h2:a.data.toList=b.data.toList:=by
      rw [ByteArray.toList_eq,ByteArray.toList_eq] at h;exact h
    cases a;cases b
    simp only [ByteArray.mk.injEq];exact Array.toList_inj.1 h2,fun h=>by rw [h]⟩
theorem dv_streql {t t2:TypeId} {x y:Operand} {a b:ByteArray} (E:Env T n l) (ho:o.op= .binOp .eql t x y t2) (hx:ev l x=some (.string a)) (hy:ev l y=some (.string b)):Dv P o ⟨T,ds⟩ w (.bool (decide (a=b))) w:=by
  refine dv_of (by unfold execOp;rw [ho]) ?_;simp only [E.ev hx ds,E.ev hy ds];simp only [eqGuard,binOp,Op.stringOp,toList_eq];rfl
theorem dv_strneq {t t2:TypeId} {x y:Operand} {a b:ByteArray} (E:Env T n l) (ho:o.op= .binOp .neq t x y t2) (hx:ev l x=some (.string a)) (hy:ev l y=some (.string b)):Dv P o ⟨T,ds⟩ w (.bool (!decide (a=b))) w:=by
  refine dv_of (by unfold execOp;rw [ho]) ?_;simp only [E.ev hx ds,E.ev hy ds];simp only [eqGuard,binOp,Op.stringOp,toList_eq];rfl
theorem dv_cat {t t2:TypeId} {x y:Operand} {a b:ByteArray} (E:Env T n l) (ho:o.op= .binOp .add t x y t2) (hx:ev l x=some (.string a)) (hy:ev l y=some (.string b)) (hs:a.size+b.size<9223372036854775807):Dv P o ⟨T,ds⟩ w (.string (a++b)) w:=by
  refine dv_of (by unfold execOp;rw [ho]) ?_;simp only [E.ev hx ds,E.ev hy ds];have h1: ¬(((a.size+b.size:Nat):Int) > IntKind.i64.max):=by simp [IntKind.max,IntKind.signed,IntKind.bits];omega
  simp only [eqGuard,binOp,Op.stringOp,h1,if_false];rfl
def isArr (m k:Nat) (P:Program):TypeDesc→Bool
  | .array x e=>x==m && (match P.info? e with | some i=>i.size==k | none=>false)
  | _=>false
theorem dv_indexArr {t k i m:Nat} {x y:Operand} {ky:IntKind} {a b:Addr} (E:Env T n l) (ho:o.op= .indexAddr t x y) (hx:ev l x=some (.pointer (some a))) (hy:ev l y=some (.int ky (i:Int))) (hs:underB P t (isArr m k P)=true) (hi:i<m) (hb:a.add (i*k)=b):Dv P o ⟨T,ds⟩ w (.pointer (some b)) w:=by
  refine dv_of (by unfold execOp;rw [ho]) ?_;simp only [E.ev hx ds,E.ev hy ds];unfold underB at hs;cases hu:P.underlying t with
  | none=>rw [hu] at hs;cases hs
  | some d=>
    rw [hu] at hs;cases d <;> simp only [isArr,Bool.false_eq_true] at hs
    rename_i len e;simp only [Bool.and_eq_true,beq_iff_eq] at hs;obtain ⟨rfl,hs⟩:=hs;cases hi2:P.info? e with
    | none=>rw [hi2] at hs;cases hs
    | some inf=>
      rw [hi2] at hs;have h2:inf.size=k:=by simpa using hs
      simp [Instr.indexAt,Instr.sureAddr,asIntOf,run_under hu,hi,sizeOf,typeInfo,hi2,h2,hb,go_sem]
end
theorem add_plain (g o k:Nat):(Addr.mk g o none).add k=⟨g,o+k,none⟩:=by
  unfold Addr.add
  split
  · rename_i e;subst e;rfl
  · rfl
theorem wrap_i64 {x:Int} (h0: -9223372036854775808≤x) (h1:x<9223372036854775808):IntKind.i64.wrap x=x:=by rw [IntKind.wrap_i64];omega
theorem wrap_i32 {x:Int} (h0: -2147483648≤x) (h1:x<2147483648):IntKind.i32.wrap x=x:=by rw [IntKind.wrap_i32];omega
theorem wrap_u64 {x:Int} (h0:0≤x) (h1:x<18446744073709551616):IntKind.u64.wrap x=x:=by simp [IntKind.wrap,IntKind.bits,IntKind.signed];omega
theorem wrap_u32 {x:Int} (h0:0≤x) (h1:x<4294967296):IntKind.u32.wrap x=x:=by simp [IntKind.wrap,IntKind.bits,IntKind.signed];omega
theorem quo_i64 {a b:Int} (h0:0≤a) (h1:a<9223372036854775808∧0<b):IntKind.i64.wrap (a.tdiv b)=a / b:=by
  rw [Int.tdiv_eq_ediv_of_nonneg h0];have h2:=Int.ediv_nonneg h0 (Int.le_of_lt h1.2);have h3:=Int.ediv_le_self b h0;exact wrap_i64 (by omega) (by omega)
theorem rem_i64 {a b:Int} (h0:0≤a) (h1:0<b):a.tmod b=a % b:=Int.tmod_eq_emod_of_nonneg h0
theorem rem_u64 {a b:Int} (h0:0≤a) (h1:0<b):a.tmod b=a % b:=Int.tmod_eq_emod_of_nonneg h0
theorem old0 {b:Nat} {w0 w w1:World} (h:Below w0.heap.size w0 w) (e:Mv [] b w w1):Below w0.heap.size w0 w1:=h.trans (e.below0.mono h.size)
theorem old1 {σ:List Nat} {b:Nat} {w0 w w1:World} (h:Below w0.heap.size w0 w) (e:Mv σ b w w1) (hb:w0.heap.size≤b):Below w0.heap.size w0 w1:=
  h.trans ⟨e.os,e.tape,e.output,e.size,fun k hk=>by
    have hlt:k<w.heap.size:=Nat.lt_of_lt_of_le hk h.size;rw [Array.getElem?_eq_getElem hlt];exact e.keep k _ (Array.getElem?_eq_getElem hlt) (.inl (by omega))⟩
theorem mv0 {σ:List Nat} {b c:Nat} {w0 w w1:World} (h:Mv σ b w0 w) (e:Mv [] c w w1):Mv σ b w0 w1:=h.step0 e.below0
theorem add_at {g o i k p:Nat} (h:o+i*k=p):(Addr.mk g o none).add (i*k)=⟨g,p,none⟩:=by rw [add_plain,h]
theorem nc_eq (a b:Nat):decide ((a:Int)=(b:Int))=decide (a=b):=by rw [decide_eq_decide];exact Int.ofNat_inj
theorem nc_ne (a b:Nat):decide ((a:Int)≠(b:Int))=decide (a≠b):=by rw [decide_eq_decide,Ne,Int.ofNat_inj]
theorem nc_lt (a b:Nat):decide ((a:Int)<(b:Int))=decide (a<b):=by rw [decide_eq_decide];exact Int.ofNat_lt
theorem nc_le (a b:Nat):decide ((a:Int)≤(b:Int))=decide (a≤b):=by rw [decide_eq_decide];exact Int.ofNat_le
theorem nd_t {p:Prop} [Decidable p] (h:(!decide p)=true): ¬p:=by simpa using h
theorem nd_f {p:Prop} [Decidable p] (h:(!decide p)=false):p:=by simpa using h
section
theorem rr {P:Program} {Q:Exit→Act→World→Prop} {T:Array Value} {ds:List Deferred} {n:Nat} {l:List (Nat×Value)} {w:World} {ops:Array Oper} {o:Oper} {f:FuncId} {fn:Func} {az:List Operand} {ts:Array TypeId} {args:List Value} {R:Value→World→Prop} (E:Env T n l) (hf:P.funcs[f]? =some fn) (h:Ret P f args.toArray w R) (hg:Region.wanted o (yielded ops T)=true:=by exact rfl) (ho:o.op= .call {callee:= .value (.func f),args:=az.toArray,argTypes:=ts}:=by exact rfl) (hargs:az.map (ev l)=args.map some:=by exact rfl)
    (hname:(fn.name== "runtime.NumGoroutine")=false:=by kernel_rfl) (hb:fn.body.isSome=true:=by exact rfl):Ru P ops Q o ⟨T,ds⟩ w R:=ru_ret E hg ho hargs hf hname hb h
variable {P:Program} {o:Oper} {T:Array Value} {ds:List Deferred} {n:Nat} {l:List (Nat×Value)} {w:World}
theorem dm {x:Operand} {v:Value} (E:Env T n l) (ho:o.op= .move x:=by exact rfl) (hx:ev l x=some v:=by exact rfl):Dv P o ⟨T,ds⟩ w v w:=dv_move E ho hx
theorem da {x:Operand} {v:Value} (E:Env T n l) (ho:o.op= .assign x:=by exact rfl) (hx:ev l x=some v:=by exact rfl):Dv P o ⟨T,ds⟩ w v w:=dv_assign E ho hx
theorem dn {x:Operand} {a:Addr} (E:Env T n l) (ho:o.op= .nilCheck x:=by exact rfl) (hx:ev l x=some (.pointer (some a)):=by exact rfl):Dv P o ⟨T,ds⟩ w (.pointer (some a)) w:=dv_nilCheck E ho hx
theorem df {t f:Nat} {x:Operand} {a:Addr} (b:Addr) (off:Nat) (E:Env T n l) (ho:o.op= .fieldAddr t x f:=by exact rfl) (hx:ev l x=some (.pointer (some a)):=by exact rfl) (hf:fieldB P t f off=true:=by kernel_rfl) (hb:a.add off=b:=by exact rfl):Dv P o ⟨T,ds⟩ w (.pointer (some b)) w:=dv_fieldAddr off E ho hx hf hb
theorem dl {t g i tb:Nat} {x:Operand} {v:Value} {cs:Array Value} {fr:Nat×Nat} (E:Env T n l) (hb:w.heap[g]? =some (.cells cs tb fr)) (ho:o.op= .load t x:=by exact rfl) (hx:ev l x=some (.pointer (some ⟨g,i,none⟩)):=by exact rfl) (ht:aggB P t false=true:=by kernel_rfl) (hi:cs[i]? =some v:=by exact rfl):Dv P o ⟨T,ds⟩ w v w:=dv_load E ho hx ht (cell_of hb hi)
end
def bcell (x:UInt8):Value:= .int .u8 (x.toNat:Int)
def bcells (l:List UInt8):List Value:=l.map bcell
def Byt (w:World) (v:Value) (l:List UInt8):Prop:=∃A c,v= .slice A l.length c∧l.length≤c∧(l≠ []→∃g o cs fr,A=some ⟨g,o,none⟩∧w.heap[g]? =some (.cells cs 5 fr)∧∀i x,l[i]? =some x→cs[o+i]? =some (bcell x))
section
variable {w w1:World} {v:Value} {l:List UInt8} {σ:List Nat} {b:Nat}
theorem Byt.mv (h:Byt w v l) (e:Mv σ b w w1) (hs:σ.contains 5=false):Byt w1 v l:=by
  obtain ⟨A,c,h1,h2,h3⟩:=h;refine ⟨A,c,h1,h2,fun hne=> ?_⟩;obtain ⟨g,o,cs,fr,ha,hg,hc⟩:=h3 hne;exact ⟨g,o,cs,fr,ha,e.blk hg hs,hc⟩
theorem Byt.gr (h:Byt w v l) {row:Option Nat} (e:w.grownBy w1 row) (hne:row=none∨v.ownBlock≠row):Byt w1 v l:=by
  obtain ⟨A,c,h1,h2,h3⟩:=h;refine ⟨A,c,h1,h2,fun hl=> ?_⟩;obtain ⟨g,o,cs,fr,ha,hg,hc⟩:=h3 hl;refine ⟨g,o,cs,fr,ha,?_,hc⟩;rw [e.block g (heap_lt hg)]
  · exact hg
  · subst h1
    subst ha;rcases hne with rfl | hne
    · simp
    · exact hne
theorem Byt.nil (w:World):Byt w (.slice none 0 0) []:=⟨none,0,rfl,Nat.le_refl _,fun h=>absurd rfl h⟩
theorem Byt.form (h:Byt w v l): ∃A c,v= .slice A l.length c:=by
  obtain ⟨A,c,h1,_⟩:=h;exact ⟨A,c,h1⟩
theorem Byt.lit {g n c:Nat} {cs:Array Value} {fr:Nat×Nat} (hg:w.heap[g]? =some (.cells cs 5 fr)) (hc:cs=(bcells l).toArray) (hn:n=l.length) (hcc:n≤c):Byt w (.slice (some ⟨g,0,none⟩) n c) l:=by
  subst hn;refine ⟨_,_,rfl,hcc,fun _=>⟨g,0,cs,fr,rfl,hg,fun i x hx=> ?_⟩⟩;subst hc;simp [bcells,hx]
theorem Byt.cells {A:Addr} {n c:Nat} (h:Byt w (.slice (some A) n c) l): ∀j u,(bcells l)[j]? =some u→w.cell? (A.add j)=some u:=by
  intro j u hu;obtain ⟨A',c',h1,_,h3⟩:=h;simp only [bcells,List.getElem?_map,Option.map_eq_some_iff] at hu;obtain ⟨x,hx,rfl⟩:=hu;obtain ⟨g,o,cs,fr,ha,hg,hc⟩:=h3 (by rintro rfl;simp at hx);injection h1 with h1;rw [ha] at h1;injection h1 with h1;subst h1;rw [add_plain];exact cell_of hg (hc j x hx)
theorem Byt.capLe {A:Option Addr} {n c:Nat} (h:Byt w (.slice A n c) l):n≤c:=by
  obtain ⟨A',c',h1,h2,_⟩:=h;injection h1 with _ h3 h4;omega
def OwnB (base:Nat) (w:World) (v:Value) (l:List UInt8):Prop:=w.ownsRow base 5 1 v l.length (bcells l)
theorem OwnB.nil (base:Nat) (w:World):OwnB base w (.slice none 0 0) []:=World.ownsRow_nil w base _ 1
theorem OwnB.byt {base:Nat} (h:OwnB base w v l):Byt w v l:=by
  rcases h.2 with ⟨rfl,h0⟩ | ⟨g,cap,cur,rfl,hb,hg,hn,hm,hs,ht⟩
  · obtain rfl:l=[]:=List.eq_nil_of_length_eq_zero h0
    exact Byt.nil w
  · refine ⟨_,_,rfl,hn,fun _=>⟨g,0,cur,(0,0),rfl,hg,fun i x hx=> ?_⟩⟩
    have h1:(bcells l)[i]? =some (bcell x):=by simp [bcells,hx]
    rw [← ht,List.getElem?_take] at h1
    split at h1
    · simpa using h1
    · cases h1
theorem OwnB.mv {base:Nat} (h:OwnB base w v l) (e:Mv σ b w w1) (hs:σ.contains 5=false):OwnB base w1 v l:=by
  refine ⟨h.1,?_⟩;rcases h.2 with hn | ⟨g,cap,cur,hv,hb,hg,r⟩
  · exact .inl hn
  · exact .inr ⟨g,cap,cur,hv,hb,e.blk hg hs,r⟩
theorem OwnB.lower {base b2:Nat} (h:OwnB base w v l) (hb2:b2≤base):OwnB b2 w v l:=by
  refine ⟨h.1,?_⟩;rcases h.2 with hn | ⟨g,cap,cur,hv,hb,r⟩
  · exact .inl hn
  · exact .inr ⟨g,cap,cur,hv,Nat.le_trans hb2 hb,r⟩
theorem OwnB.form {base:Nat} (h:OwnB base w v l): ∃A c,v= .slice A l.length c:=h.byt.form
end
def New (w:World) (v v1:Value):Prop:=v1.ownBlock=v.ownBlock∨∀k,v1.ownBlock=some k→w.heap.size≤k
theorem New.trans {w w1:World} {v v1 v2:Value} (h:New w v v1) (k:New w1 v1 v2) (hs:w.heap.size≤w1.heap.size):New w v v2:=by
  rcases k with k | k
  · rcases h with h | h
    · exact .inl (k.trans h)
    · exact .inr (fun b hb=>h b (k▸hb))
  · exact .inr (fun b hb=>Nat.le_trans hs (k b hb))
theorem New.refl (w:World) (v:Value):New w v v:= .inl rfl
def Apart (v x:Value):Prop:=v.ownBlock=none∨x.ownBlock≠v.ownBlock
section
variable {P:Program} {Q:Exit→Act→World→Prop} {T:Array Value} {ds:List Deferred} {n:Nat} {l:List (Nat×Value)} {w:World} {ops:Array Oper} {o:Oper}
theorem mv_grown {w w1:World} {e base:Nat} {v:Value} {m:Nat} {k:Nat} {xs:List Value} (hown:w.ownsRow base e k v m xs) (hg:w.grownBy w1 v.ownBlock):Mv [e] base w w1:=by
  refine ⟨hg.os,hg.tape,hg.output,hg.size,fun b x hb hc=> ?_⟩;rw [hg.block b (heap_lt hb)]
  · exact hb
  · intro hv
    rcases hown.2 with ⟨rfl,_⟩ | ⟨g,cap,cur,rfl,hbg,hgg,_⟩
    · simp [Value.ownBlock] at hv
    · simp only [Value.ownBlock,Option.some.injEq] at hv
      subst hv;rw [hgg] at hb;obtain rfl:=Option.some.inj hb;rcases hc with hc | hc
      · omega
      · simp [okind] at hc
theorem app_new (w:World) (base:Nat) (t ty e:TypeId) (i:TypeInfo) (z:Value) (size bytes:Nat) (ht:P.underlying t=some (.slice e)) (hi:P.info? e=some i) (hz:i.zero=some z)
    (hsize:i.size=size) (hby:i.bytes=bytes) (hzs:z.cells.size=size) (hsz:0<size)
    (v:Value) (n:Nat) (xs:List Value) (hown:w.ownsRow base e size v n xs)
    (a:Addr) (m c:Nat) (news:List Value) (hl:news.length=m*size) (hnews: ∀j u,news[j]? =some u→w.cell? (a.add j)=some u) (h1: ∀u∈news,u.oneCell'=true)
    (h63:n+m≤maxLen) (hbytes:(n+m)*bytes≤140737488355328) (v1:Value) (w1:World) (hr:(Builtin.append_ #[t,t] ty #[v,.slice (some a) m c]).run P w= .ok v1 w1):New w v v1:=by
  subst hsize;subst hby
  have hsmall:n+m≤9223372036854775807:=by simp only [maxLen] at h63;omega
  rcases hown.2 with ⟨rfl,rfl⟩ | ⟨g,cap,cur,rfl,hbg,hg,hnc,hcm,hcs,htake⟩
  · by_cases hm:m=0
    · subst hm
      have hn:news=[]:=List.eq_nil_of_length_eq_zero (by simpa using hl);subst hn;have h2:(Builtin.append_ #[t,t] ty #[.slice none 0 0,.slice (some a) 0 c]).run P w= .ok (.slice none 0 0) w:=by
        simp [Builtin.append_,run_underlying ht,sizeOf,typeInfo,hi,Builtin.lenOf,Builtin.firstCells,loadCells,loadCellsFrom]
      rw [h2] at hr;injection hr with hr;subst hr;exact .inl rfl
    · have h2:=run_append_nil (P:=P) w t ty e i z ht hi hz a m c news hl hnews (by omega) (by omega) (by have hb:=hbytes;simp only [Nat.zero_add] at hb;omega)
      rw [h2] at hr;injection hr with hr;subst hr;exact .inr (fun k hk=>by simp [Value.ownBlock] at hk;omega)
  · by_cases hroom:n+m≤cap
    · have hfit:n*i.size+news.length≤cur.size:=by rw [hl,hcs,← Nat.add_mul];exact Nat.mul_le_mul_right _ hroom
      have h2:=run_append_room (P:=P) w t ty e i ht hi g n cap cur hg a m c news hl hnews h1 hroom hfit;rw [h2] at hr;injection hr with hr;subst hr;exact .inl rfl
    · have holds: ∀j u,xs[j]? =some u→w.cell? ((⟨g,0,none⟩:Addr).add j)=some u:=hown.cells (g:=g) rfl
      have h2:=run_append_grow (P:=P) w t ty e i z ht hi hz ⟨g,0,none⟩ n cap xs hown.1 holds a m c news hl hnews (by omega) (by omega) (growslice_fits (by omega) hbytes);rw [h2] at hr;injection hr with hr;subst hr;exact .inr (fun k hk=>by simp [Value.ownBlock] at hk;omega)
def infoB (P:Program) (e k b:Nat) (z:Value):Prop:=(P.info? e).map (fun i=>(i.size,i.bytes,i.zero))=some (k,b,some z)
theorem infoB_of {P:Program} {e k b:Nat} {z:Value} (h:(P.info? e).map (fun i=>(i.size,i.bytes,i.zero))=some (k,b,some z)):infoB P e k b z:=h
theorem ru_append {t e k by_ base m c m0:Nat} {z:Value} {s x:Operand} {v:Value} {ad:Addr} {xs news:List Value} (E:Env T n l) (ho:o.op= .call {callee:= .builtin .append,args:=#[s,x],argTypes:=#[t,t]}) (hg:o.guard=none) (hs:ev l s=some v) (hx:ev l x=some (.slice (some ad) m c))
    (ht:underB P t (isSlice e)=true) (hi:infoB P e k by_ z) (hz:z.cells.size=k) (hk:0<k) (hown:w.ownsRow base e k v m0 xs) (hl:news.length=m*k) (hnews: ∀j u,news[j]? =some u→w.cell? (ad.add j)=some u) (h1: ∀u∈news,u.oneCell'=true)
    (h63:m0+m≤maxLen) (hb:(m0+m)*by_≤140737488355328) (hbase:base≤w.heap.size):
    Ru P ops Q o ⟨T,ds⟩ w (fun v1 w1=>Mv [e] base w w1∧w.grownBy w1 v.ownBlock∧w1.ownsRow base e k v1 (m0+m) (xs++news)∧New w v v1):=by
  have hu:=under_slice ht;unfold infoB at hi;cases hie:P.info? e with
  | none=>rw [hie] at hi;cases hi
  | some i=>
    rw [hie] at hi;simp only [Option.map_some,Option.some.injEq,Prod.mk.injEq] at hi;obtain ⟨h2,h3,h4⟩:=hi;obtain ⟨v1,w1,hr,h5,h6,_⟩:=run_append_own (P:=P) w base t o.type e i z k by_ hu hie h4 h2 h3 hz hk v m0 xs hown ad m c news hl hnews h1 h63 hb hbase;have h7:=app_new (P:=P) w base t o.type e i z k by_ hu hie h4 h2 h3 hz hk v m0 xs hown ad m c news hl hnews h1 h63 hb v1 w1 hr;refine Ru.v (v:=v1) (w1:=w1) ?_ hg ⟨mv_grown hown h6,h6,h5,h7⟩;unfold Dv execOp;rw [ho];simp only [resolve,List.map_toArray,List.map_cons,List.map_nil,E.ev hs ds,E.ev hx ds];simp only [invoke,builtin,Sem.run_bind,Sem.run_pure,Result.andThen_ok,hr]
theorem bcells_one (l:List UInt8): ∀u∈bcells l,u.oneCell'=true:=by
  intro u hu;simp only [bcells,List.mem_map] at hu;obtain ⟨x,_,rfl⟩:=hu;rfl
theorem ru_appB {t base:Nat} {s x:Operand} {v u:Value} {xs ys:List UInt8} (E:Env T n l) (ho:o.op= .call {callee:= .builtin .append,args:=#[s,x],argTypes:=#[t,t]}) (hg:o.guard=none) (hs:ev l s=some v) (hx:ev l x=some u)
    (ht:underB P t (isSlice 5)=true) (hi:infoB P 5 1 1 (.int .u8 0)) (hown:OwnB base w v xs) (hu:Byt w u ys) (hlen:xs.length+ys.length≤140737488355328) (hbase:base≤w.heap.size):
    Ru P ops Q o ⟨T,ds⟩ w (fun v1 w1=> ∃A c,v1= .slice A (xs.length+ys.length) c∧Mv [5] base w w1∧w.grownBy w1 v.ownBlock∧OwnB base w1 (.slice A (xs.length+ys.length) c) (xs++ys)∧New w v (.slice A (xs.length+ys.length) c)):=by
  obtain ⟨A,c,rfl,hc,hb⟩:=hu;have fin: ∀v1 w1,Mv [5] base w w1→w.grownBy w1 v.ownBlock→OwnB base w1 v1 (xs++ys)→New w v v1→∃A c,v1= .slice A (xs.length+ys.length) c∧Mv [5] base w w1∧w.grownBy w1 v.ownBlock∧OwnB base w1 (.slice A (xs.length+ys.length) c) (xs++ys)∧New w v (.slice A (xs.length+ys.length) c):=by
    intro v1 w1 h1 h2 h3 h4;obtain ⟨A,c,rfl⟩:=h3.form;rw [List.length_append] at h3 h4 ⊢;exact ⟨A,c,rfl,h1,h2,h3,h4⟩
  cases A with
  | some ad=>
    refine (ru_append (m0:=xs.length) (xs:=bcells xs) (news:=bcells ys) E ho hg hs hx ht hi rfl (by decide) hown (by simp [bcells]) (Byt.cells (l:=ys) ⟨_,c,rfl,hc,hb⟩) (bcells_one ys) (by simp only [maxLen];omega) (by omega) hbase).mono ?_;rintro v1 w1 ⟨h1,h2,h3,h4⟩;refine fin v1 w1 h1 h2 ?_ h4;unfold OwnB;rw [List.length_append]
    simpa [bcells] using h3
  | none=>
    have hy:ys=[]:=by
      false_or_by_contra;rename_i hne;obtain ⟨g,o,cs,fr,ha,_⟩:=hb hne;cases ha
    subst hy;have hc0: ∃c0,(.slice none 0 c:Value)= .slice none 0 c0:=⟨c,rfl⟩;cases hie:P.info? 5 with
    | none=>unfold infoB at hi;rw [hie] at hi;cases hi
    | some i=>
      have hu2:=under_slice ht;have hsz:i.size=1:=by
        unfold infoB at hi;rw [hie] at hi;simp only [Option.map_some,Option.some.injEq,Prod.mk.injEq] at hi;exact hi.1
      have hr:(Builtin.append_ #[t,t] o.type #[v,.slice none 0 c]).run P w= .ok v w:=by
        rcases hown.2 with ⟨rfl,h0⟩ | ⟨g,cap,cur,rfl,_,_,hnc,_⟩
        · simp [Builtin.append_,run_underlying hu2,sizeOf,typeInfo,hie,Builtin.lenOf,Builtin.firstCells]
        · simp [Builtin.append_,run_underlying hu2,sizeOf,typeInfo,hie,Builtin.lenOf,Builtin.firstCells,hnc,storeCells]
      refine Ru.v (v:=v) (w1:=w) ?_ hg (fin v w (Mv.refl _ _ _) ⟨rfl,rfl,rfl,Nat.le_refl _,fun _ _ _=>rfl⟩ (by simpa using hown) (New.refl _ _));unfold Dv execOp;rw [ho];simp only [resolve,List.map_toArray,List.map_cons,List.map_nil,E.ev hs ds,E.ev hx ds];have hr2:(Builtin.append_ #[t,t] o.type #[v,.slice none ([]:List UInt8).length c]).run P w= .ok v w:=hr;simp only [invoke,builtin,Sem.run_bind,Sem.run_pure,Result.andThen_ok,hr2]
theorem made_one (z:Value) (hz:z.oneCell'=true) (m:Nat):madeCells z.cells m=Array.replicate m z:=by
  have h1:z.cells=#[z]:=by cases z <;> simp [Value.oneCell'] at hz <;> rfl
  rw [h1];apply Array.ext
  · simp [madeCells]
  · intro i h2 h3
    simp [madeCells,Nat.mod_one]
theorem ru_make {t e by_ m:Nat} {z:Value} {x y:Operand} {kx ky:IntKind} (E:Env T n l) (ho:o.op= .makeSlice t x y) (hg:o.guard=none) (hx:ev l x=some (.int kx (m:Int))) (hy:ev l y=some (.int ky (m:Int))) (ht:underB P t (isSlice e)=true) (hi:infoB P e 1 by_ z) (hz:z.oneCell'=true) (hm:by_*m≤281474976710656) (h63:m≤9223372036854775807):
    Ru P ops Q o ⟨T,ds⟩ w (fun v w1=> ∃g,v= .slice (some ⟨g,0,none⟩) m m∧Mv [] 0 w w1∧w.heap.size≤g∧g=w.heap.size∧w1.heap[g]? =some (.cells (Array.replicate m z) e (0,0))):=by
  have hu:=under_slice ht;unfold infoB at hi;cases hie:P.info? e with
  | none=>rw [hie] at hi;cases hi
  | some i=>
    rw [hie] at hi;simp only [Option.map_some,Option.some.injEq,Prod.mk.injEq] at hi;obtain ⟨h2,h3,h4⟩:=hi;have hb:(i.bytes:Int)*(m:Int)≤281474976710656:=by
      rw [h3];have h:((by_*m:Nat):Int)≤281474976710656:=by omega
      rwa [Int.natCast_mul] at h
    have hr:=run_make (P:=P) w t e i z hu hie h4 kx ky (m:Int) (m:Int) (by omega) (Int.le_refl _) hb (by omega);rw [h2,Int.toNat_natCast,Nat.mul_one,made_one z hz] at hr;refine Ru.v (v:= .slice (some ⟨w.heap.size,0,none⟩) m m) (w1:=w.alloc (.cells (Array.replicate m z) e)) (dv_of (by unfold execOp;rw [ho]) ?_) hg ⟨_,rfl,mv_alloc _ _ _ _,Nat.le_refl _,rfl,heap_new _ _⟩;simp only [E.ev hx ds,E.ev hy ds];exact hr
def sb (s:ByteArray):List UInt8:=s.data.toList
theorem sb_len (s:ByteArray):(sb s).length=s.size:=by simp [sb]
def isB (P:Program) (t:Nat):Bool:=underB P t (isSlice 5) && underB P 5 (isInt .u8)
theorem isB_1 {t:Nat} (h:isB P t=true):P.underlying t=some (.slice 5)∧P.underlying 5=some (.int .u8):=by
  simp only [isB,Bool.and_eq_true] at h;exact ⟨under_slice h.1,under_int h.2⟩
theorem ru_cvtSB {a b:Nat} {x:Operand} {s:ByteArray} (E:Env T n l) (ho:o.op= .convert a b x) (hg:o.guard=none) (hx:ev l x=some (.string s)) (ha:underB P a isStr=true) (hb:isB P b=true):
    Ru P ops Q o ⟨T,ds⟩ w (fun v w1=> ∃g c,v= .slice (some ⟨g,0,none⟩) s.size c∧Mv [] 0 w w1∧w.heap.size≤g∧Byt w1 (.slice (some ⟨g,0,none⟩) s.size c) (sb s)):=by
  obtain ⟨h1,h2⟩:=isB_1 hb;have hr:=Lib.run_convert_string_bytes (P:=P) w a b 5 s (under_str ha) h1 h2;refine Ru.v (v:= .slice (some ⟨w.heap.size,0,none⟩) s.size (grownCap w s.size 0 5)) (w1:=Lib.bytesWorld w 5 s) (dv_of (by unfold execOp;rw [ho]) ?_) hg ⟨w.heap.size,_,rfl,?_,Nat.le_refl _,?_⟩
  · simp only [E.ev hx ds]
    exact hr
  · exact Mv.of_below (show Below w.heap.size w (Lib.bytesWorld w 5 s) from ⟨rfl,rfl,rfl,by rw [Lib.bytesWorld_size];omega,fun k hk=>Lib.bytesWorld_at_old w _ s k hk⟩) _ _
  · refine ⟨_,_,by rw [sb_len],by rw [sb_len];exact grownCap_ge w s.size 0 _,fun hne=>⟨w.heap.size,0,_,_,rfl,Lib.bytesWorld_at_new w _ s,fun i x hx=> ?_⟩⟩
    have hi:i<s.size:=by
      have:=(List.getElem?_eq_some_iff.1 hx).1
      simpa [sb] using this
    have hc:=Lib.bytesWorld_cell w 5 s i hi;simp only [World.cell?,Lib.bytesWorld_at_new,Option.isSome_none,Bool.false_eq_true,if_false] at hc;rw [Nat.zero_add,hc];have h3:s.data.toList[i]? =some x:=hx;simp [bcell,List.getD_eq_getElem?_getD,h3]
def bs (l:List UInt8):ByteArray:=⟨l.toArray⟩
theorem bs_size (l:List UInt8):(bs l).size=l.length:=by simp [bs,ByteArray.size]
theorem sb_bs (l:List UInt8):sb (bs l)=l:=by simp [sb,bs]
theorem bs_sb (s:ByteArray):bs (sb s)=s:=by simp [sb,bs]
theorem bs_inj {a b:List UInt8}:bs a=bs b↔a=b:=⟨fun h=>by rw [← sb_bs a,h,sb_bs],fun h=>by rw [h]⟩
theorem bs_append (a b:List UInt8):bs a++bs b=bs (a++b):=by
  apply ByteArray.ext;simp [bs]
theorem fold_bs (l:List UInt8): ∀s:ByteArray,(l.map (fun x=>((x.toNat:Nat):Int))).foldl (fun r n=>r.push (UInt8.ofNat n.toNat)) s=bs (sb s++l):=by
  induction l with
  | nil=>intro s;rw [List.append_nil,bs_sb];rfl
  | cons x l ih=>
    intro s;rw [List.map_cons,List.foldl_cons,ih];have h1:UInt8.ofNat ((x.toNat:Int).toNat)=x:=by simp
    rw [h1]
    congr 1
    simp [sb,ByteArray.push]
theorem dv_cvtBS {a b:Nat} {x:Operand} {v:Value} {ys:List UInt8} (E:Env T n l) (ho:o.op= .convert a b x) (hx:ev l x=some v) (ha:isB P a=true) (hb:underB P b isStr=true) (hv:Byt w v ys):Dv P o ⟨T,ds⟩ w (.string (bs ys)) w:=by
  obtain ⟨h1,h2⟩:=isB_1 ha;refine dv_of (by unfold execOp;rw [ho]) ?_;simp only [E.ev hx ds];have hv2:=hv;obtain ⟨A,c,rfl,hc,h3⟩:=hv;rw [run_convert_bytes_string w a b 5 A _ c h1 h2 (under_str hb)];cases A with
  | none=>
    have hy:ys=[]:=by
      false_or_by_contra;rename_i hne;obtain ⟨g,o,cs,fr,ha,_⟩:=h3 hne;cases ha
    subst hy;simp [Conv.bytesToString,bs,ByteArray.empty,ByteArray.emptyWithCapacity,go_sem];rfl
  | some ad=>
    have hl:(loadCells ad ys.length).run P w= .ok ((ys.map (fun x=>((x.toNat:Nat):Int))).map (Value.int .u8)).toArray w:=by
      have:=run_loadCells P w ad ys.length 0 #[] (bcells ys).toArray (fun j hj=>by
        rw [Nat.zero_add];have h4:(bcells ys)[j]? =some (bcell ys[j]):=by simp [bcells,hj]
        have h5:=hv2.cells j _ h4;rw [h5]
        simpa using h4.symm) (by simp [bcells])
      simp only [Array.empty_append] at this;unfold loadCells;rw [this]
      congr 2
      simp [bcells,bcell,Function.comp_def]
    rw [run_bytesToString w ad _ c _ hl,fold_bs];have:sb ByteArray.empty=[]:=rfl;rw [this,List.nil_append]
theorem bcell_of {m:Nat} (h:m<256):bcell (UInt8.ofNat m)= .int .u8 (m:Int):=by
  simp [bcell,UInt8.toNat_ofNat'];omega
end
def adr (A:Option Addr) (j:Nat):Addr:=match A with
  | some a=>a.add j
  | none=>⟨0,0,none⟩
def Row (w:World) (t:Nat) (A:Option Addr) (m:Nat) (f:Nat→Value):Prop:=0<m→∃g o cs fr,A=some ⟨g,o,none⟩∧w.heap[g]? =some (.cells cs t fr)∧∀j,j<m→cs[o+j]? =some (f j)
section
variable {w w1:World} {t b m:Nat} {σ:List Nat} {A:Option Addr} {f:Nat→Value}
theorem Row.mv (h:Row w t A m f) (e:Mv σ b w w1) (hs:σ.contains t=false):Row w1 t A m f:=fun hm=>by
  obtain ⟨g,o,cs,fr,h1,h2,h3⟩:=h hm;exact ⟨g,o,cs,fr,h1,e.blk h2 hs,h3⟩
theorem Row.cell (h:Row w t A m f) {j:Nat} (hj:j<m):w.cell? (adr A j)=some (f j):=by
  obtain ⟨g,o,cs,fr,h1,h2,h3⟩:=h (by omega);rw [h1,adr,add_plain];exact cell_of h2 (h3 j hj)
theorem Row.sure (h:Row w t A m f) (hm:0<m):A.isSome=true:=by
  obtain ⟨g,o,cs,fr,h1,h2,h3⟩:=h hm;rw [h1];rfl
theorem Row.le (h:Row w t A m f) {k:Nat} (hk:k≤m):Row w t A k f:=fun hm=>by
  obtain ⟨g,o,cs,fr,h1,h2,h3⟩:=h (by omega);exact ⟨g,o,cs,fr,h1,h2,fun j hj=>h3 j (by omega)⟩
theorem Row.blk {g o:Nat} {cs:Array Value} {fr:Nat×Nat} (hg:w.heap[g]? =some (.cells cs t fr)) (hc: ∀j,j<m→cs[o+j]? =some (f j)):Row w t (some ⟨g,o,none⟩) m f:=fun _=>⟨g,o,cs,fr,rfl,hg,hc⟩
theorem Row.byt {n c:Nat} {l:List UInt8} (h:Byt w (.slice A n c) l):Row w 5 A l.length (fun j=>bcell (l.getD j 0)):=fun hm=>by
  obtain ⟨A',c',h1,h2,h3⟩:=h;obtain ⟨g,o,cs,fr,ha,hg,hc⟩:=h3 (by rintro rfl;simp at hm);injection h1 with h1;refine ⟨g,o,cs,fr,h1.trans ha,hg,fun j hj=> ?_⟩;have:l[j]? =some (l.getD j 0):=by simp [List.getD,List.getElem?_eq_getElem hj]
  rw [hc j _ this]
def offA (A:Option Addr) (c i k:Nat):Option Addr:=if c=i then A else A.map (·.add (i*k))
theorem Row.off (h:Row w t A m f) {c i:Nat} (hm:m≤c):Row w t (offA A c i 1) (m-i) (fun j=>f (i+j)):=fun hi=>by
  obtain ⟨g,o,cs,fr,h1,h2,h3⟩:=h (by omega);refine ⟨g,o+i,cs,fr,?_,h2,fun j hj=> ?_⟩
  · rw [offA,if_neg (by omega),h1,Nat.mul_one]
    simp only [Option.map_some,add_plain]
  · rw [Nat.add_assoc]
    exact h3 _ (by omega)
end
theorem mv_fresh {σ τ:List Nat} {b0 b1:Nat} {a b c:World} (h:Mv τ b0 a b) (e:Mv σ b1 b c) (hb:a.heap.size≤b1):Mv τ b0 a c:=
  ⟨e.os.trans h.os,e.tape.trans h.tape,e.output.trans h.output,Nat.le_trans h.size e.size,fun i o hi hc=>e.keep i o (h.keep i o hi hc) (.inl (Nat.lt_of_lt_of_le (heap_lt hi) hb))⟩
theorem offA0 (A:Option Addr) (c k:Nat):offA A c 0 k=A:=by
  unfold offA
  split
  · rfl
  · cases A <;> simp [Addr.add]
theorem offA_some {g o c i k p:Nat} (h:c≠i) (hp:o+i*k=p):offA (some ⟨g,o,none⟩) c i k=some ⟨g,p,none⟩:=by rw [offA,if_neg h,Option.map_some,add_plain,hp]
theorem rounds_on {P:Program} {c:Code} {Q:Exit→Act→World→Prop} {n:Nat} {a:Act} {w:World} (h:c.wp P (Exit.then (Code.rounds P c Q n) Q) a w):Code.rounds P c Q (n+1) a w:=h
section
variable {P:Program} {ops:Array Oper} {Q:Exit→Act→World→Prop} {o:Oper} {T:Array Value} {ds:List Deferred} {n:Nat} {l:List (Nat×Value)} {w:World}
theorem dv_indexA {t k i j m c:Nat} {x y:Operand} {ky:IntKind} {A:Option Addr} (E:Env T n l) (ho:o.op= .indexAddr t x y) (hx:ev l x=some (.slice A m c)) (hy:ev l y=some (.int ky (i:Int))) (hs:sliceB P t k=true) (hi:i<m) (hA:A.isSome=true) (hj:i*k=j):Dv P o ⟨T,ds⟩ w (.pointer (some (adr A j))) w:=by
  obtain ⟨a,rfl⟩:=Option.isSome_iff_exists.1 hA;exact dv_indexAddr E ho hx hy hs hi (by rw [hj];rfl)
theorem elem_slice {t e:Nat} (h:underB P t (isSlice e)=true):P.underlying t=some (.slice (P.elem t))∧P.elem t=e:=by
  have h1:=under_slice h;have h2:P.elem t=e:=by simp [Program.elem,h1]
  exact ⟨by rw [h2];exact h1,h2⟩
theorem size_run {e k:Nat} (h:(P.info? e).map (·.size)=some k):(sizeOf e).run P w= .ok k w:=run_size h
theorem dv_sliceLo {t e k m c i:Nat} {x y:Operand} {ky:IntKind} {A B:Option Addr} {m2 c2:Nat} (E:Env T n l) (ho:o.op= .slice t x (some y) none none) (hx:ev l x=some (.slice A m c)) (hy:ev l y=some (.int ky (i:Int))) (ht:underB P t (isSlice e)=true) (hk:(P.info? e).map (·.size)=some k) (hi:i≤m) (hmc:m≤c) (hB:offA A c i k=B) (hm:m-i=m2) (hc:c-i=c2):Dv P o ⟨T,ds⟩ w (.slice B m2 c2) w:=by
  refine dv_of (by unfold execOp;rw [ho]) ?_;obtain ⟨h1,h2⟩:=elem_slice ht;simp only [Option.map_some,Option.map_none,E.ev hx ds,E.ev hy ds];rw [run_sliceAt_slice _ _ _ _ _ _ h1,run_slice_l _ _ _ _ _ h1 ky (i:Int) (by omega) (by omega),h2,size_run hk];subst hB hm hc;simp [Result.andThen,sliced,offA]
theorem dv_sliceHi {t e k m c i:Nat} {x y:Operand} {ky:IntKind} {A:Option Addr} (E:Env T n l) (ho:o.op= .slice t x none (some y) none) (hx:ev l x=some (.slice A m c)) (hy:ev l y=some (.int ky (i:Int))) (ht:underB P t (isSlice e)=true) (hk:(P.info? e).map (·.size)=some k) (hi:i≤c):Dv P o ⟨T,ds⟩ w (.slice A i c) w:=by
  refine dv_of (by unfold execOp;rw [ho]) ?_;obtain ⟨h1,h2⟩:=elem_slice ht;simp only [Option.map_some,Option.map_none,E.ev hx ds,E.ev hy ds];rw [run_sliceAt_slice _ _ _ _ _ _ h1,run_slice_h _ _ _ _ _ h1 ky (i:Int) (by omega) (by omega),h2,size_run hk];have h3:=offA0 A c k;unfold offA at h3;simp [Result.andThen,sliced]
  simpa using h3
def isArrE (m e:Nat):TypeDesc→Bool
  | .array x y=>x==m && y==e
  | _=>false
theorem under_arr {t m e:Nat} (h:underB P t (isArrE m e)=true):P.underlying t=some (.array (P.arrayLen t) (P.elem t))∧P.arrayLen t=m∧P.elem t=e:=by
  unfold underB at h
  split at h
  · rename_i x hx
    cases x <;> simp [isArrE] at h
    obtain ⟨rfl,rfl⟩:=h;simp [Program.arrayLen,Program.elem,hx]
  · cases h
theorem dv_sliceArrLo {t e k m i:Nat} {x y:Operand} {ky:IntKind} {a b:Addr} {m2:Nat} (E:Env T n l) (ho:o.op= .slice t x (some y) none none) (hx:ev l x=some (.pointer (some a))) (hy:ev l y=some (.int ky (i:Int))) (ht:underB P t (isArrE m e)=true) (hk:(P.info? e).map (·.size)=some k) (hi:i<m) (hb:a.add (i*k)=b) (hm:m-i=m2):Dv P o ⟨T,ds⟩ w (.slice (some b) m2 m2) w:=by
  refine dv_of (by unfold execOp;rw [ho]) ?_;obtain ⟨h1,h2,h3⟩:=under_arr ht;simp only [Option.map_some,Option.map_none,E.ev hx ds,E.ev hy ds];rw [run_sliceAt_array_l _ _ _ h1 ky (i:Int) (by omega) (by omega),h3,size_run hk,h2];subst hb hm;simp [Result.andThen,slicedAt];omega
theorem dv_sliceArrHi {t e k m i:Nat} {x y:Operand} {ky:IntKind} {a:Addr} (E:Env T n l) (ho:o.op= .slice t x none (some y) none) (hx:ev l x=some (.pointer (some a))) (hy:ev l y=some (.int ky (i:Int))) (ht:underB P t (isArrE m e)=true) (hk:(P.info? e).map (·.size)=some k) (hi:i≤m):Dv P o ⟨T,ds⟩ w (.slice (some a) i m) w:=by
  refine dv_of (by unfold execOp;rw [ho]) ?_;obtain ⟨h1,h2,h3⟩:=under_arr ht;simp only [Option.map_some,Option.map_none,E.ev hx ds,E.ev hy ds];rw [run_sliceAt_array_h _ _ _ h1 ky (i:Int) (by omega) (by omega),h3,size_run hk,h2];simp [Result.andThen,slicedAt,Addr.add]
theorem dv_sliceArr {t e k m:Nat} {x:Operand} {a:Addr} (E:Env T n l) (ho:o.op= .slice t x none none none) (hx:ev l x=some (.pointer (some a))) (ht:underB P t (isArrE m e)=true) (hk:(P.info? e).map (·.size)=some k):Dv P o ⟨T,ds⟩ w (.slice (some a) m m) w:=by
  refine dv_of (by unfold execOp;rw [ho]) ?_;obtain ⟨h1,h2,h3⟩:=under_arr ht;simp only [Option.map_some,Option.map_none,E.ev hx ds];rw [run_sliceAt_array_all _ _ _ h1,h3,size_run hk,h2];simp [Result.andThen,slicedAt,Addr.add]
def flip (k:IntKind) (a:Int):Int:=bits .xor k (if k.signed then-1 else k.max) a
theorem dv_flip {k:IntKind} {t:TypeId} {x:Operand} {a c:Int} (E:Env T n l) (ho:o.op= .unOp .xor t x) (hx:ev l x=some (.int k a)) (hc:flip k a=c):Dv P o ⟨T,ds⟩ w (.int k c) w:=by
  refine dv_of (by unfold execOp;rw [ho]) ?_;simp only [E.ev hx ds];subst hc;simp [Op.unary,Op.intBits,flip,bits,go_sem]
theorem setRow_setBlk {g t:Nat} {cs C:Array Value} {fr:Nat×Nat} (hb:w.heap[g]? =some (.cells cs t (0,0))):w.setRow g C=setBlk w g C t:=by
  have:=heap_lt hb;unfold World.setRow setBlk
  congr 1
  apply Array.ext_getElem?;intro j;rw [Array.getElem?_modify,Array.getElem?_setIfInBounds];by_cases e:g=j
  · subst e;rw [if_pos rfl,if_pos rfl,hb];simp [this]
  · rw [if_neg e,if_neg e]
theorem ru_copyRow {t t2 e tb ts g p dl dc m sc:Nat} {x y:Operand} {A:Option Addr} {cs C:Array Value} {f:Nat→Value} {k:Nat} (E:Env T n l) (ho:o.op= .call {callee:= .builtin .copy,args:=#[x,y],argTypes:=#[t,t2]}) (hg:o.guard=none) (hx:ev l x=some (.slice (some ⟨g,p,none⟩) dl dc)) (hy:ev l y=some (.slice A m sc)) (ht:underB P t (isSlice e)=true) (hi:(P.info? e).map (·.size)=some 1)
    (hb:w.heap[g]? =some (.cells cs tb (0,0))) (hr:Row w ts A m f) (hm:0<m) (h1: ∀j,(f j).oneCell'=true) (hk:Nat.min m dl=k) (hfit:p+k≤cs.size) (hC:(cs.toList.take p++(List.range k).map f++cs.toList.drop (p+k)).toArray=C):
    Ru P ops Q o ⟨T,ds⟩ w (fun v w1=>v= .int .i64 (k:Int)∧Mv [tb] g w w1∧(∀b x,w.heap[b]? =some x→b≠g→w1.heap[b]? =some x)∧w1.heap[g]? =some (.cells C tb (0,0))):=by
  obtain ⟨a,rfl⟩:=Option.isSome_iff_exists.1 (hr.sure hm);have hkm:k≤m:=by rw [← hk];exact Nat.min_le_left _ _
  have hr2:=run_copy_row (P:=P) w t t2 o.type e g p dl dc a m sc cs tb ((List.range k).map f) (under_slice ht) hi hb (by simp [hk]) (fun j v hj=>by
    have hj':j<k:=by
      have:=(List.getElem?_eq_some_iff.1 hj).1
      simpa using this
    rw [List.getElem?_map,List.getElem?_range hj'] at hj;simp only [Option.map_some,Option.some.injEq] at hj;subst hj;show w.cell? (adr (some a) j)=_;exact hr.cell (by omega)) (by simpa using hfit) (fun v hv=>by
      simp only [List.mem_map] at hv;obtain ⟨i,_,rfl⟩:=hv;exact h1 i)
  simp only [List.length_map,List.length_range] at hr2;rw [hC,setRow_setBlk (fr:=(0,0)) hb] at hr2;refine Ru.v (v:= .int .i64 (k:Int)) (w1:=setBlk w g C tb) ?_ hg ⟨rfl,mv_setBlk hb,fun b x hx hne=>setBlk_keep hx hne,setBlk_at (heap_lt hb)⟩;unfold Dv execOp;rw [ho];simp only [resolve,List.map_toArray,List.map_cons,List.map_nil,E.ev hx ds,E.ev hy ds];simp only [invoke,builtin,Sem.run_bind,Sem.run_pure,Result.andThen_ok,hr2];rfl
end
theorem nk_add {a b:Nat} (h:a+b<9223372036854775808):IntKind.i64.wrap ((a:Int)+(b:Int))=((a+b:Nat):Int):=by rw [wrap_i64 (by omega) (by omega)];omega
theorem nk_mul {a b:Nat} (h:a*b<9223372036854775808):IntKind.i64.wrap ((a:Int)*(b:Int))=((a*b:Nat):Int):=by
  have h2:(a:Int)*(b:Int)=((a*b:Nat):Int):=by simp
  rw [h2,wrap_i64 (by omega) (by omega)]
theorem nk_sub {a b:Nat} (h:b≤a) (h2:a<9223372036854775808):IntKind.i64.wrap ((a:Int)-(b:Int))=((a-b:Nat):Int):=by rw [wrap_i64 (by omega) (by omega)];omega
def fcells (n:Nat) (f:Nat→Value):Array Value:=((List.range n).map f).toArray
theorem fcells_size (n:Nat) (f:Nat→Value):(fcells n f).size=n:=by simp [fcells]
theorem fcells_get {n i:Nat} {f:Nat→Value} (h:i<n):(fcells n f)[i]? =some (f i):=by
  simp [fcells,List.getElem?_range h]
theorem fcells_ext {n:Nat} {cs:Array Value} {f:Nat→Value} (hs:cs.size=n) (h: ∀i,i<n→cs[i]? =some (f i)):cs=fcells n f:=by
  apply Array.ext_getElem?;intro i;by_cases hi:i<n
  · rw [h i hi,fcells_get hi]
  · rw [Array.getElem?_eq_none (by omega),Array.getElem?_eq_none (by rw [fcells_size];omega)]
theorem fcells_set {n i:Nat} {f f2:Nat→Value} {v:Value} (hi:i<n) (hv:f2 i=v) (h: ∀j,j≠i→f2 j=f j):(fcells n f).setIfInBounds i v=fcells n f2:=by
  refine fcells_ext (by simp [fcells_size]) (fun j hj=> ?_);rw [Array.getElem?_setIfInBounds,fcells_size];by_cases e:i=j
  · subst e;rw [if_pos rfl,if_pos hi,hv]
  · rw [if_neg e,fcells_get hj,h j (fun h=>e h.symm)]
theorem fcells_blt {n i:Nat} {f:Nat→Value} (h:i<n):Nat.blt i (fcells n f).size=true:=by
  rw [fcells_size]
  simpa using h
theorem fmap_len (n:Nat) (f:Nat→Value):((List.range n).map f).length=n:=by rw [List.length_map,List.length_range]
theorem fcells_one {n:Nat} {f:Nat→Value} (h: ∀j,(f j).oneCell'=true):((List.range n).map f).all (·.oneCell')=true:=by
  rw [List.all_eq_true];intro v hv;obtain ⟨j,_,rfl⟩:=List.mem_map.1 hv;exact h j
theorem dk_storeF {P:Program} {o:Oper} {T:Array Value} {ds:List Deferred} {n:Nat} {l:List (Nat×Value)} {w:World} {t k:Nat} {x y:Operand} {g:Nat} {f:Nat→Value} {cs:Array Value} {tb:Nat} (E:Env T n l) (ho:o.op= .store t x y) (hx:ev l x=some (.pointer (some ⟨g,0,none⟩))) (hy:ev l y=some (.agg (fcells k f))) (h1: ∀j,(f j).oneCell'=true) (ht:(P.info? t).map (·.size)=some k) (hb:w.heap[g]? =some (.cells cs tb (0,0))) (hi:cs.size=k):Dk P o ⟨T,ds⟩ w (setBlk w g (fcells k f) tb):=
  dk_storeAll (vs:=(List.range k).map f) E ho hx hy (fcells_one h1) ht (fmap_len _ _) hb hi
def upd (f:Nat→Int) (i:Nat) (v:Int):Nat→Int:=fun j=>if j=i then v else f j
def byteF (D:Nat→Int):Prop:=∀j,0≤D j∧D j<256
theorem byteF_upd {D:Nat→Int} (h:byteF D) (i:Nat) {v:Int} (hv:0≤v∧v<256):byteF (upd D i v):=fun j=>by
  unfold upd
  split
  · exact hv
  · exact h j
theorem wrap8 (a:Int):0≤IntKind.u8.wrap a∧IntKind.u8.wrap a<256:=by
  simp only [IntKind.wrap,IntKind.signed,IntKind.bits];simp;omega
def rowB (D:Nat→Int) (n:Nat):List UInt8:=(List.range n).map (fun j=>UInt8.ofNat (D j).toNat)
theorem rowB_len (D:Nat→Int) (n:Nat):(rowB D n).length=n:=by simp [rowB]
theorem rowB_cell {D:Nat→Int} (h:byteF D) {n j:Nat} (hj:j<n):(bcells (rowB D n))[j]? =some (.int .u8 (D j)):=by
  have h1:=h j;simp only [bcells,rowB,List.getElem?_map,List.getElem?_range hj,Option.map_some,bcell]
  congr 2
  have:(UInt8.ofNat (D j).toNat).toNat=(D j).toNat:=by simp;omega
  rw [this];omega
section
variable {P:Program} {ops:Array Oper} {Q:Exit→Act→World→Prop} {o:Oper} {T:Array Value} {ds:List Deferred} {n:Nat} {l:List (Nat×Value)} {w:World}
theorem ru_appR {t base m c tb:Nat} {s x:Operand} {v:Value} {A:Option Addr} {xs:List UInt8} {D:Nat→Int} (E:Env T n l) (ho:o.op= .call {callee:= .builtin .append,args:=#[s,x],argTypes:=#[t,t]}) (hg:o.guard=none) (hs:ev l s=some v) (hx:ev l x=some (.slice A m c))
    (ht:underB P t (isSlice 5)=true) (hi:infoB P 5 1 1 (.int .u8 0)) (hown:OwnB base w v xs) (hr:Row w tb A m (fun j=> .int .u8 (D j))) (hm:0<m) (hD:byteF D) (hlen:xs.length+m≤140737488355328) (hbase:base≤w.heap.size):
    Ru P ops Q o ⟨T,ds⟩ w (fun v1 w1=> ∃A c,v1= .slice A (xs++rowB D m).length c∧Mv [5] base w w1∧w.grownBy w1 v.ownBlock∧OwnB base w1 (.slice A (xs++rowB D m).length c) (xs++rowB D m)∧New w v (.slice A (xs++rowB D m).length c)):=by
  obtain ⟨ad,rfl⟩:=Option.isSome_iff_exists.1 (hr.sure hm);refine (ru_append (m0:=xs.length) (xs:=bcells xs) (news:=bcells (rowB D m)) E ho hg hs hx ht hi rfl (by decide) hown (by simp [bcells,rowB_len]) (fun j u hj=> ?_) (bcells_one _) (by simp only [maxLen];omega) (by omega) hbase).mono ?_
  · have hj':j<m:=by
      have:=(List.getElem?_eq_some_iff.1 hj).1
      simpa [bcells,rowB_len] using this
    rw [rowB_cell hD hj'] at hj;injection hj with hj;subst hj;exact hr.cell hj'
  · rintro v1 w1 ⟨h1,h2,h3,h4⟩
    have h5:OwnB base w1 v1 (xs++rowB D m):=by
      unfold OwnB;rw [List.length_append,rowB_len]
      simpa [bcells] using h3
    obtain ⟨A,c,rfl⟩:=h5.form;exact ⟨A,c,rfl,h1,h2,h5,h4⟩
end
theorem upd_at (f:Nat→Int) (i:Nat) (v:Int):upd f i v i=v:=if_pos rfl
theorem upd_ne (f:Nat→Int) {i j:Nat} (v:Int) (h:j≠i):upd f i v j=f j:=if_neg h
end Go.Proofs.YtlnknihjccdgkaaGreatDoor.X
