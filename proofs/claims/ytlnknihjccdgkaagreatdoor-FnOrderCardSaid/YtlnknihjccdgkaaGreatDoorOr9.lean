/- laws.FnOrder: whatever the seats, the acts and the order that are drawn, it returns true, and its arguments read as before; the package's variables as the program's text lays them. -/
import Derived.Test.YtlnknihjccdgkaaGreatDoorOr8
import Derived.Test.YtlnknihjccdgkaaGreatDoorRows
import Derived.LaidLaws
import Derived.LaidMore
import Derived.OpenShut
import Derived.Deep.Slices
import Derived.MakeChecks
import Derived.Test.YtlnknihjccdgkaaGreatDoorTie
import Derived.Test.YtlnknihjccdgkaaGreatDoorCards
import Derived.WalkKit
import Derived.ProofKit
import Derived.ChangeOld
import Derived.Carry
import Derived.Below
import Derived.SizedLaws
import Derived.SevenTiedAt
import Derived.Lib.SmallJoins
namespace Go.Proofs.YtlnknihjccdgkaaGreatDoor.X
open Go.RowKit
section
variable {P:Program} {ops:Array Oper} {Q:Exit→Act→World→Prop} {o:Oper} {T:Array Value} {ds:List Deferred} {n:Nat} {l:List (Nat×Value)} {w:World}
theorem rg3 {id:Nat} {lops:List Oper} {T0:Array Value} {n:Nat} {l0:List (Nat×Value)} {ds:List Deferred} {w0:World} (G:Nat→Value) (n0 ks i1 i2 d1 d2:Nat) (σ:List Nat) (base:Nat) (Mk:World→World→Prop) (C:Nat→World→Prop) (Rs:List (Value→World→Prop)) (E0:Env T0 n l0) (hm:P.follows .mixedOrders=true) (hF:formB lops.toArray n0 n=true) (hd1:Nat.blt i1 n0=true∧(lops.toArray[i1]?).bind (·.dst)=some d1) (hd2:Nat.blt i2 n0=true∧(lops.toArray[i2]?).bind (·.dst)=some d2) (h12:Nat.beq i1 i2=false) (hG: ∀a b,G a=G b→a=b) (hMk: ∀w w1,Mk w w1→Mv σ base w w1) (hkn:Nat.blt ks n0=true) (hks:((lops.toArray[ks]?).map (fun o=>o.dst.isNone && (needs o).contains i1))=some true) (hC: ∀g w w1,C g w→Mv [] 0 w w1→C g w1)
    (hst:AllI (fun i=> ∀v w w1,Rn Rs i v w→Mv [] 0 w w1→Rn Rs i v w1) 0 n0) (hst1:AllI (fun i=>Nat.beq i ks=false→∀v w w1,Rn Rs i v w→Mk w w1→Rn Rs i v w1) 0 n0)
    (step:AllI (fun i=> ∀T w,Mv (bif Nat.beq i ks then [] else σ) (bif Nat.beq i ks then 0 else base) w0.drew w→T.size=n→(∀s,oldB lops.toArray n0 i s=true→T[s]? =T0[s]?)→(∀j,(needs (opAt lops.toArray i)).contains j=true→Left lops.toArray (Rn Rs) j T w)→Ru P lops.toArray Q (opAt lops.toArray i) ⟨T,ds⟩ w (fun v w1=>((bif Nat.beq i ks then Mk w w1∧∃g,T[d1]? =some (G g)∧C g w1 else Mv [] 0 w w1)∧(bif Nat.beq i i1 || Nat.beq i i2 then ∃g,v=G g∧w.heap.size≤g∧g<w1.heap.size else True))∧Rn Rs i v w1)) 0 n0)
    (fin: ∀T w,Mv σ base w0.drew w→T.size=n→(∀s,(dstOf lops.toArray n0).contains (some s)=false→T[s]? =T0[s]?)→(∀j,Nat.blt j n0=true→Left lops.toArray (Rn Rs) j T w)→T[d1]? ≠T[d2]? →(∃g,T[d1]? =some (G g)∧C g w)→wpList P lops.toArray Q (lops.drop n0) ⟨T,ds⟩ w):
    (Code.region id lops.toArray true).wp P Q ⟨T0,ds⟩ w0:=by
  have F:=formB_spec hF;refine wp_region_any hm ?_;have h0: ∀j,(Array.replicate lops.toArray.size false).getD j false=false:=fun j=>by
    simp [Array.getD_eq_getD_getElem?];cases h:(Array.replicate lops.length false)[j]? with
    | none=>rfl
    | some b=>simp [Array.getElem?_replicate] at h;simp [h]
  have msz: ∀(i:Nat) (T:Array Value) (w w1:World),(bif Nat.beq i ks then Mk w w1∧∃g,T[d1]? =some (G g)∧C g w1 else Mv [] 0 w w1)→w.heap.size≤w1.heap.size:=fun i T w w1 h=>by
    cases hb:Nat.beq i ks with
    | false=>rw [hb] at h;exact h.size
    | true=>rw [hb] at h;exact (hMk _ _ h.1).size
  have hko: ∀o,lops.toArray[ks]? =some o→o.dst=none∧(needs o).contains i1=true:=fun o ho=>by
    rw [ho] at hks;simp only [Option.map_some,Option.some.injEq,Bool.and_eq_true,Option.isNone_iff_eq_none] at hks;exact hks
  refine rg_any (R:=Rn Rs) (M:=fun i T w v w1=>(bif Nat.beq i ks then Mk w w1∧∃g,T[d1]? =some (G g)∧C g w1 else Mv [] 0 w w1)∧(bif Nat.beq i i1 || Nat.beq i i2 then ∃g,v=G g∧w.heap.size≤g∧g<w1.heap.size else True)) (H:=fun l w=>Mv σ base w0.drew w∧(l.getD ks false=false→Mv [] 0 w0.drew w)) (X:=fun l T w=>(l.getD ks false=true→l.getD i1 false=true∧∃g,T[d1]? =some (G g)∧C g w)∧(l.getD i1 false=true→∃g,T[d1]? =some (G g)∧g<w.heap.size)∧(l.getD i2 false=true→∃g,T[d2]? =some (G g)∧g<w.heap.size)∧(l.getD i1 false=true→l.getD i2 false=true→T[d1]? ≠T[d2]?)) F E0.1 ?_ ?_ ?_ ?_ ?_ lops.toArray.size _ T0 _ (by simp) ?_ ⟨Mv.refl _ _ _,fun _=>Mv.refl _ _ _⟩ ?_ E0.1 ?_ ?_ ?_ ?_
  · intro i l _ w v w1 _ hl hun hH h
    replace h:=h.1;cases hb:Nat.beq i ks with
    | false=>
      rw [hb] at h;refine ⟨hH.1.trans (Mv.of_below h.below0 _ _),fun hk=>(hH.2 ?_).trans h⟩;have hne:i≠ks:=fun e=>by subst e;simp at hb
      rw [getD_set_ne false hne] at hk;exact hk
    | true=>
      rw [hb] at h;refine ⟨hH.1.trans (hMk _ _ h.1),fun hk=> ?_⟩;obtain rfl:=Nat.eq_of_beq_eq_true hb;simp [hl] at hk
  · intro i o l T w v w1 a1 ho a3 a4 ac a5 hX hm
    refine ⟨fun hk=> ?_,pair_step hG F hd1 hd2 h12 i o l T w v w1 a1 ho a3 a4 a5 hX.2 ⟨msz i T w w1 hm.1,hm.2⟩⟩;cases hb:Nat.beq i ks with
    | true=>
      obtain rfl:=Nat.eq_of_beq_eq_true hb;have h1:=hm.1;rw [hb] at h1;obtain ⟨h2,h3⟩:=hko o ho;have h4:=ac i1 (by simpa using h3);have hne:i≠i1:=fun e=>by subst e;rw [a4] at h4;cases h4
      refine ⟨by rw [getD_set_ne false hne];exact h4,?_⟩;rw [h2];exact h1.2
    | false=>
      have h1:=hm.1;rw [hb] at h1;have hne:i≠ks:=fun e=>by subst e;simp at hb
      rw [getD_set_ne false hne] at hk;obtain ⟨h4,g,h5,h6⟩:=hX.1 hk;have hne1:i≠i1:=fun e=>by subst e;rw [a4] at h4;cases h4
      refine ⟨by rw [getD_set_ne false hne1];exact h4,g,?_,hC g _ _ h6 h1⟩;rw [← h5];obtain ⟨hb1,hd1⟩:=hd1;cases hok:lops.toArray[i1]? with
      | none=>rw [hok] at hd1;cases hd1
      | some ok=>
        rw [hok] at hd1;have h7:=F.one i1 ok d1 (by simpa using hb1) hok hd1;cases hod:o.dst with
        | none=>rfl
        | some d3=>
          simp only;rw [Array.getElem?_setIfInBounds_ne];rintro rfl;exact hne1 (h7.2 i o a1 ho hod)
  · intro i j _ v w u w1 _ hj hne hR h
    replace h:=h.1;cases hb:Nat.beq i ks with
    | false=>
      rw [hb] at h;exact hst.get (Nat.zero_le _) (by omega) v w w1 hR h
    | true=>
      rw [hb] at h;obtain rfl:=Nat.eq_of_beq_eq_true hb;exact hst1.get (Nat.zero_le _) (by omega) (nbeq (Ne.symm hne)) v w w1 hR h.1
  · intro i o hi ho l T w hun hmv hT hold hN
    have hoe:opAt lops.toArray i=o:=by
      have:=(Array.getElem?_eq_some_iff.1 ho);unfold opAt;rw [Array.getD_eq_getD_getElem?,ho];rfl
    have hm2:Mv (bif Nat.beq i ks then [] else σ) (bif Nat.beq i ks then 0 else base) w0.drew w:=by
      cases hb:Nat.beq i ks with
      | false=>exact hmv.1
      | true=>
        obtain rfl:=Nat.eq_of_beq_eq_true hb;exact hmv.2 hun
    have h1:=step.get (Nat.zero_le _) (by omega:i<0+n0) T w hm2 hT hold;rw [hoe] at h1;exact h1 (fun j hj=>hN j (by simpa using hj))
  · intro l T w hmv hall hXl hT hold hl
    have:=fin T w hmv.1 hT (fun s hs=>hold s (fun j o hj ho hd=> ?_)) (fun j hj=>hl j (by simpa using hj)) (hXl.2.2.2 (hall i1 (by simpa using hd1.1)) (hall i2 (by simpa using hd2.1))) (hXl.1 (hall ks (by simpa using hkn))).2
    · simpa using this
    · have h1:some s∈dstOf lops.toArray n0:=by
        simp only [dstOf,List.mem_map,List.mem_range];exact ⟨j,hj,by rw [ho];exact hd⟩
      have h2:(dstOf lops.toArray n0).contains (some s)=true:=by simpa using h1
      rw [hs] at h2;cases h2
  · exact Nat.le_trans List.countP_le_length (by simp)
  · exact ⟨fun h=>(by rw [h0] at h;cases h),fun h=>(by rw [h0] at h;cases h),fun h=>(by rw [h0] at h;cases h),fun h=>(by rw [h0] at h;cases h)⟩
  · intro j o hj hl
    simp at hl;have:=h0 j
    simp_all
  · intro j h1 h2
    simp at h2;simp [h2]
  · intro s _;rfl
  · intro j hj hl
    rw [h0] at hl;cases hl
def K58 (w:World) (g:Nat):Prop:=∃cs:Array Value,cs.size=11∧w.heap[g]? =some (.cells cs 58 (0,0))
theorem K58.mv {w w1:World} {g:Nat} (h:K58 w g) (e:Mv [] 0 w w1):K58 w1 g:=by
  obtain ⟨cs,h1,h2⟩:=h;exact ⟨cs,h1,e.blk h2 rfl⟩
theorem K58.lt {w:World} {g:Nat} (h:K58 w g):g<w.heap.size:=by
  obtain ⟨cs,h1,h2⟩:=h;exact heap_lt h2
theorem at58 {T:Array Value} {d g:Nat} {C:Nat→Prop} (h:T[d]? =some (.pointer (some ⟨g,0,none⟩))) (q: ∃g,T[d]? =some (.pointer (some ⟨g,0,none⟩))∧C g):C g:=by
  obtain ⟨k,h1,h2⟩:=q;rw [h] at h1;simp only [Option.some.injEq,Value.pointer.injEq,Addr.mk.injEq,and_true] at h1;subst h1;exact h2
def Mk58 (b:Nat) (w w1:World):Prop:=Mv [58] b w w1∧∀g,K58 w g→K58 w1 g
theorem Mk58.mk {b g:Nat} {w w1:World} {cs:Array Value} (e:Mv [58] g w w1) (n: ∀b x,w.heap[b]? =some x→b≠g→w1.heap[b]? =some x) (h:w1.heap[g]? =some (.cells cs 58 (0,0))) (hc:cs.size=11) (hb:b≤g):Mk58 b w w1:=⟨e.up rfl hb,fun q ⟨cq,h1,h2⟩=>by
  by_cases e:q=g
  · subst e;exact ⟨cs,hc,h⟩
  · exact ⟨cq,h1,n q _ h2 e⟩⟩
theorem ru_alloc58 {z:Value} (ho:o.op= .alloc 58) (hg:o.guard=none) (hz:(P.info? 58).bind (·.zero)=some z) (hk:z.cells.size=11):
    Ru P ops Q o ⟨T,ds⟩ w (fun v w1=> ∃g,v= .pointer (some ⟨g,0,none⟩)∧Mv [] 0 w w1∧w.heap.size≤g∧g≥w.heap.size∧K58 w1 g):=
  (ru_alloc ho hg hz).mono (fun v w1 ⟨g,h1,h2,h3,h4,h5⟩=>⟨g,h1,h2,h3,h3,_,hk,h5⟩)
theorem ru_store58 {t g:Nat} {x y:Operand} {vs:List Value} (E:Env T n l) (hK:K58 w g) (ho:o.op= .store t x y) (hg:o.guard=none) (hx:ev l x=some (.pointer (some ⟨g,0,none⟩))) (hy:ev l y=some (.agg vs.toArray)) (hk:(P.info? t).map (·.size)=some 11) (h1:vs.all (·.oneCell')=true) (hs:vs.length=11):
    Ru P ops Q o ⟨T,ds⟩ w (fun v w1=>v=undef∧Mv [58] g w w1∧(∀b x,w.heap[b]? =some x→b≠g→w1.heap[b]? =some x)∧w1.heap[g]? =some (.cells vs.toArray 58 (0,0))):=by
  obtain ⟨c0,h2,hb⟩:=hK;exact Ru.k (dk_storeAll E ho hx hy h1 hk hs hb h2) hg ⟨rfl,mv_setBlk hb,fun b x hx hne=>setBlk_keep hx hne,setBlk_at (heap_lt hb)⟩
theorem ru_build0 {t e:Nat} (E:Env T n l) (ho:o.op= .buildSlice t 0 #[]:=by exact rfl) (hg:o.guard=none:=by exact rfl) (ht:underB P t (isSlice e)=true:=by kernel_rfl) (hi:(P.info? e).isSome=true:=by kernel_rfl):
    Ru P ops Q o ⟨T,ds⟩ w (fun u w1=> ∃g,u= .slice (some ⟨g,0,none⟩) 0 0∧Mv [] 0 w w1∧w.heap.size≤g∧g=w.heap.size∧w1.heap[g]? =some (.cells #[] e (0,0))):=by
  have hu:=under_slice ht;obtain ⟨ie,hie⟩:=Option.isSome_iff_exists.1 hi;have hr:(Instr.buildSlice t 0 #[]).run P w= .ok (.slice (some ⟨w.heap.size,0,none⟩) 0 0) (w.alloc (.cells #[] e)):=by
    simp [Instr.buildSlice,run_underlying hu,sizeOf,typeInfo,hie,Instr.fill,newRow,Sem.run_bind,Sem.run_pure,go_sem]
    try rfl
  exact Ru.v (dv_of (by unfold execOp;rw [ho]) (by simpa using hr)) hg ⟨_,rfl,mv_alloc _ _ _ _,Nat.le_refl _,rfl,heap_new _ _⟩
theorem OwnT.zero {base e k g:Nat} {vals:Nat→Array Value} (hb:w.heap[g]? =some (.cells #[] e (0,0))) (hg:base≤g):OwnT base w e k (.slice (some ⟨g,0,none⟩) 0 0) 0 vals:=
  ⟨fun _ h=>absurd h (Nat.not_lt_zero _),by simp [flat],.inr ⟨g,0,#[],rfl,hg,hb,Nat.le_refl _,by simp [maxLen],by simp,by simp [flat]⟩⟩
theorem ru_appTab0 {t t2 e k by_ m c base:Nat} {z v0:Value} {s x:Operand} {ad:Addr} {vals vals0:Nat→Array Value} (E:Env T n l) (hown:OwnT base w e k v0 0 vals0) (htab:Tab w t2 (some ad) k m vals) (hbase:base≤w.heap.size) (hm:m<140737488355328 / by_-1) (ho:o.op= .call {callee:= .builtin .append,args:=#[s,x],argTypes:=#[t,t]}) (hg:o.guard=none) (hs:ev l s=some v0) (hx:ev l x=some (.slice (some ad) m c))
    (ht:underB P t (isSlice e)=true) (hi:infoB P e k by_ z) (hz:z.cells.size=k) (hk:0<k) (hv: ∀i,i<m→(vals i).size=k∧(vals i).toList.all (·.oneCell')=true) (hby:0<by_):
    Ru P ops Q o ⟨T,ds⟩ w (fun v1 w1=> ∃A c,v1= .slice A m c∧Mv [e] base w w1∧OwnT base w1 e k (.slice A m c) m vals):=by
  have hm2:m≤140737488355328 / by_:=by omega
  have hm3:m*by_≤140737488355328:=Nat.le_trans (Nat.mul_le_mul_right _ hm2) (Nat.div_mul_le_self _ _);have hm4:m≤m*by_:=Nat.le_mul_of_pos_right _ hby
  have hsz: ∀i,i<m→(vals i).size=k:=fun i hi=>(hv i hi).1;refine (ru_append (base:=base) (m0:=0) (m:=m) (xs:=flat 0 vals0) (news:=flat m vals) E ho hg hs hx ht hi hz hk hown.2 (flat_len hsz) (flat_at htab hsz hk) (fun u hu=> ?_) (by simp only [maxLen];omega) (by rw [Nat.zero_add];exact hm3) hbase).mono ?_
  · unfold flat at hu
    obtain ⟨i,hi,hu⟩:=List.mem_flatMap.1 hu;exact List.all_eq_true.1 (hv i (List.mem_range.1 hi)).2 u hu
  · rintro v1 w1 ⟨h2,h3,h4,h5⟩
    rw [Nat.zero_add,show flat 0 vals0=[] from rfl,List.nil_append] at h4;have h6:OwnT base w1 e k v1 m vals:=⟨hsz,h4⟩;obtain ⟨A,c2,rfl⟩:=h6.form;exact ⟨A,c2,rfl,h2,h6⟩
end
end Go.Proofs.YtlnknihjccdgkaaGreatDoor.X
namespace Go.Proofs.YtlnknihjccdgkaaGreatDoor.V
open Go.RowKit Go.Proofs.YtlnknihjccdgkaaGreatDoor.X
set_option linter.unusedVariables false
set_option linter.unusedSimpArgs false
set_option maxHeartbeats 4000000
set_option maxRecDepth 100000
def actL (l:List AA) (i:Nat):AA:=l.getD i AA.nil
def actC (a:AA):Array Value:=#[.int .i64 a.who,.int .i64 a.bk,.int .i64 a.tm,.int .i64 a.wr,.int .i64 a.pe]
theorem actC_ok (a:AA):(actC a).size=5∧(actC a).toList.all (·.oneCell')=true:=⟨rfl,rfl⟩
def onceA (a:AA):AA:=⟨a.who,a.bk,a.tm,39,0⟩
structure OnceL (n:Nat) (l:List AA):Prop where
  each: ∀a∈l,a.Ok∧a.wr=39∧a.pe=0
  apart:l.Pairwise (fun a b=>belowF a.who n≠belowF b.who n)
theorem OnceL.nil (n:Nat):OnceL n []:=⟨fun s h=>(by cases h),.nil⟩
theorem onceA_ok {a:AA} (ha:a.Ok):(onceA a).Ok∧(onceA a).wr=39∧(onceA a).pe=0:=
  ⟨⟨ha.who,ha.bk,ha.tm,(show InR 39 from ⟨by decide,by decide⟩),(show InR 0 from ⟨by decide,by decide⟩)⟩,rfl,rfl⟩
theorem OnceL.snoc {n:Nat} {l:List AA} {a:AA} (h:OnceL n l) (ha:a.Ok) (hn: ∀j,j<l.length→belowF a.who n≠belowF (actL l j).who n):OnceL n (l++ [onceA a]):=
  ⟨fun x hx=>(List.mem_append.1 hx).elim (h.each x) (fun hx=>(List.mem_singleton.1 hx)▸onceA_ok ha),
   List.pairwise_append.2 ⟨h.apart,List.pairwise_singleton _ _,fun x hx b hb=>by
    obtain rfl:=List.mem_singleton.1 hb;obtain ⟨j,hj,rfl⟩:=List.getElem_of_mem hx;have:=hn j hj;unfold actL at this;rw [List.getD_eq_getElem?_getD,List.getElem?_eq_getElem hj] at this;exact fun e=>this e.symm⟩⟩
theorem OnceL.perm {n:Nat} {l k:List AA} (h:OnceL n l) (p:l.Perm k):OnceL n k:=
  ⟨fun s hs=>h.each s (p.mem_iff.2 hs),(List.Perm.pairwise_iff (R:=fun a b:AA=>belowF a.who n≠belowF b.who n) (fun h=>Ne.symm h) p).1 h.apart⟩
theorem actL_mem {l:List AA} {i:Nat} (h:i<l.length):actL l i∈l:=by
  unfold actL;rw [List.getD_eq_getElem?_getD,List.getElem?_eq_getElem h];exact List.getElem_mem h
theorem len_apart {α:Type} (f:α→Nat) {l:List α} {n:Nat} (h:l.Pairwise (fun a b=>f a≠f b)) (hn: ∀a∈l,f a<n):l.length≤n:=by
  have:=sum_sub (f:=fun _=>1) (l.map f) (List.range n) (List.pairwise_map.2 h) (fun k hk=>by
    obtain ⟨a,ha,rfl⟩:=List.mem_map.1 hk;exact List.mem_range.2 (hn a ha))
  rw [List.map_const',List.map_const',List.length_map,List.length_range] at this
  simpa using this
theorem OnceL.len {n:Nat} {l:List AA} (h:OnceL n l) (hn:0<n):l.length≤n:=by
  have h1: ∀a∈l,belowF a.who n<n:=fun a ha=>belowF_lt (h.each a ha).1.who hn;exact len_apart (fun a:AA=>belowF a.who n) h.apart h1
def swapA (l:List AA) (a b:Nat):List AA:=(l.set a (actL l b)).set b (actL l a)
theorem swapA_perm {l k:List AA} {a b:Nat} (h:l.Perm k) (ha:a<k.length) (hb:b<k.length):(swapA l a b).Perm k:=by
  have hl:=h.length_eq;refine List.Perm.trans ?_ h;unfold swapA actL;rw [List.getD_eq_getElem?_getD,List.getElem?_eq_getElem (show b<l.length by omega),List.getD_eq_getElem?_getD,List.getElem?_eq_getElem (show a<l.length by omega)];exact List.set_set_perm (by omega) (by omega)
theorem swapA_at {l:List AA} {a b:Nat} (ha:a<l.length) (hb:b<l.length) (j:Nat):updT (updT (fun j=>actC (actL l j)) a (actC (actL l b))) b (actC (actL l a)) j=actC (actL (swapA l a b) j):=by
  unfold updT swapA;by_cases h1:j=b
  · subst h1
    rw [if_pos rfl];unfold actL;rw [List.getD_eq_getElem?_getD (l:=List.set _ _ _),List.getElem?_set_self (by simp;omega)];rfl
  · rw [if_neg h1]
    by_cases h2:j=a
    · subst h2
      rw [if_pos rfl];unfold actL;rw [List.getD_eq_getElem?_getD (l:=List.set _ _ _),List.getElem?_set_ne (by omega),List.getElem?_set_self (by omega)];rfl
    · rw [if_neg h2]
      unfold actL;rw [List.getD_eq_getElem?_getD (l:=List.set _ _ _),List.getElem?_set_ne (by omega),List.getElem?_set_ne (by omega),← List.getD_eq_getElem?_getD]
theorem acts_snoc {l:List AA} {a:AA} {k:Nat} (hk:l.length=k) (j:Nat) (hj:j<k+1):updT (fun j=>actC (actL l j)) k (actC a) j=actC (actL (l++ [a]) j):=by
  subst hk;unfold updT actL;by_cases h:j=l.length
  · subst h
    rw [if_pos rfl,List.getD_eq_getElem?_getD,List.getElem?_concat_length];rfl
  · rw [if_neg h,List.getD_eq_getElem?_getD (l:=l++ [a]),List.getElem?_append_left (by omega),← List.getD_eq_getElem?_getD]
theorem stepsF_map (l:List ST) (kd:Nat) (on:List AA) {m:Nat} (hm:m=on.length):stepsF l kd (actL on) m=on.map (stepOf l kd):=by
  subst hm;unfold stepsF;apply List.ext_getElem
  · simp
  · intro i h1 h2
    simp only [List.length_map] at h2;simp [actL,List.getD_eq_getElem?_getD,h2]
theorem below39:belowF 39 40=39:=by decide
theorem why0 {c:Cf} {v:Vt} {k:Nat} (h1:v.pl=(k:Int)) (h2:v.ad≠ .empty) (h3:v.kd=c.kd∧v.ht=c.ht∧v.rd=c.rd) (h4:k<c.n) (h5:v.ad=(c.seat k).ad):why c v=0:=by
  unfold why;rw [h1,if_neg (by omega),if_neg h2,if_neg (fun h=>h h3),if_neg (by omega),if_neg (fun h=>h h5)]
theorem once_step {l:List ST} (hg:GoodS l) {a:AA} (ha:a.Ok∧a.wr=39∧a.pe=0) (h0:0<l.length):(stepOf l 2 a).peer= .empty∧why (cfOf l 2) (stepOf l 2 a).v=0∧rightV (cfOf l 2) (stepOf l 2 a).v=true∧(stepOf l 2 a).v.at_=belowF a.who l.length:=by
  obtain ⟨hk,hw,hp⟩:=ha;have hl:=belowF_lt hk.who h0;have e:stepOf l 2 a=⟨.empty,voteW l 2 39 (belowF a.who l.length) (belowF a.tm 3) (belowF a.tm 2) (belowF a.bk 4)⟩:=by
    unfold stepOf;rw [if_pos hp,hw,below39]
  rw [e]
  generalize belowF a.who l.length=k at hl
  have had:=hg.each _ (seatL_mem hl);refine ⟨rfl,why0 (k:=k) rfl (fun e=> ?_) ⟨rfl,rfl,rfl⟩ hl rfl,?_,rfl⟩
  · have e2:(seatL l k).ad=ByteArray.empty:=e
    rw [e2] at had;exact absurd had.2.2.1 (by decide)
  · rw [rightV_of (i:=k) rfl (show k<(cfOf l 2).n from hl)]
    exact decide_eq_true rfl
theorem once_stand {l:List ST} (hg:GoodS l) (h0:0<l.length) {on:List AA} (ho:OnceL l.length on):Stand (cfOf l 2) (foldM (cfOf l 2) VM.new (on.map (stepOf l 2))) ((on.map (stepOf l 2)).map Sp.v):=by
  have h:=stand_fold (on.map (stepOf l 2)) (Stand.new (cfOf l 2)) (fun s hs=>by
    obtain ⟨a,ha,rfl⟩:=List.mem_map.1 hs;have:=once_step hg (ho.each a ha) h0;exact ⟨this.1,this.2.1,this.2.2.1⟩) (by
    rw [List.nil_append,List.map_map];refine List.pairwise_map.2 (ho.apart.imp_of_mem (fun {a b} ha hb hne=> ?_));show (stepOf l 2 a).v.at_≠(stepOf l 2 b).v.at_;rw [(once_step hg (ho.each a ha) h0).2.2.2,(once_step hg (ho.each b hb) h0).2.2.2];exact hne)
  rwa [List.nil_append] at h
theorem once_alike {l:List ST} (hg:GoodS l) (h0:0<l.length) {on ot:List AA} (ho:OnceL l.length on) (p:ot.Perm on) {m:Nat} (hm:on.length=m+1):
    (sAt (cfOf l 2) (on.map (stepOf l 2)) m).1.most=(sAt (cfOf l 2) (ot.map (stepOf l 2)) m).1.most∧(sAt (cfOf l 2) (on.map (stepOf l 2)) m).1.sum=(sAt (cfOf l 2) (ot.map (stepOf l 2)) m).1.sum∧∀i,((sAt (cfOf l 2) (on.map (stepOf l 2)) m).1.vs i).isSome=((sAt (cfOf l 2) (ot.map (stepOf l 2)) m).1.vs i).isSome:=by
  have hf: ∀x:List AA,x.length=m+1→(sAt (cfOf l 2) (x.map (stepOf l 2)) m).1=foldM (cfOf l 2) VM.new (x.map (stepOf l 2)):=fun x hx=>by
    have hlen:(x.map (stepOf l 2)).length=m+1:=by rw [List.length_map,hx]
    rw [← mAt_succ _ (by omega)];unfold mAt;rw [List.take_of_length_le (by omega)]
  rw [hf on hm,hf ot (by rw [p.length_eq,hm])];refine stand_alike (once_stand hg h0 ho) (once_stand hg h0 (ho.perm p.symm)) ((p.symm.map _).map _) (fun v hv=> ?_);obtain ⟨s,hs,rfl⟩:=List.mem_map.1 hv;obtain ⟨a,ha,rfl⟩:=List.mem_map.1 hs;rw [(once_step hg (ho.each a ha) h0).2.2.2];exact belowF_lt (ho.each a ha).1.who h0
theorem sameAct_c (w:World) (b:AA) (hb:InR b.who) (g1 g2:Nat) (a:AA) (ha:InR a.who) (n c1:Nat) (A1:Option Addr) (hn:0<n) (hn2:n≤12) (b1:w.heap[g1]? =some (.cells #[Iw a.who,Iw a.bk,Iw a.tm,Iw a.wr,Iw a.pe] 69 (0,0))) (b2:w.heap[g2]? =some (.cells #[.slice A1 n c1] 25 (0,0))):Ret Tryz.prog 26 #[.agg #[Iw b.who,Iw b.bk,Iw b.tm,Iw b.wr,Iw b.pe],Pt g1,Pt g2] w (fun v w1=> ∃q,v= .bool q∧Mv [] 0 w w1∧(q=false→belowF a.who n≠belowF b.who n)):=by
 refine en 16 Tryz.func26 fun T E=>?_;have y1:=heap_lt b1;have y2:=heap_lt b2;have ho:=Below.refl w.heap.size w;refine sq ?_;refine sr E (rbx E) ?_;rintro _ w1 ⟨g1_,rfl,e1,lg1_,xg1_,b2_⟩ T E;have zw1:=e1.size;have yg1_:=heap_lt b2_;refine go [1,4] ?_;intro T E;refine wp_seq ?_;refine rgG 12 (Kv4 (Kv8 [])) [([],[1]),([0],[]),([],[2]),([2],[]),([1,3],[]),([],[3]),([5],[]),([],[2]),([7],[]),([6,8],[]),([4,9],[]),([10],[])] E (by
  refine dg [50] ?_;refine .cons (fun _ _ e_ E _=>Ru.d (dv_load E rfl rfl (by kernel_rfl) (cell_of (e_.blk (e1.blk b1 rfl) rfl) rfl))) ?_;refine .cons (fun _ _ e_ E _=>Ru.d (dv_load E rfl rfl (by kernel_rfl) (cell_of (e_.blk (e1.blk b2 rfl) rfl) rfl))) ?_;refine dg [6] ?_;refine .cons ?_ ?_
  ·intro T w_ e_ E hN;have z_:=e_.size;have hb3_:=belowF_lt (n:=n) ha (by omega);refine (rr E Tryz.func8 (below_s w_ a.who n ha (by omega) (by omega))).mono ?_;rintro _ _ ⟨rfl,rfl⟩;exact ⟨Mv.refl _ _ _,rfl⟩
  refine dg [50,3] ?_;refine .cons (fun _ _ e_ E _=>Ru.d (dv_load E rfl rfl (by kernel_rfl) (cell_of (e_.blk (e1.blk b2 rfl) rfl) rfl))) ?_;refine dg [6] ?_;refine .cons ?_ ?_
  ·intro T w_ e_ E hN;have z_:=e_.size;have hb4_:=belowF_lt (n:=n) hb (by omega);refine (rr E Tryz.func8 (below_s w_ b.who n hb (by omega) (by omega))).mono ?_;rintro _ _ ⟨rfl,rfl⟩;exact ⟨Mv.refl _ _ _,rfl⟩
  refine .cons (fun _ _ _ E _=>Ru.d (dv_eql E rfl rfl rfl rfl)) ?_;exact dz [1]
  ) fun T w2 e2 hE hN=>?_
 have zw2:=e2.size;have E:=hE [11] [] trivial (by kernel_rfl);refine gn [4,17] ?_;replace ho:=old0 (old0 ho e1) e2;refine post1_ret E rfl rfl ?_;exact ⟨_,rfl,Mv.of_below ho _ _,fun h e=>of_decide_eq_false h (by rw [e])⟩
theorem indexAct_c (w:World) (f:Nat→AA) (t0:Nat) (A0:Option Addr) (k cp:Nat) (hk:k≤1000) (hf: ∀j,j<k→InR (f j).who) (ti:Tab w t0 A0 5 k (fun i=>actC (f i))) (ti_l:TLt w.heap.size A0) (g1 g2:Nat) (a:AA) (ha:InR a.who) (n c1:Nat) (A1:Option Addr) (hn:0<n) (hn2:n≤12) (b1:w.heap[g1]? =some (.cells #[Iw a.who,Iw a.bk,Iw a.tm,Iw a.wr,Iw a.pe] 69 (0,0))) (b2:w.heap[g2]? =some (.cells #[.slice A1 n c1] 25 (0,0))):Ret Tryz.prog 55 #[.slice A0 k cp,.func (.func 26) #[] #[Pt g1,Pt g2]] w (fun v w1=> ∃r:Int,v= .int .i64 r∧Mv [] 0 w w1∧(r<0→∀j,j<k→belowF a.who n≠belowF (f j).who n)):=by
 refine en 19 Tryz.func55 fun T E=>?_;have y1:=heap_lt b1;have y2:=heap_lt b2;have ho:=Below.refl w.heap.size w;refine go [5,1,4] ?_;intro T E;refine sk fun K1 hK1=>?_;refine go [5,0,6,0,4,18] ?_;intro T E;refine loopM (fun mm_ a_ W=> ∃(T:Array Value) (i:Nat),a_=⟨T,[]⟩∧k-i=mm_∧Env T 19 [(0,.slice A0 k cp),(1,.func (.func 26) #[] #[Pt g1,Pt g2]),(7,Iw ((k:Int))),(8,Iw ((i:Int)))]∧Tab W t0 A0 5 k (fun i=>actC (f i))∧W.heap[g1]? =some (.cells #[Iw a.who,Iw a.bk,Iw a.tm,Iw a.wr,Iw a.pe] 69 (0,0))∧W.heap[g2]? =some (.cells #[.slice A1 n c1] 25 (0,0))∧Below w.heap.size w W∧w.heap.size≤W.heap.size∧i≤k∧∀j,j<i→belowF a.who n≠belowF (f j).who n) (k) ?_ ?_
 ·exact ⟨_,0,rfl,rfl,E.sb,ti,b1,b2,ho,by omega,⟨Nat.zero_le _,fun j hj=>absurd hj (Nat.not_lt_zero _)⟩⟩
 ·rintro mm_ _ w1 ⟨T,i,rfl,rfl,E,ti,b1,b2,ho,hz,hi⟩;refine sq ?_;refine sv E (dv_lss E rfl rfl rfl (nc_lt i k)) fun T E=>?_;refine nq ?_;refine sk fun K2 hK2=>?_;refine c_s E rfl (fun hc1=> ?_) (fun hc1=> ?_)
  ·replace hc1:=of_decide_eq_true hc1;refine wp_skip ?_;refine hK2 _ _ ?_;refine sk fun K3 hK3=>?_;refine go [18,5,0,1,4,5,0,0,0] ?_;intro T E;refine sv E (dv_indexA (A:=A0) (k:=5) (i:=i) (j:=i*5) E rfl rfl rfl (by kernel_rfl) (by omega) (Tab.sure ti (by omega)) rfl) fun T E=>?_;refine sv E (dv_loadRow (k:=5) (vs:=#[Iw ((f i).who),Iw ((f i).bk),Iw ((f i).tm),Iw ((f i).wr),Iw ((f i).pe)]) E rfl rfl (by kernel_rfl) (by kernel_rfl) rfl (Tab.sub (r:=0) ti (by omega) rfl rfl (fun j hj=>by match j,hj with | 0,_=>rfl | 1,_=>rfl | 2,_=>rfl | 3,_=>rfl | 4,_=>rfl))) fun T E=>?_;refine sr E (ru_callFn (f:=26) (args:=[.agg #[Iw ((f i).who),Iw ((f i).bk),Iw ((f i).tm),Iw ((f i).wr),Iw ((f i).pe)]]) (caps:=[Pt g1,Pt g2]) E rfl rfl rfl rfl Tryz.func26 (by kernel_rfl) rfl (sameAct_c w1 (f i) (hf i (by omega)) g1 g2 a ha n c1 A1 hn hn2 b1 b2)) ?_;rintro _ w2 ⟨bb,rfl,e2,hbb⟩ T E;have zw2:=e2.size;refine nq ?_;refine c_s E rfl (fun hc2=> ?_) (fun hc2=> ?_)
   ·refine go [5,0,1,4,17] ?_;intro T E;replace ho:=old0 ho e2;refine post1_ret E rfl rfl ?_;exact ⟨_,rfl,Mv.of_below ho _ _,fun h=>absurd h (by omega)⟩
   ·refine wp_skip ?_;refine hK3 _ _ ?_;refine gn [21] ?_;refine sv E (dv_add E rfl rfl rfl (wrap_i64 (by omega) (by omega))) fun T E=>?_;refine sv E (dm E) fun T E=>?_;refine wpList_nil ?_;replace ti:=ti.mv e2 rfl;replace b1:=e2.blk b1 rfl;replace b2:=e2.blk b2 rfl;replace ho:=old0 ho e2;exact ⟨_,by omega,_,i+1,rfl,rfl,E.sb,ti,b1,b2,ho,by omega,⟨by omega,fun j hj=>by by_cases e:j=i;(subst e;exact hbb hc2);exact hi.2 j (by omega)⟩⟩
  ·replace hc1:=of_decide_eq_false hc1;refine wp_exit ?_;refine hK1 _ _ ?_;refine go [5,1,4,17] ?_;intro T E;refine post1_ret E rfl rfl ?_;exact ⟨_,rfl,Mv.of_below ho _ _,fun _ j hj=>hi.2 j (by omega)⟩
theorem hasAct_c (w:World) (f:Nat→AA) (t0:Nat) (A0:Option Addr) (k cp:Nat) (hk:k≤1000) (hf: ∀j,j<k→InR (f j).who) (ti:Tab w t0 A0 5 k (fun i=>actC (f i))) (ti_l:TLt w.heap.size A0) (g1 g2:Nat) (a:AA) (ha:InR a.who) (n c1:Nat) (A1:Option Addr) (hn:0<n) (hn2:n≤12) (b1:w.heap[g1]? =some (.cells #[Iw a.who,Iw a.bk,Iw a.tm,Iw a.wr,Iw a.pe] 69 (0,0))) (b2:w.heap[g2]? =some (.cells #[.slice A1 n c1] 25 (0,0))):Ret Tryz.prog 25 #[.slice A0 k cp,.func (.func 26) #[] #[Pt g1,Pt g2]] w (fun v w1=> ∃q,v= .bool q∧Mv [] 0 w w1∧(q=false→∀j,j<k→belowF a.who n≠belowF (f j).who n)):=by
 refine en 9 Tryz.func25 fun T E=>?_;have y1:=heap_lt b1;have y2:=heap_lt b2;have ho:=Below.refl w.heap.size w;refine go [5,1,4,5,0,0] ?_;intro T E;refine cl E Tryz.func55 (indexAct_c w f t0 A0 k cp hk hf ti ti_l g1 g2 a ha n c1 A1 hn hn2 b1 b2) ?_;rintro _ w1 ⟨r,rfl,e1,hrr⟩ T E;have zw1:=e1.size;refine sv E (dv_geq E rfl rfl rfl rfl) fun T E=>?_;refine go [1,4,17] ?_;intro T E;replace ho:=old0 ho e1;refine post1_ret E rfl rfl ?_;exact ⟨_,rfl,Mv.of_below ho _ _,fun h=>hrr (by have h2:=of_decide_eq_false h;omega)⟩
theorem cloneAct_c (w:World) (on:List AA) (hn:on.length≤1000) (ad:Addr) (cp:Nat) (ti:Tab w 69 (some ad) 5 on.length (fun i=>actC (actL on i))) (ti_l:TLt w.heap.size (some ad)):Ret Tryz.prog 27 #[.slice (some ad) on.length cp] w (fun v w1=> ∃A1 c1,v= .slice A1 on.length c1∧Mv [] 0 w w1∧OwnT w.heap.size w1 69 5 (.slice A1 on.length c1) on.length (fun i=>actC (actL on i))):=by
 refine en 8 Tryz.func27 fun T E=>?_;have ho:=Below.refl w.heap.size w;refine go [5,1,4] ?_;intro T E;refine sk fun K1 hK1=>?_;refine go [5,0] ?_;intro T E;refine sv E (dv_eqlSlNil (e:=69) E rfl rfl rfl (by kernel_rfl)) fun T E=>?_;refine gn [4,15,16] ?_;refine hK1 _ _ ?_;refine sq ?_;refine sr E (ru_build0 (e:=69) E) ?_;rintro _ w1 ⟨g0,rfl,e1,lg0,xg0,bg0⟩ T E;have zw1:=e1.size;have yg0:=heap_lt bg0;refine sv E (dm E) fun T E=>?_;replace ti:=ti.mv e1 rfl;refine sr E (ru_appTab0 (e:=69) (k:=5) (by_:=40) (z:= .agg #[.int .i64 0,.int .i64 0,.int .i64 0,.int .i64 0,.int .i64 0]) (m:=on.length) (ad:=ad) (base:=w.heap.size) (vals:=fun i=>actC (actL on i)) (vals0:=fun _=> #[]) E (OwnT.zero bg0 (by omega)) ti (by omega) (by omega) rfl rfl rfl rfl (by kernel_rfl) (infoB_of (by kernel_rfl)) rfl (by decide) (fun i _=>actC_ok _) (by decide)) ?_;rintro _ w2 ⟨Ac,cc,rfl,e2,owc⟩ T E;have zw2:=e2.size;refine go [1,4,17] ?_;intro T E;replace ho:=old1 (old0 ho e1) e2 (by omega);refine post1_ret E rfl rfl ?_;exact ⟨_,_,rfl,Mv.of_below ho _ _,owc⟩
theorem lawC_cf (l:List ST) (kd:Nat):LawC (cfOf l kd):=⟨rfl,rfl,rfl⟩
theorem once_ok {l:List ST} (hg:GoodS l) (h0:0<l.length) {on:List AA} {n:Nat} (ho:OnceL n on) {ss:List Sp} (hss:on.map (stepOf l 2)=ss): ∀i,i<ss.length→(stp ss i).v.Ok:=fun i hi=>by
  subst hss;rw [List.length_map] at hi;have e:stp (on.map (stepOf l 2)) i=stepOf l 2 (actL on i):=by simp [stp,actL,List.getD_eq_getElem?_getD,hi]
  rw [e];exact stepOf_ok hg (by omega) (by decide) (ho.each _ (actL_mem hi)).1
theorem OnceL.at {n:Nat} {l:List AA} (h:OnceL n l) {i:Nat} (hi:i<l.length):(actL l i).Ok:=(h.each _ (actL_mem hi)).1
theorem equal_v (w:World) (n:Nat) (hn:n≤1000) (f g:Nat→Option Vt) (A1:Option Addr) (c1:Nat) (A2:Option Addr) (c2:Nat) (t1:Tab w 4 A1 1 n (fun i=> #[.bool (f i).isSome])) (t1_l:TLt w.heap.size A1) (t2:Tab w 4 A2 1 n (fun i=> #[.bool (g i).isSome])) (t2_l:TLt w.heap.size A2) (e: ∀i,(f i).isSome=(g i).isSome):
    Ret Tryz.prog 23 #[.slice A1 n c1,.slice A2 n c2] w (fun v w1=>v= .bool true∧Mv [] 0 w w1):=by
  have h:=equal_c w (votedM n f) (by rw [votedM_len];exact hn) A1 c1 A2 c2 (by rw [votedM_len];exact t1.congr (fun i hi=>by rw [votedM_get f hi])) t1_l (by rw [votedM_len];exact t2.congr (fun i hi=>by rw [votedM_get f hi,e i])) t2_l;rw [votedM_len] at h;exact h
theorem fnOrder_c (w:World) (q:Nat→Nat×Nat) (hg:Gl w q) (rs:Nat→RS) (t0:Nat) (A0:Option Addr) (n cp:Nat) (hcp:n≤cp) (hpw: ∀i,i<n→InR (rs i).pw) (ti:Tab w t0 A0 3 n (fun i=> #[.string ((rs i).ad),.string ((rs i).key),Iw ((rs i).pw)])) (ti_l:TLt w.heap.size A0) (aa:Nat→AA) (t1:Nat) (B0:Option Addr) (na cb:Nat) (hcb:na≤cb) (haa: ∀i,i<na→(aa i).Ok) (ta:Tab w t1 B0 5 na (fun i=> #[Iw ((aa i).who),Iw ((aa i).bk),Iw ((aa i).tm),Iw ((aa i).wr),Iw ((aa i).pe)])) (ta_l:TLt w.heap.size B0) (od:Nat→Int) (t2:Nat) (D0:Option Addr) (no cd:Nat) (hcd:no≤cd) (hod: ∀i,i<no→InR (od i)) (tq:Tab w t2 D0 1 no (fun i=> #[.int .i64 (od i)])) (tq_l:TLt w.heap.size D0):Ret Tryz.prog 4 #[.slice A0 n cp,.slice B0 na cb,.slice D0 no cd] w (fun v w1=>v= .bool true∧Below w.heap.size w w1):=by
 refine en 169 Tryz.func4 fun T E=>?_;have hK:=hg.K;have ho:=Below.refl w.heap.size w;have h7:=heap_lt hK;refine go [5,1,4] ?_;intro T E;refine sk fun K1 hK1=>?_;refine go [5,0] ?_;intro T E;refine cl E Tryz.func6 (fits_c w t0 A0 n cp rs ti (tlt_up ti_l (by omega))) ?_;rintro _ w1 ⟨bf,rfl,e1,hfit⟩ T E;have zw1:=e1.size;refine sv E (dv_not E rfl rfl) fun T E=>?_;refine sv E (dm E) fun T E=>?_;rcases Bool.eq_false_or_eq_true (!bf) with hg1_ | hg1_
 ·refine seq_off (b:=true) E rfl rfl rfl (Cb hg1_) rfl rfl (fun T E=> ?_);refine seq_off (b:=true) E rfl rfl rfl (Cb hg1_) rfl rfl (fun T E=> ?_);refine seq_off (b:=true) E rfl rfl rfl (Cb hg1_) rfl rfl (fun T E=> ?_);refine sv E (dv_pickT E rfl rfl rfl rfl hg1_) fun T E=>?_;refine go [0,19,19,19,8,4,14,5,1,4,17] ?_;intro T E;replace ho:=old0 ho e1;refine post1_ret E rfl rfl ?_;exact ⟨rfl,ho⟩
 ·refine seq_von (b:=false) E (dm E) rfl rfl rfl (Cb hg1_) rfl rfl (fun T E=> ?_);refine seq_von (b:=false) E (dv_lenSl E rfl rfl (by kernel_rfl)) rfl rfl rfl (Cb hg1_) rfl rfl (fun T E=> ?_);refine seq_von (b:=false) E (dv_gtr E rfl rfl rfl (nc_lt 2147483647 na)) rfl rfl rfl (Cb hg1_) rfl rfl (fun T E=> ?_);refine sv E (dv_pickF E rfl rfl rfl rfl hg1_) fun T E=>?_;refine sv E (dm E) fun T E=>?_;rcases Bool.eq_false_or_eq_true (decide (2147483647<na)) with hg2_ | hg2_
  ·refine seq_off (b:=true) E rfl rfl rfl (Cb hg2_) rfl rfl (fun T E=> ?_);refine seq_off (b:=true) E rfl rfl rfl (Cb hg2_) rfl rfl (fun T E=> ?_);refine seq_off (b:=true) E rfl rfl rfl (Cb hg2_) rfl rfl (fun T E=> ?_);refine sv E (dv_pickT E rfl rfl rfl rfl hg2_) fun T E=>?_;refine go [4,14,5,1,4,17] ?_;intro T E;replace ho:=old0 ho e1;refine post1_ret E rfl rfl ?_;exact ⟨rfl,ho⟩
  ·refine seq_von (b:=false) E (dm E) rfl rfl rfl (Cb hg2_) rfl rfl (fun T E=> ?_);refine seq_von (b:=false) E (dv_lenSl E rfl rfl (by kernel_rfl)) rfl rfl rfl (Cb hg2_) rfl rfl (fun T E=> ?_);refine seq_von (b:=false) E (dv_gtr E rfl rfl rfl (nc_lt 2147483647 no)) rfl rfl rfl (Cb hg2_) rfl rfl (fun T E=> ?_);refine sv E (dv_pickF E rfl rfl rfl rfl hg2_) fun T E=>?_;refine nq ?_;refine c_s E rfl (fun hc1=> ?_) (fun hc1=> ?_)
   ·replace hc1:=of_decide_eq_true hc1;refine go [5,1,4,17] ?_;intro T E;replace ho:=old0 ho e1;refine post1_ret E rfl rfl ?_;exact ⟨rfl,ho⟩
   ·replace hc1:=of_decide_eq_false hc1;refine wp_skip ?_;refine hK1 _ _ ?_;have hfit2:=hfit (by simpa using hg1_);have hna:=of_decide_eq_false hg2_;refine go [5,0] ?_;intro T E;replace ti:=ti.mv e1 rfl;refine cl E Tryz.func7 (set_c w1 t0 A0 n cp rs ti (tlt_up ti_l (by omega)) hcp hfit2.1 hpw (fun i hi=>(hfit2.2 i hi).2)) ?_;rintro _ w2 ⟨A1,c1,l,rfl,e2,tl,tl_l,hgood⟩ T E;have zw2:=e2.size;obtain ⟨mL,hmL⟩: ∃m,m=w2.heap.size:=⟨_,rfl⟩;rw [← hmL] at tl_l;have hzL:mL≤w2.heap.size:=by omega
    refine sr E (ral (.slice none 0 0)) ?_;rintro _ w3 ⟨g3_,rfl,e3,lg3_,xg3_,b4_⟩ T E;have zw3:=e3.size;have yg3_:=heap_lt b4_;refine sst (dk_store E rfl rfl rfl rfl (by kernel_rfl) b4_ rfl) ?_;intro w4 e4 n5_ b4_;have zw4:=e4.size;refine nq ?_;refine sk fun K2 hK2=>?_;refine go [5,3,6] ?_;intro T E;refine sv E (dv_eql E rfl rfl rfl (nc_eq l.length 0)) fun T E=>?_;refine nq ?_;refine c_s E rfl (fun hc2=> ?_) (fun hc2=> ?_)
    ·replace hc2:=of_decide_eq_true hc2;refine go [5,1,4,17] ?_;intro T E;replace ho:=old1 (old0 (old0 (old0 ho e1) e2) e3) e4 (by omega);refine post1_ret E rfl rfl ?_;exact ⟨rfl,ho⟩
    ·replace hc2:=of_decide_eq_false hc2;refine wp_skip ?_;refine hK2 _ _ ?_;have h0:0<l.length:=by omega
     have hl12:=hgood.n1;have hl12b:=hgood.n1;refine go [5,1,4] ?_;intro T E;refine sk fun K3 hK3=>?_;refine go [5,0,6,0,4,18] ?_;intro T E;replace tq:=(((tq.mv e1 rfl).mv e2 rfl).mv e3 rfl).keep tq_l e4 (by omega);replace tl:=(tl.mv e3 rfl).mv e4 rfl;replace hK:=e4.blk (e3.blk (e2.blk (e1.blk hK rfl) rfl) rfl) rfl;replace hg:=(((((((hg.mv e1 rfl)).mv e2 rfl)).mv e3 rfl)).mv e4 rfl);replace ho:=old1 (old0 (old0 (old0 ho e1) e2) e3) e4 (by omega);replace ta:=(((ta.mv e1 rfl).mv e2 rfl).mv e3 rfl).keep ta_l e4 (by omega);refine loopM (fun mm_ a_ W=> ∃(T:Array Value) (Ao:Option Addr) (co:Nat) (on:List AA) (k:Nat) (i:Nat),a_=⟨T,[]⟩∧na-i=mm_∧Env T 169 [(2,.slice D0 no cd),(7,Pt g3_),(8,.slice Ao k co),(38,.slice B0 na cb),(39,Iw ((na:Int))),(40,Iw ((i:Int)))]∧Tab W t2 D0 1 no (fun i=> #[.int .i64 (od i)])∧Tab W 83 A1 4 l.length (fun i=>seatS (seatL l i))∧W.heap[7]? =some (.cells (fcells 64 (wcf kF)) 148 (0,0))∧Gl W q∧Below w.heap.size w W∧mL≤W.heap.size∧W.heap[g3_]? =some (.cells #[.slice A1 l.length c1] 25 (0,0))∧Tab W t1 B0 5 na (fun i=> #[Iw ((aa i).who),Iw ((aa i).bk),Iw ((aa i).tm),Iw ((aa i).wr),Iw ((aa i).pe)])∧OwnT w.heap.size W 69 5 (.slice Ao k co) k (fun i=>actC (actL on i))∧w.heap.size≤W.heap.size∧on.length=k∧OnceL l.length on∧i≤na∧k≤i) (na) ?_ ?_
     ·exact ⟨_,none,0,[],0,0,rfl,rfl,E.sb,tq,tl,hK,hg,ho,by omega,b4_,ta,OwnT.nil,by omega,rfl,OnceL.nil _,by omega⟩
     ·rintro mm_ _ w5 ⟨T,Ao,co,on,k,i,rfl,rfl,E,tq,tl,hK,hg,ho,hzL,b4_,ta,ow,hz,hkl,hon,hi⟩
      as_aux_lemma=>
      refine sq ?_;refine sv E (dv_lss E rfl rfl rfl (nc_lt i na)) fun T E=>?_;refine nq ?_;refine sk fun K4 hK4=>?_;refine c_s E rfl (fun hc3=> ?_) (fun hc3=> ?_)
      ·replace hc3:=of_decide_eq_true hc3;refine wp_skip ?_;refine hK4 _ _ ?_;refine sk fun K5 hK5=>?_;refine wp_block ?_;refine wp_seq ?_;have hin:i<na:=by omega
       have hk12:=hon.len h0;rw [hkl] at hk12;have owl:TLt w5.heap.size Ao:=fun g o e=>(OwnT.ge ow g o e).2;refine gn [21] ?_;refine sv E (dv_indexA (A:=B0) (k:=5) (i:=i) (j:=i*5) E rfl rfl rfl (by kernel_rfl) (by omega) (Tab.sure ta (by omega)) rfl) fun T E=>?_;refine sv E (dv_loadRow (k:=5) (vs:=#[Iw ((aa i).who),Iw ((aa i).bk),Iw ((aa i).tm),Iw ((aa i).wr),Iw ((aa i).pe)]) E rfl rfl (by kernel_rfl) (by kernel_rfl) rfl (Tab.sub (r:=0) ta (by omega) rfl rfl (fun j hj=>by match j,hj with | 0,_=>rfl | 1,_=>rfl | 2,_=>rfl | 3,_=>rfl | 4,_=>rfl))) fun T E=>?_;refine sr E (ral (.agg #[Iw 0,Iw 0,Iw 0,Iw 0,Iw 0])) ?_;rintro _ w6 ⟨g6_,rfl,e6,lg6_,xg6_,b7_⟩ T E;have zw6:=e6.size;have yg6_:=heap_lt b7_;refine sst (dk_storeAll (vs:=[Iw ((aa i).who),Iw ((aa i).bk),Iw ((aa i).tm),Iw ((aa i).wr),Iw ((aa i).pe)]) (k:=5) E rfl rfl rfl rfl (by kernel_rfl) rfl b7_ rfl) ?_;intro w7 e7 n8_ b7_;have zw7:=e7.size;refine go [4,5,0] ?_;intro T E;refine sv E (dv_makeFn (f:=26) (vs:=[Pt g6_,Pt g3_]) E rfl rfl) fun T E=>?_;replace ow:=own_keep (ow.mv e6 rfl) e7 owl (by omega);replace b4_:=e7.blk (e6.blk b4_ rfl) rfl;refine cl E Tryz.func25 (hasAct_c w7 (actL on) 69 Ao k co (by omega) (fun j hj=>(hon.at (by omega)).who) ow.tab (fun g o e=>(ow.ge g o e).2) g6_ g3_ (aa i) (haa i hin).who l.length c1 A1 h0 hl12 b7_ b4_) ?_;rintro _ w8 ⟨bb,rfl,e8,hbb⟩ T E;have zw8:=e8.size;refine sv E (dv_not E rfl rfl) fun T E=>?_;refine nq ?_;refine c_s E rfl (fun hc4=> ?_) (fun hc4=> ?_)
       ·replace b7_:=e8.blk b7_ rfl;refine go [21,0,50,3,51,3,52,3] ?_;intro T E;refine sv E (dv_build (vs:=[(0,Iw ((aa i).who)),(1,Iw ((aa i).bk)),(2,Iw ((aa i).tm)),(3,Iw 39)]) (C:=#[Iw ((aa i).who),Iw ((aa i).bk),Iw ((aa i).tm),Iw 39,Iw 0]) E rfl rfl (by as_aux_lemma=>kernel_rfl)) fun T E=>?_;refine sr E (rb1 (e:=69) (k:=5) E) ?_;rintro _ w9 ⟨g9_,rfl,e9,lg9_,xg9_,b10_⟩ T E;have zw9:=e9.size;have yg9_:=heap_lt b10_;replace ow:=(ow.mv e8 rfl).mv e9 rfl;refine sr E (ru_appT (base:=w.heap.size) (e:=69) (k:=5) (by_:=40) (z:= .agg #[Iw 0,Iw 0,Iw 0,Iw 0,Iw 0]) (m:=k) (vals:=fun i=>actC (actL on i)) (cs:=#[Iw ((aa i).who),Iw ((aa i).bk),Iw ((aa i).tm),Iw 39,Iw 0]) E rfl rfl rfl rfl (by kernel_rfl) (infoB_of (by kernel_rfl)) rfl (by decide) ow b10_ rfl rfl (by omega) (by decide) (by omega)) ?_;rintro _ w10 ⟨A11_,c12_,rfl,e10,gr13_,ot14_⟩ T E;have zw10:=e10.size;refine sv E (da E) fun T E=>?_;refine hK5 _ _ ?_;refine gn [21] ?_;refine sv E (dv_add E rfl rfl rfl (wrap_i64 (by omega) (by omega))) fun T E=>?_;refine sv E (dm E) fun T E=>?_;refine wpList_nil ?_;replace tq:=((((tq.mv e6 rfl).keep tq_l e7 (by omega)).mv e8 rfl).mv e9 rfl).keep tq_l e10 (by omega);replace tl:=((((tl.mv e6 rfl).mv e7 rfl).mv e8 rfl).mv e9 rfl).mv e10 rfl;replace hK:=e10.blk (e9.blk (e8.blk (e7.blk (e6.blk hK rfl) rfl) rfl) rfl) rfl;replace hg:=(((((((((hg.mv e6 rfl)).mv e7 rfl)).mv e8 rfl)).mv e9 rfl)).mv e10 rfl);replace ho:=old1 (old0 (old0 (old1 (old0 ho e6) e7 (by omega)) e8) e9) e10 (by omega);replace b4_:=e10.blk (e9.blk (e8.blk b4_ rfl) rfl) rfl;replace ta:=((((ta.mv e6 rfl).keep ta_l e7 (by omega)).mv e8 rfl).mv e9 rfl).keep ta_l e10 (by omega);exact ⟨_,by omega,_,A11_,c12_,(on++ [onceA (aa i)]),(k+1),(i+1),rfl,rfl,E.sb,tq,tl,hK,hg,ho,by omega,b4_,ta,OwnT.congr ot14_ (fun j hj=>acts_snoc (a:=onceA (aa i)) hkl j hj),by omega,by rw [List.length_append,hkl];rfl,OnceL.snoc hon (haa i hin) (fun j hj=>hbb (by simpa using hc4) j (by omega)),by omega⟩
       ·refine wp_skip ?_;refine hK5 _ _ ?_;refine gn [21] ?_;refine sv E (dv_add E rfl rfl rfl (wrap_i64 (by omega) (by omega))) fun T E=>?_;refine sv E (dm E) fun T E=>?_;refine wpList_nil ?_;replace ow:=ow.mv e8 rfl;replace tq:=((tq.mv e6 rfl).keep tq_l e7 (by omega)).mv e8 rfl;replace tl:=((tl.mv e6 rfl).mv e7 rfl).mv e8 rfl;replace hK:=e8.blk (e7.blk (e6.blk hK rfl) rfl) rfl;replace hg:=(((((hg.mv e6 rfl)).mv e7 rfl)).mv e8 rfl);replace ho:=old0 (old1 (old0 ho e6) e7 (by omega)) e8;replace b4_:=e8.blk b4_ rfl;replace ta:=((ta.mv e6 rfl).keep ta_l e7 (by omega)).mv e8 rfl;exact ⟨_,by omega,_,Ao,co,on,k,(i+1),rfl,rfl,E.sb,tq,tl,hK,hg,ho,by omega,b4_,ta,ow,by omega,hkl,hon,by omega⟩
      ·replace hc3:=of_decide_eq_false hc3;refine wp_exit ?_;refine hK3 _ _ ?_;refine sk fun K6 hK6=>?_;refine go [5,0,6] ?_;intro T E;refine sv E (dv_eql E rfl rfl rfl (nc_eq k 0)) fun T E=>?_;refine nq ?_;refine c_s E rfl (fun hc5=> ?_) (fun hc5=> ?_)
       ·replace hc5:=of_decide_eq_true hc5;refine go [5,1,4,17] ?_;intro T E;refine post1_ret E rfl rfl ?_;exact ⟨rfl,ho⟩
       ·replace hc5:=of_decide_eq_false hc5;refine wp_skip ?_;refine hK6 _ _ ?_;refine wp_seq ?_;obtain rfl:=hkl;have hk0:0<on.length:=by omega
        have hk12:=hon.len h0;obtain ⟨adO,rfl⟩:=Option.isSome_iff_exists.1 (OwnT.tab ow |>.sure hk0);have ocap:=OwnT.cap ow;have ol:TLt w5.heap.size (some adO):=fun g o e=>(OwnT.ge ow g o e).2;obtain ⟨mO,hmO⟩: ∃m,m=w5.heap.size:=⟨_,rfl⟩;rw [← hmO] at ol;have hzO:mO≤w5.heap.size:=by omega
        have tn:Tab w5 69 (some adO) 5 on.length (fun i=>actC (actL on i)):=OwnT.tab ow;refine go [21,0] ?_;intro T E;refine cl E Tryz.func27 (cloneAct_c w5 on (by omega) adO co tn (tlt_up ol (by omega))) ?_;rintro _ w11 ⟨Ac,cc,rfl,e11,owc⟩ T E;have zw11:=e11.size;refine go [1,4] ?_;intro T E;refine sk fun K7 hK7=>?_;obtain ⟨gco,rfl,hgo,tb⟩:=OwnT.tb owc hk0;have cap2:=OwnT.cap owc;have ytb:=tb.lt;obtain ⟨mo,hmo1,hmo2,hmo3⟩: ∃m:Nat,m≤no∧m≤60∧m=min no 60:=⟨min no 60,by omega,by omega,rfl⟩;refine go [5,0,0,6] ?_;intro T E;refine sv E (dv_min (c:=(mo:Int)) E rfl rfl rfl (by split <;> omega)) fun T E=>?_;refine sv E (dv_sliceHi (e:=3) (k:=1) (i:=mo) E rfl rfl rfl (by kernel_rfl) (by kernel_rfl) (by omega)) fun T E=>?_;refine go [6,0,4,18] ?_;intro T E;replace tq:=tq.mv e11 rfl;replace tl:=tl.mv e11 rfl;replace hK:=e11.blk hK rfl;replace hg:=(hg.mv e11 rfl);replace ho:=old0 ho e11;replace b4_:=e11.blk b4_ rfl;replace tn:=tn.mv e11 rfl;refine loopM (fun mm_ a_ W=> ∃(T:Array Value) (ot:List AA) (i:Nat),a_=⟨T,[]⟩∧mo-i=mm_∧Env T 169 [(7,Pt g3_),(8,.slice (some adO) on.length co),(11,.slice (some ⟨gco,0,none⟩) on.length cc),(68,.slice D0 mo cd),(69,Iw ((mo:Int))),(70,Iw ((i:Int)))]∧Tab W t2 D0 1 mo (fun i=> #[.int .i64 (od i)])∧Tab W 83 A1 4 l.length (fun i=>seatS (seatL l i))∧W.heap[7]? =some (.cells (fcells 64 (wcf kF)) 148 (0,0))∧Gl W q∧Below w.heap.size w W∧mL≤W.heap.size∧W.heap[g3_]? =some (.cells #[.slice A1 l.length c1] 25 (0,0))∧mO≤W.heap.size∧Tab W 69 (some adO) 5 on.length (fun i=>actC (actL on i))∧TB W 69 gco 5 on.length (fun i=>actC (actL ot i))∧w.heap.size≤W.heap.size∧gco+1≤W.heap.size∧ot.Perm on∧i≤mo) (mo) ?_ ?_
        ·exact ⟨_,on,0,rfl,rfl,E.sb,tq.le hmo1,tl,hK,hg,ho,by omega,b4_,by omega,tn,tb,by omega,by omega,List.Perm.refl _,Nat.zero_le _⟩
        ·rintro mm_ _ w12 ⟨T,ot,i,rfl,rfl,E,tq,tl,hK,hg,ho,hzL,b4_,hzO,tn,tb,hz,hgo2,hp,hi⟩
         as_aux_lemma=>
         refine sq ?_;refine sv E (dv_lss E rfl rfl rfl (nc_lt i mo)) fun T E=>?_;refine nq ?_;refine sk fun K8 hK8=>?_;refine c_s E rfl (fun hc6=> ?_) (fun hc6=> ?_)
         ·replace hc6:=of_decide_eq_true hc6;refine wp_skip ?_;refine hK8 _ _ ?_;refine sk fun K9 hK9=>?_;have hin:i<mo:=by omega
          have hia:=Nat.mod_lt i hk0;have hib:=belowF_lt (hod i (by omega)) hk0;have hol:=hp.length_eq;refine go [18,5,0] ?_;intro T E;refine sv E (dv_indexA (A:=D0) (k:=1) (i:=i) (j:=i*1) E rfl rfl rfl (by kernel_rfl) (by omega) (Tab.sure tq (by omega)) rfl) fun T E=>?_;refine sv E (dv_load (v:=Iw ((od i))) E rfl rfl (by kernel_rfl) (Tab.cell (r:=0) tq (by omega) rfl rfl)) fun T E=>?_;refine go [1,1,4] ?_;intro T E;refine wp_seq ?_;refine rgG 10 (Kv2 (Kv8 [])) [([],[12]),([],[11]),([1],[]),([0,2],[]),([],[13]),([],[11]),([5],[]),([4,6],[]),([3],[]),([7],[])] E (by
           refine dg [0,0,6] ?_;refine .cons (fun _ _ _ E _=>Ru.d (dv_rem (c:=((i % on.length:Nat):Int)) E rfl rfl rfl (by omega) (rfl))) ?_;refine dg [0,0,6] ?_;refine .cons ?_ ?_
           ·intro T w_ e_ E hN;have z_:=e_.size;have hb15_:=belowF_lt (n:=on.length) (hod i (by omega)) (by omega);refine (rr E Tryz.func8 (below_s w_ ((od i)) on.length (hod i (by omega)) (by omega) (by omega))).mono ?_;rintro _ _ ⟨rfl,rfl⟩;exact ⟨Mv.refl _ _ _,rfl⟩
           exact dz [1,1]
           ) fun T w13 e13 hE hN=>?_
          have zw13:=e13.size;have E:=hE [8,9] [] trivial (by kernel_rfl);refine nq ?_;replace tb:=tb.mv e13 rfl;refine rgC [13,15] [J0 w13,Jt 69 gco 5 on.length w13 (updT (fun i=>actC (actL ot i)) (i % on.length) #[Iw ((actL ot (belowF ((od i)) on.length)).who),Iw ((actL ot (belowF ((od i)) on.length)).bk),Iw ((actL ot (belowF ((od i)) on.length)).tm),Iw ((actL ot (belowF ((od i)) on.length)).wr),Iw ((actL ot (belowF ((od i)) on.length)).pe)]),Jt 69 gco 5 on.length w13 (updT (updT (fun i=>actC (actL ot i)) (i % on.length) #[Iw ((actL ot (belowF ((od i)) on.length)).who),Iw ((actL ot (belowF ((od i)) on.length)).bk),Iw ((actL ot (belowF ((od i)) on.length)).tm),Iw ((actL ot (belowF ((od i)) on.length)).wr),Iw ((actL ot (belowF ((od i)) on.length)).pe)]) (belowF ((od i)) on.length) #[Iw ((actL ot (i % on.length)).who),Iw ((actL ot (i % on.length)).bk),Iw ((actL ot (i % on.length)).tm),Iw ((actL ot (i % on.length)).wr),Iw ((actL ot (i % on.length)).pe)])] [fun v_=>v_= .slice (some ⟨gco,0,none⟩) on.length cc,fun v_=>v_=Iw (((i % on.length:Nat):Int)),fun v_=>v_= .slice (some ⟨gco,0,none⟩) on.length cc,fun v_=>v_=Iw ((belowF ((od i)) on.length:Int)),fun v_=>v_= .slice (some ⟨gco,0,none⟩) on.length cc,fun v_=>v_=Iw ((belowF ((od i)) on.length:Int)),fun v_=>v_= .pointer (some (adr (some ⟨gco,0,none⟩) ((belowF ((od i)) on.length)*5))),fun v_=>v_= .agg #[Iw ((actL ot (belowF ((od i)) on.length)).who),Iw ((actL ot (belowF ((od i)) on.length)).bk),Iw ((actL ot (belowF ((od i)) on.length)).tm),Iw ((actL ot (belowF ((od i)) on.length)).wr),Iw ((actL ot (belowF ((od i)) on.length)).pe)],fun v_=>v_= .slice (some ⟨gco,0,none⟩) on.length cc,fun v_=>v_=Iw (((i % on.length:Nat):Int)),fun v_=>v_= .pointer (some (adr (some ⟨gco,0,none⟩) ((i % on.length)*5))),fun v_=>v_= .agg #[Iw ((actL ot (i % on.length)).who),Iw ((actL ot (i % on.length)).bk),Iw ((actL ot (i % on.length)).tm),Iw ((actL ot (i % on.length)).wr),Iw ((actL ot (i % on.length)).pe)],fun v_=>v_= .pointer (some (adr (some ⟨gco,0,none⟩) ((i % on.length)*5))),fun _=>True,fun v_=>v_= .pointer (some (adr (some ⟨gco,0,none⟩) ((belowF ((od i)) on.length)*5))),fun _=>True] 16 E (by kernel_rfl) (by kernel_rfl) rfl (mv_drew _ _ _) ?_ ?_ ?_
          ·refine .cons ?_ (.cons ?_ (.cons ?_ (.cons ?_ (.cons ?_ (.cons ?_ (.cons ?_ (.cons ?_ (.cons ?_ (.cons ?_ (.cons ?_ (.cons ?_ (.cons ?_ (.cons ?_ (.cons ?_ (.cons ?_ (.nil))))))))))))))))
           ·intro hc k hk T w_ hJ hT hO hN;have E_0:=Env.nil hT;have E_1:=E_0.add ((hO 11 (by kernel_rfl)).trans (E.get rfl));exact Ru.v (dv_move E_1 rfl rfl) rfl ⟨hJ,rfl⟩
           ·intro hc k hk T w_ hJ hT hO hN;have E_0:=Env.nil hT;have E_1:=E_0.add ((hO 14 (by kernel_rfl)).trans (E.get rfl));exact Ru.v (dv_move E_1 rfl rfl) rfl ⟨hJ,rfl⟩
           ·intro hc k hk T w_ hJ hT hO hN;have E_0:=Env.nil hT;have E_1:=E_0.add ((hO 11 (by kernel_rfl)).trans (E.get rfl));exact Ru.v (dv_move E_1 rfl rfl) rfl ⟨hJ,rfl⟩
           ·intro hc k hk T w_ hJ hT hO hN;have E_0:=Env.nil hT;have E_1:=E_0.add ((hO 15 (by kernel_rfl)).trans (E.get rfl));exact Ru.v (dv_move E_1 rfl rfl) rfl ⟨hJ,rfl⟩
           ·intro hc k hk T w_ hJ hT hO hN;have E_0:=Env.nil hT;have E_1:=E_0.add ((hO 11 (by kernel_rfl)).trans (E.get rfl));exact Ru.v (dv_move E_1 rfl rfl) rfl ⟨hJ,rfl⟩
           ·intro hc k hk T w_ hJ hT hO hN;have E_0:=Env.nil hT;have E_1:=E_0.add ((hO 15 (by kernel_rfl)).trans (E.get rfl));exact Ru.v (dv_move E_1 rfl rfl) rfl ⟨hJ,rfl⟩
           ·intro hc k hk T w_ hJ hT hO hN;have E_0:=Env.nil hT;obtain ⟨v_,h_,rfl⟩:=hN 4 (by kernel_rfl);have E_1:=E_0.add h_;obtain ⟨v_,h_,rfl⟩:=hN 5 (by kernel_rfl);have E_2:=E_1.add h_;replace tb:=tb;exact Ru.v (dv_indexA (A:=(some ⟨gco,0,none⟩)) (k:=5) (i:=belowF ((od i)) on.length) (j:=(belowF ((od i)) on.length)*5) E_2 rfl rfl rfl (by kernel_rfl) (by omega) (Tab.sure tb.tab (by omega)) rfl) rfl ⟨hJ,rfl⟩
           ·intro hc k hk T w_ hJ hT hO hN;have E_0:=Env.nil hT;obtain rfl:=k0_of (p:=True) hk (by kernel_rfl);have e_:Mv [] 0 w13 w_:=hJ;have z_:=e_.size;obtain ⟨v_,h_,rfl⟩:=hN 6 (by kernel_rfl);have E_1:=E_0.add h_;replace tb:=tb.mv e_ rfl;exact Ru.v (dv_loadRow (k:=5) (vs:=#[Iw ((actL ot (belowF ((od i)) on.length)).who),Iw ((actL ot (belowF ((od i)) on.length)).bk),Iw ((actL ot (belowF ((od i)) on.length)).tm),Iw ((actL ot (belowF ((od i)) on.length)).wr),Iw ((actL ot (belowF ((od i)) on.length)).pe)]) E_1 rfl rfl (by kernel_rfl) (by kernel_rfl) rfl (Tab.sub (r:=0) tb.tab (by omega) rfl rfl (fun j hj=>by match j,hj with | 0,_=>rfl | 1,_=>rfl | 2,_=>rfl | 3,_=>rfl | 4,_=>rfl))) rfl ⟨hJ,rfl⟩
           ·intro hc k hk T w_ hJ hT hO hN;have E_0:=Env.nil hT;have E_1:=E_0.add ((hO 11 (by kernel_rfl)).trans (E.get rfl));exact Ru.v (dv_move E_1 rfl rfl) rfl ⟨hJ,rfl⟩
           ·intro hc k hk T w_ hJ hT hO hN;have E_0:=Env.nil hT;have E_1:=E_0.add ((hO 14 (by kernel_rfl)).trans (E.get rfl));exact Ru.v (dv_move E_1 rfl rfl) rfl ⟨hJ,rfl⟩
           ·intro hc k hk T w_ hJ hT hO hN;have E_0:=Env.nil hT;obtain ⟨v_,h_,rfl⟩:=hN 8 (by kernel_rfl);have E_1:=E_0.add h_;obtain ⟨v_,h_,rfl⟩:=hN 9 (by kernel_rfl);have E_2:=E_1.add h_;replace tb:=tb;exact Ru.v (dv_indexA (A:=(some ⟨gco,0,none⟩)) (k:=5) (i:=i % on.length) (j:=(i % on.length)*5) E_2 rfl rfl rfl (by kernel_rfl) (by omega) (Tab.sure tb.tab (by omega)) rfl) rfl ⟨hJ,rfl⟩
           ·intro hc k hk T w_ hJ hT hO hN;have E_0:=Env.nil hT;obtain rfl:=k0_of (p:=True) hk (by kernel_rfl);have e_:Mv [] 0 w13 w_:=hJ;have z_:=e_.size;obtain ⟨v_,h_,rfl⟩:=hN 10 (by kernel_rfl);have E_1:=E_0.add h_;replace tb:=tb.mv e_ rfl;exact Ru.v (dv_loadRow (k:=5) (vs:=#[Iw ((actL ot (i % on.length)).who),Iw ((actL ot (i % on.length)).bk),Iw ((actL ot (i % on.length)).tm),Iw ((actL ot (i % on.length)).wr),Iw ((actL ot (i % on.length)).pe)]) E_1 rfl rfl (by kernel_rfl) (by kernel_rfl) rfl (Tab.sub (r:=0) tb.tab (by omega) rfl rfl (fun j hj=>by match j,hj with | 0,_=>rfl | 1,_=>rfl | 2,_=>rfl | 3,_=>rfl | 4,_=>rfl))) rfl ⟨hJ,rfl⟩
           ·intro hc k hk T w_ hJ hT hO hN;have E_0:=Env.nil hT;obtain ⟨v_,h_,rfl⟩:=hN 0 (by kernel_rfl);have E_1:=E_0.add h_;obtain ⟨v_,h_,rfl⟩:=hN 1 (by kernel_rfl);have E_2:=E_1.add h_;replace tb:=tb;exact Ru.v (dv_indexA (A:=(some ⟨gco,0,none⟩)) (k:=5) (i:=i % on.length) (j:=(i % on.length)*5) E_2 rfl rfl rfl (by kernel_rfl) (by omega) (Tab.sure tb.tab (by omega)) rfl) rfl ⟨hJ,rfl⟩
           ·intro hc;exact absurd hc (by decide)
           ·intro hc k hk T w_ hJ hT hO hN;have E_0:=Env.nil hT;obtain ⟨v_,h_,rfl⟩:=hN 2 (by kernel_rfl);have E_1:=E_0.add h_;obtain ⟨v_,h_,rfl⟩:=hN 3 (by kernel_rfl);have E_2:=E_1.add h_;replace tb:=tb;exact Ru.v (dv_indexA (A:=(some ⟨gco,0,none⟩)) (k:=5) (i:=belowF ((od i)) on.length) (j:=(belowF ((od i)) on.length)*5) E_2 rfl rfl rfl (by kernel_rfl) (by omega) (Tab.sure tb.tab (by omega)) rfl) rfl ⟨hJ,rfl⟩
           ·intro hc;exact absurd hc (by decide)
          ·refine .cons ?_ (.cons ?_ (.nil))
           ·intro T w_ hJ hT hO hN;have E_0:=Env.nil hT;obtain ⟨v_,h_,rfl⟩:=hN 12 (by kernel_rfl);have E_1:=E_0.add h_;obtain ⟨v_,h_,rfl⟩:=hN 7 (by kernel_rfl);have E_2:=E_1.add h_;have bw_:=J0.row hJ tb;exact Jt.row bw_ E_2 rfl rfl rfl rfl rfl (by kernel_rfl) rfl (by omega)
           ·intro T w_ hJ hT hO hN;have E_0:=Env.nil hT;obtain ⟨v_,h_,rfl⟩:=hN 14 (by kernel_rfl);have E_1:=E_0.add h_;obtain ⟨v_,h_,rfl⟩:=hN 11 (by kernel_rfl);have E_2:=E_1.add h_;exact Jt.row hJ E_2 rfl rfl rfl rfl rfl (by kernel_rfl) rfl (by omega)
          ·intro T w14 hJ hT hO hN;obtain ⟨e14,n16_,hb_⟩:=hJ;have zw14:=e14.size;replace tb:TB w14 69 gco 5 on.length (updT (updT (fun i=>actC (actL ot i)) (i % on.length) #[Iw ((actL ot (belowF ((od i)) on.length)).who),Iw ((actL ot (belowF ((od i)) on.length)).bk),Iw ((actL ot (belowF ((od i)) on.length)).tm),Iw ((actL ot (belowF ((od i)) on.length)).wr),Iw ((actL ot (belowF ((od i)) on.length)).pe)]) (belowF ((od i)) on.length) #[Iw ((actL ot (i % on.length)).who),Iw ((actL ot (i % on.length)).bk),Iw ((actL ot (i % on.length)).tm),Iw ((actL ot (i % on.length)).wr),Iw ((actL ot (i % on.length)).pe)]):=hb_;clear hb_;have E_0:=Env.nil hT;have E_1:=E_0.add ((hO 7 (by kernel_rfl)).trans (E.get rfl));have E_2:=E_1.add ((hO 8 (by kernel_rfl)).trans (E.get rfl));have E_3:=E_2.add ((hO 11 (by kernel_rfl)).trans (E.get rfl));have E_4:=E_3.add ((hO 68 (by kernel_rfl)).trans (E.get rfl));have E_5:=E_4.add ((hO 69 (by kernel_rfl)).trans (E.get rfl));have E_6:=E_5.add ((hO 70 (by kernel_rfl)).trans (E.get rfl));have E_7:=E_6.add ((hO 71 (by kernel_rfl)).trans (E.get rfl));have E_8:=E_7.add ((hO 72 (by kernel_rfl)).trans (E.get rfl));have E_9:=E_8.add ((hO 73 (by kernel_rfl)).trans (E.get rfl));have E_10:=E_9.add ((hO 74 (by kernel_rfl)).trans (E.get rfl));have E_11:=E_10.add ((hO 12 (by kernel_rfl)).trans (E.get rfl));have E_12:=E_11.add ((hO 13 (by kernel_rfl)).trans (E.get rfl));have E:=E_12;refine hK9 _ _ ?_;refine gn [21] ?_;refine sv E (dv_add E rfl rfl rfl (wrap_i64 (by omega) (by omega))) fun T E=>?_;refine sv E (dm E) fun T E=>?_;refine wpList_nil ?_;replace tq:=(tq.mv e13 rfl).keep tq_l e14 (by omega);replace tl:=(tl.mv e13 rfl).mv e14 rfl;replace hK:=e14.blk (e13.blk hK rfl) rfl;replace hg:=(((hg.mv e13 rfl)).mv e14 rfl);replace ho:=old1 (old0 ho e13) e14 (by omega);replace b4_:=e14.blk (e13.blk b4_ rfl) rfl;replace tn:=(tn.mv e13 rfl).keep ol e14 (by omega);exact ⟨_,by omega,_,(swapA ot (i % on.length) (belowF (od i) on.length)),(i+1),rfl,rfl,E.sb,tq,tl,hK,hg,ho,by omega,b4_,by omega,tn,TB.congr tb (fun j hj=>swapA_at (by omega) (by omega) j),by omega,by omega,swapA_perm hp hia hib,by omega⟩
         ·replace hc6:=of_decide_eq_false hc6;refine wp_exit ?_;refine hK7 _ _ ?_;refine wp_seq ?_;have hon2:=hon.perm hp.symm;have hol:=hp.length_eq;obtain ⟨ss,hss⟩: ∃x,on.map (stepOf l 2)=x:=⟨_,rfl⟩;obtain ⟨sv2,hsr⟩: ∃x,ot.map (stepOf l 2)=x:=⟨_,rfl⟩;have hsl:ss.length=on.length:=by rw [← hss,List.length_map]
          have hrl:sv2.length=on.length:=by rw [← hsr,List.length_map,hol]
          have hok1:=once_ok hgood h0 hon hss;have hok2:=once_ok hgood h0 hon2 hsr;obtain ⟨asked,hask⟩: ∃x,blocksL=x:=⟨_,rfl⟩;have hal:asked.length=4:=by rw [← hask];rfl
          have hc:(cfOf l 2).Ok:=hgood.ok (by omega) (by decide);have hs1:stepsF l 2 (actL on) (min on.length 60)=ss:=by rw [stepsF_map l 2 on (by omega),hss]
          have hs2:stepsF l 2 (actL ot) (min on.length 60)=sv2:=by rw [stepsF_map l 2 ot (by omega),hsr]
          have tbl:TLt w12.heap.size (some ⟨gco,0,none⟩):=fun g_ o_ h_=>by injection h_ with h_;injection h_ with h_;omega
          refine rgG 6 (Kv (kp (fun v_ W=> ∃(A2:Option Addr),∃(c2:Nat),v_= .slice A2 l.length c2∧Tab W 78 A2 3 l.length (fun i=> #[.string ((seatL l i).ad),.string ((seatL l i).key),Iw (((seatL l i).pw:Int))])∧TLt W.heap.size A2)::Kv2 (kp (fun v_ W=> ∃(As:Option Addr),∃(cs_:Nat),∃(a1:Nat→Option Addr),∃(k1:Nat→Nat),∃(a3:Nat→Option Addr),∃(k3:Nat→Nat),∃(a5:Nat→Option Addr),∃(k5:Nat→Nat),v_= .slice As ss.length cs_∧Tab W 45 As 12 ss.length (fun i=> #[Iw (((stp ss i).v.kd:Int)),Iw (((stp ss i).v.ht:Int)),Iw (((stp ss i).v.rd:Int)),Iw ((stp ss i).v.pl),.string ((stp ss i).v.ad),.slice (a1 i) ((stp ss i).v.bk.h.length) ((k1 i)),Iw (((stp ss i).v.bk.t:Int)),.slice (a3 i) ((stp ss i).v.bk.r.length) ((k3 i)),Iw (((stp ss i).v.sec:Int)),Iw (((stp ss i).v.ns:Int)),.slice (a5 i) ((stp ss i).v.sg.length) ((k5 i)),.string ((stp ss i).peer)])∧TLt W.heap.size As∧StB W ss a1 k1 a3 k3 a5 k5)::kp (fun v_ W=> ∃(Aq:Option Addr),∃(cq:Nat),∃(b1:Nat→Option Addr),∃(m1:Nat→Nat),∃(b3:Nat→Option Addr),∃(m3:Nat→Nat),v_= .slice Aq asked.length cq∧Tab W 39 Aq 3 asked.length (fun i=> #[.slice (b1 i) ((asked.getD i Bk.none).h.length) ((m1 i)),Iw (((asked.getD i Bk.none).t:Int)),.slice (b3 i) ((asked.getD i Bk.none).r.length) ((m3 i))])∧TLt W.heap.size Aq∧(∀i,i<asked.length→RdBk W (.slice (b1 i) ((asked.getD i Bk.none).h.length) ((m1 i))) (Uw (((asked.getD i Bk.none).t:Int))) (.slice (b3 i) ((asked.getD i Bk.none).r.length) ((m3 i))) (asked.getD i Bk.none))):: []))) [([],[7]),([0],[]),([],[7]),([],[8]),([2,3],[]),([],[])] E (by
           refine dg [3] ?_;refine .cons ?_ ?_
           ·intro T w_ e_ E hN;have z_:=e_.size;replace tl:=tl.mv e_ rfl;refine (rr E Tryz.func12 (back_c w_ A1 l.length c1 (seatL l) (by omega) tl (tlt_up tl_l (by omega)))).mono ?_;rintro _ w15 ⟨A2,c2,rfl,e15,tb2,b2_l⟩;have zw15:=e15.size;exact ⟨e15.up rfl (Nat.zero_le _),A2,c2,rfl,tb2,b2_l⟩
           refine dg [3,0] ?_;refine .cons ?_ ?_
           ·intro T w_ e_ E hN;have z_:=e_.size;replace tn:=tn.mv e_ rfl;replace hK:=e_.blk hK rfl;replace tl:=tl.mv e_ rfl;refine (rr E Tryz.func9 (steps_k w_ hK l hgood h0 2 (by decide) A1 c1 tl (tlt_up tl_l (by omega)) (actL on) on.length co 69 (some adO) (by omega) (by omega) tn (tlt_up ol (by omega)) (fun i hi=>hon.at (by omega)) ss hs1)).mono ?_;rintro _ w16 ⟨As,cs_,a1,k1,a3,k3,a5,k5,rfl,e16,tst,st_l,hst⟩;have zw16:=e16.size;exact ⟨e16.up rfl (Nat.zero_le _),As,cs_,a1,k1,a3,k3,a5,k5,rfl,tst,st_l,hst⟩
           refine .cons ?_ ?_
           ·intro T w_ e_ E hN;refine (rr E Tryz.func10 (blocks_q w_ asked hask)).mono ?_;rintro _ w17 ⟨Aq,cq,b1,m1,b3,m3,rfl,e17,taq,aq_l,haq⟩;have zw17:=e17.size;exact ⟨e17.up rfl (Nat.zero_le _),Aq,cq,b1,m1,b3,m3,rfl,taq,aq_l,haq⟩
           exact .nil
           ) (hst:= .qs 1 (.cons (.p (fun _ _ _ ⟨A2,c2,e,tb2,b2_l⟩ m=>⟨A2,c2,e,tb2.mv m rfl,(tlt_up b2_l m.size)⟩)) (.qs 2 (.cons (.p (fun _ _ _ ⟨As,cs_,a1,k1,a3,k3,a5,k5,e,tst,st_l,hst⟩ m=>⟨As,cs_,a1,k1,a3,k3,a5,k5,e,tst.mv m rfl,(tlt_up st_l m.size),(hst.mv m rfl)⟩)) (.cons (.p (fun _ _ _ ⟨Aq,cq,b1,m1,b3,m3,e,taq,aq_l,haq⟩ m=>⟨Aq,cq,b1,m1,b3,m3,e,taq.mv m rfl,(tlt_up aq_l m.size),(fun i hi=>(haq i hi).mv m rfl)⟩)) .nil))))) fun T w18 e18 hE hN=>?_
          have zw18:=e18.size;obtain ⟨v_,h1_,A2_1,c2_1,rfl,tb2_1,b2_l_1⟩:=hN 1 (by kernel_rfl);obtain ⟨v_,h4_,As_4,cs__4,a1_4,k1_4,a3_4,k3_4,a5_4,k5_4,rfl,tst_4,st_l_4,hst_4⟩:=hN 4 (by kernel_rfl);obtain ⟨v_,h5_,Aq_5,cq_5,b1_5,m1_5,b3_5,m3_5,rfl,taq_5,aq_l_5,haq_5⟩:=hN 5 (by kernel_rfl);have E:=hE [] [(99,_),(102,_),(103,_)] ⟨h1_,h4_,h5_,trivial⟩ (by kernel_rfl);show wpList _ _ _ (_::_) _ _;replace hg:=(hg.mv e18 rfl);refine cl E Tryz.func11 (played_k w18 q hg (cfOf l 2) hc (lawC_cf l 2) A2_1 c2_1 tb2_1 ss hok1 (by omega) As_4 cs__4 a1_4 k1_4 a3_4 k3_4 a5_4 k5_4 tst_4 st_l_4 hst_4 asked (by omega) Aq_5 cq_5 b1_5 m1_5 b3_5 m3_5 taq_5 aq_l_5 haq_5) ?_;rintro _ w19 ⟨Ag1,cg1,vals1,rfl,e19,tg1,tg1_l,hob1⟩ T E;have zw19:=e19.size;obtain ⟨mG1,hmG1⟩: ∃m,m=w19.heap.size:=⟨_,rfl⟩;rw [← hmG1] at hob1 tg1_l;have hzG1:mG1≤w19.heap.size:=by omega
          refine go [1,4] ?_;intro T E;refine wp_seq ?_;refine rgG 6 (Kv (kp (fun v_ W=> ∃(A2:Option Addr),∃(c2:Nat),v_= .slice A2 l.length c2∧Tab W 78 A2 3 l.length (fun i=> #[.string ((seatL l i).ad),.string ((seatL l i).key),Iw (((seatL l i).pw:Int))])∧TLt W.heap.size A2)::Kv2 (kp (fun v_ W=> ∃(As:Option Addr),∃(cs_:Nat),∃(a1:Nat→Option Addr),∃(k1:Nat→Nat),∃(a3:Nat→Option Addr),∃(k3:Nat→Nat),∃(a5:Nat→Option Addr),∃(k5:Nat→Nat),v_= .slice As sv2.length cs_∧Tab W 45 As 12 sv2.length (fun i=> #[Iw (((stp sv2 i).v.kd:Int)),Iw (((stp sv2 i).v.ht:Int)),Iw (((stp sv2 i).v.rd:Int)),Iw ((stp sv2 i).v.pl),.string ((stp sv2 i).v.ad),.slice (a1 i) ((stp sv2 i).v.bk.h.length) ((k1 i)),Iw (((stp sv2 i).v.bk.t:Int)),.slice (a3 i) ((stp sv2 i).v.bk.r.length) ((k3 i)),Iw (((stp sv2 i).v.sec:Int)),Iw (((stp sv2 i).v.ns:Int)),.slice (a5 i) ((stp sv2 i).v.sg.length) ((k5 i)),.string ((stp sv2 i).peer)])∧TLt W.heap.size As∧StB W sv2 a1 k1 a3 k3 a5 k5)::kp (fun v_ W=> ∃(Aq:Option Addr),∃(cq:Nat),∃(b1:Nat→Option Addr),∃(m1:Nat→Nat),∃(b3:Nat→Option Addr),∃(m3:Nat→Nat),v_= .slice Aq asked.length cq∧Tab W 39 Aq 3 asked.length (fun i=> #[.slice (b1 i) ((asked.getD i Bk.none).h.length) ((m1 i)),Iw (((asked.getD i Bk.none).t:Int)),.slice (b3 i) ((asked.getD i Bk.none).r.length) ((m3 i))])∧TLt W.heap.size Aq∧(∀i,i<asked.length→RdBk W (.slice (b1 i) ((asked.getD i Bk.none).h.length) ((m1 i))) (Uw (((asked.getD i Bk.none).t:Int))) (.slice (b3 i) ((asked.getD i Bk.none).r.length) ((m3 i))) (asked.getD i Bk.none))):: []))) [([],[7]),([0],[]),([],[7]),([],[11]),([2,3],[]),([],[])] E (by
           refine .cons (fun _ _ e_ E _=>Ru.d (dv_load E rfl rfl (by kernel_rfl) (cell_of (e_.blk (e19.blk (e18.blk b4_ rfl) rfl) rfl) rfl))) ?_;refine .cons ?_ ?_
           ·intro T w_ e_ E hN;have z_:=e_.size;replace tl:=((tl.mv e18 rfl).mv e19 rfl).mv e_ rfl;refine (rr E Tryz.func12 (back_c w_ A1 l.length c1 (seatL l) (by omega) tl (tlt_up tl_l (by omega)))).mono ?_;rintro _ w20 ⟨A2,c2,rfl,e20,tb2,b2_l⟩;have zw20:=e20.size;exact ⟨e20.up rfl (Nat.zero_le _),A2,c2,rfl,tb2,b2_l⟩
           refine .cons (fun _ _ e_ E _=>Ru.d (dv_load E rfl rfl (by kernel_rfl) (cell_of (e_.blk (e19.blk (e18.blk b4_ rfl) rfl) rfl) rfl))) ?_;refine dg [0] ?_;refine .cons ?_ ?_
           ·intro T w_ e_ E hN;have z_:=e_.size;replace tb:=((tb.mv e18 rfl).mv e19 rfl).mv e_ rfl;replace tbl:=(tlt_up ((tlt_up ((tlt_up tbl e18.size)) e19.size)) e_.size);replace hK:=e_.blk (e19.blk (e18.blk hK rfl) rfl) rfl;replace tl:=((tl.mv e18 rfl).mv e19 rfl).mv e_ rfl;refine (rr E Tryz.func9 (steps_k w_ hK l hgood h0 2 (by decide) A1 c1 tl (tlt_up tl_l (by omega)) (actL ot) on.length cc 69 (some ⟨gco,0,none⟩) (by omega) (by omega) tb.tab tbl (fun i hi=>hon2.at (by omega)) sv2 hs2)).mono ?_;rintro _ w21 ⟨As,cs_,a1,k1,a3,k3,a5,k5,rfl,e21,tst,st_l,hst⟩;have zw21:=e21.size;exact ⟨e21.up rfl (Nat.zero_le _),As,cs_,a1,k1,a3,k3,a5,k5,rfl,tst,st_l,hst⟩
           refine .cons ?_ ?_
           ·intro T w_ e_ E hN;refine (rr E Tryz.func10 (blocks_q w_ asked hask)).mono ?_;rintro _ w22 ⟨Aq,cq,b1,m1,b3,m3,rfl,e22,taq,aq_l,haq⟩;have zw22:=e22.size;exact ⟨e22.up rfl (Nat.zero_le _),Aq,cq,b1,m1,b3,m3,rfl,taq,aq_l,haq⟩
           exact .nil
           ) (hst:= .qs 1 (.cons (.p (fun _ _ _ ⟨A2,c2,e,tb2,b2_l⟩ m=>⟨A2,c2,e,tb2.mv m rfl,(tlt_up b2_l m.size)⟩)) (.qs 2 (.cons (.p (fun _ _ _ ⟨As,cs_,a1,k1,a3,k3,a5,k5,e,tst,st_l,hst⟩ m=>⟨As,cs_,a1,k1,a3,k3,a5,k5,e,tst.mv m rfl,(tlt_up st_l m.size),(hst.mv m rfl)⟩)) (.cons (.p (fun _ _ _ ⟨Aq,cq,b1,m1,b3,m3,e,taq,aq_l,haq⟩ m=>⟨Aq,cq,b1,m1,b3,m3,e,taq.mv m rfl,(tlt_up aq_l m.size),(fun i hi=>(haq i hi).mv m rfl)⟩)) .nil))))) fun T w23 e23 hE hN=>?_
          have zw23:=e23.size;obtain ⟨v_,h1_,A2_1,c2_1,rfl,tb2_1,b2_l_1⟩:=hN 1 (by kernel_rfl);obtain ⟨v_,h4_,As_4,cs__4,a1_4,k1_4,a3_4,k3_4,a5_4,k5_4,rfl,tst_4,st_l_4,hst_4⟩:=hN 4 (by kernel_rfl);obtain ⟨v_,h5_,Aq_5,cq_5,b1_5,m1_5,b3_5,m3_5,rfl,taq_5,aq_l_5,haq_5⟩:=hN 5 (by kernel_rfl);have E:=hE [] [(106,_),(109,_),(110,_)] ⟨h1_,h4_,h5_,trivial⟩ (by kernel_rfl);show wpList _ _ _ (_::_) _ _;replace hg:=(((hg.mv e19 rfl)).mv e23 rfl);refine cl E Tryz.func11 (played_k w23 q hg (cfOf l 2) hc (lawC_cf l 2) A2_1 c2_1 tb2_1 sv2 hok2 (by omega) As_4 cs__4 a1_4 k1_4 a3_4 k3_4 a5_4 k5_4 tst_4 st_l_4 hst_4 asked (by omega) Aq_5 cq_5 b1_5 m1_5 b3_5 m3_5 taq_5 aq_l_5 haq_5) ?_;rintro _ w24 ⟨Ag2,cg2,vals2,rfl,e24,tg2,tg2_l,hob2⟩ T E;have zw24:=e24.size;obtain ⟨mG2,hmG2⟩: ∃m,m=w24.heap.size:=⟨_,rfl⟩;rw [← hmG2] at hob2 tg2_l;have hzG2:mG2≤w24.heap.size:=by omega
          refine go [1,4] ?_;intro T E;refine sk fun K10 hK10=>?_;refine go [5,0,6,0,6] ?_;intro T E;refine sv E (dv_as (c:=false) (dv_neq E rfl rfl rfl (nc_ne ss.length on.length)) (decide_eq_false (by omega))) fun T E=>?_;refine go [0,30,36,30,36] ?_;intro T E;refine seq_von (b:=false) E (dv_as (c:=false) (dv_neq E rfl rfl rfl (nc_ne sv2.length on.length)) (decide_eq_false (by omega))) rfl rfl rfl rfl rfl rfl (fun T E=> ?_);refine go [9,4,15,16] ?_;intro T E;refine hK10 _ _ ?_;refine wp_seq ?_;obtain ⟨m,hm⟩: ∃m,on.length=m+1:=⟨on.length-1,by omega⟩;have hal4:=once_alike hgood h0 hon hp hm;rw [hss,hsr] at hal4;have hmv:=OnceL.len hon h0;replace hzG1:=(Nat.le_trans (Nat.le_trans hzG1 e23.size) e24.size);replace hob1:=RdOb.al (RdOb.al hob1 e23 rfl (.inl rfl)) e24 rfl (.inl rfl);obtain ⟨m1,ad1,tl1,hR1⟩: ∃m_ ad tl,sAt (cfOf l 2) ss m=(m_,ad,tl):=⟨_,_,_,rfl⟩;have hobi1:=hob1 m (by omega);rw [obAt_of hR1] at hobi1;rw [hR1] at hal4;obtain ⟨A1g1,c1g1,A3g1,c3g1,Av1,cv1,Ak1,ck1,d11,n11,d31,n31,Ab1,cb1,bv1,hcs1,hrg1,⟨tv1,tv1_l⟩,_⟩:=hobi1.open;obtain ⟨m2,ad2,tl2,hR2⟩: ∃m_ ad tl,sAt (cfOf l 2) sv2 m=(m_,ad,tl):=⟨_,_,_,rfl⟩;have hobi2:=hob2 m (by omega);rw [obAt_of hR2] at hobi2;rw [hR2] at hal4;obtain ⟨A1g2,c1g2,A3g2,c3g2,Av2,cv2,Ak2,ck2,d12,n12,d32,n32,Ab2,cb2,bv2,hcs2,hrg2,⟨tv2,tv2_l⟩,_⟩:=hobi2.open;obtain ⟨hmo,hsu,hvv⟩:=hal4;simp only at hmo hsu hvv;refine rg3 (fun g=> .pointer (some ⟨g,0,none⟩)) 15 14 12 13 18 19 [58] (w24.heap.size) (Mk58 w24.heap.size) (fun (g:Nat) (w:World)=>w.heap[g]? =some (.cells #[.bool ad1,Iw ((tl1:Int)),.bool m1.most.isSome,.bool (decide ((cfOf l 2).total*2 / 3<m1.sum)),.bool (decide (m1.sum=(cfOf l 2).total)),.slice A1g1 ((m1.most.getD Bk.none).h.length) c1g1,Iw (((m1.most.getD Bk.none).t:Int)),.slice A3g1 ((m1.most.getD Bk.none).r.length) c3g1,.slice Av1 ((cfOf l 2).n) cv1,.slice Ak1 ((votesM (cfOf l 2).n m1.vs).length) ck1,.slice Ab1 asked.length cb1] 58 (0,0))) [fun v_ W=>v_= .slice Ag1 ss.length cg1,fun v_ W=>v_= .slice Ag1 ss.length cg1,fun v_ W=>v_=Iw ((ss.length:Int)),fun v_ W=>v_=Iw ((m:Int)),fun v_ W=>v_= .pointer (some (adr Ag1 (m*11))),fun v_ W=>v_= .agg #[.bool ad1,Iw ((tl1:Int)),.bool m1.most.isSome,.bool (decide ((cfOf l 2).total*2 / 3<m1.sum)),.bool (decide (m1.sum=(cfOf l 2).total)),.slice A1g1 ((m1.most.getD Bk.none).h.length) c1g1,Iw (((m1.most.getD Bk.none).t:Int)),.slice A3g1 ((m1.most.getD Bk.none).r.length) c3g1,.slice Av1 ((cfOf l 2).n) cv1,.slice Ak1 ((votesM (cfOf l 2).n m1.vs).length) ck1,.slice Ab1 asked.length cb1],fun v_ W=>v_= .slice Ag2 sv2.length cg2,fun v_ W=>v_= .slice Ag2 sv2.length cg2,fun v_ W=>v_=Iw ((sv2.length:Int)),fun v_ W=>v_=Iw ((m:Int)),fun v_ W=>v_= .pointer (some (adr Ag2 (m*11))),fun v_ W=>v_= .agg #[.bool ad2,Iw ((tl2:Int)),.bool m2.most.isSome,.bool (decide ((cfOf l 2).total*2 / 3<m2.sum)),.bool (decide (m2.sum=(cfOf l 2).total)),.slice A1g2 ((m2.most.getD Bk.none).h.length) c1g2,Iw (((m2.most.getD Bk.none).t:Int)),.slice A3g2 ((m2.most.getD Bk.none).r.length) c3g2,.slice Av2 ((cfOf l 2).n) cv2,.slice Ak2 ((votesM (cfOf l 2).n m2.vs).length) ck2,.slice Ab2 asked.length cb2],fun v_ W=> ∃g17_,v_=Pt g17_∧w24.heap.size≤g17_∧K58 W g17_,fun v_ W=> ∃g18_,v_=Pt g18_∧w24.heap.size≤g18_∧K58 W g18_,fun v_ W=>v_=undef] E (by kernel_rfl) (by kernel_rfl) ⟨rfl,rfl⟩ ⟨rfl,rfl⟩ rfl (by simp) (fun _ _ m=>m.1) rfl (by kernel_rfl) (fun g w w1 h e=>e.blk h rfl) ?_ ?_ ?_ ?_
          ·exact .cons (fun _ _ _ h _=>h) (.cons (fun _ _ _ h _=>h) (.cons (fun _ _ _ h _=>h) (.cons (fun _ _ _ h _=>h) (.cons (fun _ _ _ h _=>h) (.cons (fun _ _ _ h _=>h) (.cons (fun _ _ _ h _=>h) (.cons (fun _ _ _ h _=>h) (.cons (fun _ _ _ h _=>h) (.cons (fun _ _ _ h _=>h) (.cons (fun _ _ _ h _=>h) (.cons (fun _ _ _ h _=>h) (.cons (fun _ _ _ ⟨g17_,e,lg17_,kg17_⟩ m=>⟨g17_,e,lg17_,(kg17_.mv m)⟩) (.cons (fun _ _ _ ⟨g18_,e,lg18_,kg18_⟩ m=>⟨g18_,e,lg18_,(kg18_.mv m)⟩) (.cons (fun _ _ _ h _=>h) (.nil)))))))))))))))
          ·exact .cons (fun _ _ _ _ h _=>h) (.cons (fun _ _ _ _ h _=>h) (.cons (fun _ _ _ _ h _=>h) (.cons (fun _ _ _ _ h _=>h) (.cons (fun _ _ _ _ h _=>h) (.cons (fun _ _ _ _ h _=>h) (.cons (fun _ _ _ _ h _=>h) (.cons (fun _ _ _ _ h _=>h) (.cons (fun _ _ _ _ h _=>h) (.cons (fun _ _ _ _ h _=>h) (.cons (fun _ _ _ _ h _=>h) (.cons (fun _ _ _ _ h _=>h) (.cons (fun _ _ _ _ ⟨g17_,e,lg17_,kg17_⟩ m=>⟨g17_,e,lg17_,m.2 _ kg17_⟩) (.cons (fun _ _ _ _ ⟨g18_,e,lg18_,kg18_⟩ m=>⟨g18_,e,lg18_,m.2 _ kg18_⟩) (.cons (fun h=>by cases h) (.nil)))))))))))))))
          ·refine .cons ?_ (.cons ?_ (.cons ?_ (.cons ?_ (.cons ?_ (.cons ?_ (.cons ?_ (.cons ?_ (.cons ?_ (.cons ?_ (.cons ?_ (.cons ?_ (.cons ?_ (.cons ?_ (.cons ?_ (.nil)))))))))))))))
           ·intro T w_ HM hT hO hN;have e_:Mv [58] (w24.heap.size) w24 w_:=mvD HM;have z_:=e_.size;have E_0:=Env.nil hT;have E_1:=E_0.add ((hO 16 (by kernel_rfl)).trans (E.get rfl));exact Ru.v (dv_move E_1 rfl rfl) rfl ⟨⟨Mv.refl _ _ _,trivial⟩,rfl⟩
           ·intro T w_ HM hT hO hN;have e_:Mv [58] (w24.heap.size) w24 w_:=mvD HM;have z_:=e_.size;have E_0:=Env.nil hT;have E_1:=E_0.add ((hO 16 (by kernel_rfl)).trans (E.get rfl));exact Ru.v (dv_move E_1 rfl rfl) rfl ⟨⟨Mv.refl _ _ _,trivial⟩,rfl⟩
           ·intro T w_ HM hT hO hN;have e_:Mv [58] (w24.heap.size) w24 w_:=mvD HM;have z_:=e_.size;have E_0:=Env.nil hT;obtain ⟨v_,h_,rfl⟩:=hN 1 (by kernel_rfl);have E_1:=E_0.add h_;exact Ru.v (dv_lenSl E_1 rfl rfl (by kernel_rfl)) rfl ⟨⟨Mv.refl _ _ _,trivial⟩,rfl⟩
           ·intro T w_ HM hT hO hN;have e_:Mv [58] (w24.heap.size) w24 w_:=mvD HM;have z_:=e_.size;have E_0:=Env.nil hT;obtain ⟨v_,h_,rfl⟩:=hN 2 (by kernel_rfl);have E_1:=E_0.add h_;exact Ru.v (dv_sub (c:=(m:Int)) E_1 rfl rfl rfl (by rw [show ((ss.length:Nat):Int)-1=(m:Int) by omega];exact wrap_i64 (by omega) (by omega))) rfl ⟨⟨Mv.refl _ _ _,trivial⟩,rfl⟩
           ·intro T w_ HM hT hO hN;have e_:Mv [58] (w24.heap.size) w24 w_:=mvD HM;have z_:=e_.size;have E_0:=Env.nil hT;obtain ⟨v_,h_,rfl⟩:=hN 0 (by kernel_rfl);have E_1:=E_0.add h_;obtain ⟨v_,h_,rfl⟩:=hN 3 (by kernel_rfl);have E_2:=E_1.add h_;replace tg1:=((tg1.mv e23 rfl).mv e24 rfl).keep tg1_l e_ (by omega);exact Ru.v (dv_indexA (A:=Ag1) (k:=11) (i:=m) (j:=m*11) E_2 rfl rfl rfl (by kernel_rfl) (by omega) (Tab.sure tg1 (by omega)) rfl) rfl ⟨⟨Mv.refl _ _ _,trivial⟩,rfl⟩
           ·intro T w_ HM hT hO hN;have e_:Mv [58] (w24.heap.size) w24 w_:=mvD HM;have z_:=e_.size;have E_0:=Env.nil hT;obtain ⟨v_,h_,rfl⟩:=hN 4 (by kernel_rfl);have E_1:=E_0.add h_;replace tg1:=((tg1.mv e23 rfl).mv e24 rfl).keep tg1_l e_ (by omega);exact Ru.v (dv_loadRow (k:=11) (vs:=#[.bool ad1,Iw ((tl1:Int)),.bool m1.most.isSome,.bool (decide ((cfOf l 2).total*2 / 3<m1.sum)),.bool (decide (m1.sum=(cfOf l 2).total)),.slice A1g1 ((m1.most.getD Bk.none).h.length) c1g1,Iw (((m1.most.getD Bk.none).t:Int)),.slice A3g1 ((m1.most.getD Bk.none).r.length) c3g1,.slice Av1 ((cfOf l 2).n) cv1,.slice Ak1 ((votesM (cfOf l 2).n m1.vs).length) ck1,.slice Ab1 asked.length cb1]) E_1 rfl rfl (by kernel_rfl) (by kernel_rfl) rfl (Tab.sub (r:=0) tg1 (by omega) rfl rfl (fun j hj=>by rw [hcs1,Nat.zero_add]))) rfl ⟨⟨Mv.refl _ _ _,trivial⟩,rfl⟩
           ·intro T w_ HM hT hO hN;have e_:Mv [58] (w24.heap.size) w24 w_:=mvD HM;have z_:=e_.size;have E_0:=Env.nil hT;have E_1:=E_0.add ((hO 17 (by kernel_rfl)).trans (E.get rfl));exact Ru.v (dv_move E_1 rfl rfl) rfl ⟨⟨Mv.refl _ _ _,trivial⟩,rfl⟩
           ·intro T w_ HM hT hO hN;have e_:Mv [58] (w24.heap.size) w24 w_:=mvD HM;have z_:=e_.size;have E_0:=Env.nil hT;have E_1:=E_0.add ((hO 17 (by kernel_rfl)).trans (E.get rfl));exact Ru.v (dv_move E_1 rfl rfl) rfl ⟨⟨Mv.refl _ _ _,trivial⟩,rfl⟩
           ·intro T w_ HM hT hO hN;have e_:Mv [58] (w24.heap.size) w24 w_:=mvD HM;have z_:=e_.size;have E_0:=Env.nil hT;obtain ⟨v_,h_,rfl⟩:=hN 7 (by kernel_rfl);have E_1:=E_0.add h_;exact Ru.v (dv_lenSl E_1 rfl rfl (by kernel_rfl)) rfl ⟨⟨Mv.refl _ _ _,trivial⟩,rfl⟩
           ·intro T w_ HM hT hO hN;have e_:Mv [58] (w24.heap.size) w24 w_:=mvD HM;have z_:=e_.size;have E_0:=Env.nil hT;obtain ⟨v_,h_,rfl⟩:=hN 8 (by kernel_rfl);have E_1:=E_0.add h_;exact Ru.v (dv_sub (c:=(m:Int)) E_1 rfl rfl rfl (by rw [show ((sv2.length:Nat):Int)-1=(m:Int) by omega];exact wrap_i64 (by omega) (by omega))) rfl ⟨⟨Mv.refl _ _ _,trivial⟩,rfl⟩
           ·intro T w_ HM hT hO hN;have e_:Mv [58] (w24.heap.size) w24 w_:=mvD HM;have z_:=e_.size;have E_0:=Env.nil hT;obtain ⟨v_,h_,rfl⟩:=hN 6 (by kernel_rfl);have E_1:=E_0.add h_;obtain ⟨v_,h_,rfl⟩:=hN 9 (by kernel_rfl);have E_2:=E_1.add h_;replace tg2:=tg2.keep tg2_l e_ (by omega);exact Ru.v (dv_indexA (A:=Ag2) (k:=11) (i:=m) (j:=m*11) E_2 rfl rfl rfl (by kernel_rfl) (by omega) (Tab.sure tg2 (by omega)) rfl) rfl ⟨⟨Mv.refl _ _ _,trivial⟩,rfl⟩
           ·intro T w_ HM hT hO hN;have e_:Mv [58] (w24.heap.size) w24 w_:=mvD HM;have z_:=e_.size;have E_0:=Env.nil hT;obtain ⟨v_,h_,rfl⟩:=hN 10 (by kernel_rfl);have E_1:=E_0.add h_;replace tg2:=tg2.keep tg2_l e_ (by omega);exact Ru.v (dv_loadRow (k:=11) (vs:=#[.bool ad2,Iw ((tl2:Int)),.bool m2.most.isSome,.bool (decide ((cfOf l 2).total*2 / 3<m2.sum)),.bool (decide (m2.sum=(cfOf l 2).total)),.slice A1g2 ((m2.most.getD Bk.none).h.length) c1g2,Iw (((m2.most.getD Bk.none).t:Int)),.slice A3g2 ((m2.most.getD Bk.none).r.length) c3g2,.slice Av2 ((cfOf l 2).n) cv2,.slice Ak2 ((votesM (cfOf l 2).n m2.vs).length) ck2,.slice Ab2 asked.length cb2]) E_1 rfl rfl (by kernel_rfl) (by kernel_rfl) rfl (Tab.sub (r:=0) tg2 (by omega) rfl rfl (fun j hj=>by rw [hcs2,Nat.zero_add]))) rfl ⟨⟨Mv.refl _ _ _,trivial⟩,rfl⟩
           ·intro T w_ HM hT hO hN;have e_:Mv [58] (w24.heap.size) w24 w_:=mvD HM;have z_:=e_.size;have E_0:=Env.nil hT;refine (ru_alloc58 (z:= .agg #[.bool false,Iw 0,.bool false,.bool false,.bool false,.slice none 0 0,Iw 0,.slice none 0 0,.slice none 0 0,.slice none 0 0,.slice none 0 0]) rfl rfl (by kernel_rfl) rfl).mono ?_;rintro _ w25 ⟨g17_,rfl,e25,lg17_,xg17_,kg17_⟩;have zw25:=e25.size;have yg17_:=K58.lt kg17_;replace lg17_:w24.heap.size≤g17_:=by omega
            exact ⟨⟨e25,g17_,rfl,by omega,by omega⟩,g17_,rfl,lg17_,kg17_⟩
           ·intro T w_ HM hT hO hN;have e_:Mv [58] (w24.heap.size) w24 w_:=mvD HM;have z_:=e_.size;have E_0:=Env.nil hT;refine (ru_alloc58 (z:= .agg #[.bool false,Iw 0,.bool false,.bool false,.bool false,.slice none 0 0,Iw 0,.slice none 0 0,.slice none 0 0,.slice none 0 0,.slice none 0 0]) rfl rfl (by kernel_rfl) rfl).mono ?_;rintro _ w26 ⟨g18_,rfl,e26,lg18_,xg18_,kg18_⟩;have zw26:=e26.size;have yg18_:=K58.lt kg18_;replace lg18_:w24.heap.size≤g18_:=by omega
            exact ⟨⟨e26,g18_,rfl,by omega,by omega⟩,g18_,rfl,lg18_,kg18_⟩
           ·intro T w_ HM hT hO hN;have e_:Mv [] (0) w24 w_:=mvD HM;have z_:=e_.size;have E_0:=Env.nil hT;obtain ⟨v_,h_,g17__12,rfl,lg17__12,kg17__12⟩:=hN 12 (by kernel_rfl);have E_1:=E_0.add h_;obtain ⟨v_,h_,rfl⟩:=hN 5 (by kernel_rfl);have E_2:=E_1.add h_;refine (ru_store58 E_2 kg17__12 rfl rfl rfl rfl (by kernel_rfl) rfl rfl).mono ?_;rintro _ w27 ⟨rfl,e27,n19_,bx20_⟩;have zw27:=e27.size;exact ⟨⟨⟨Mk58.mk e27 n19_ bx20_ rfl (by omega),_,E_2.get rfl,bx20_⟩,trivial⟩,rfl⟩
          ·intro T w28 HM hT hO hN hP hQ;have e28:=mvD HM;have zw28:=e28.size;have E_0:=Env.nil hT;have E_1:=E_0.add ((hO 7 (by kernel_rfl)).trans (E.get rfl));have E_2:=E_1.add ((hO 8 (by kernel_rfl)).trans (E.get rfl));have E_3:=E_2.add ((hO 11 (by kernel_rfl)).trans (E.get rfl));have E_4:=E_3.add ((hO 68 (by kernel_rfl)).trans (E.get rfl));have E_5:=E_4.add ((hO 69 (by kernel_rfl)).trans (E.get rfl));have E_6:=E_5.add ((hO 70 (by kernel_rfl)).trans (E.get rfl));have E_7:=E_6.add ((hO 71 (by kernel_rfl)).trans (E.get rfl));have E_8:=E_7.add ((hO 99 (by kernel_rfl)).trans (E.get rfl));have E_9:=E_8.add ((hO 102 (by kernel_rfl)).trans (E.get rfl));have E_10:=E_9.add ((hO 103 (by kernel_rfl)).trans (E.get rfl));have E_11:=E_10.add ((hO 104 (by kernel_rfl)).trans (E.get rfl));have E_12:=E_11.add ((hO 16 (by kernel_rfl)).trans (E.get rfl));have E_13:=E_12.add ((hO 106 (by kernel_rfl)).trans (E.get rfl));have E_14:=E_13.add ((hO 109 (by kernel_rfl)).trans (E.get rfl));have E_15:=E_14.add ((hO 110 (by kernel_rfl)).trans (E.get rfl));have E_16:=E_15.add ((hO 111 (by kernel_rfl)).trans (E.get rfl));have E_17:=E_16.add ((hO 17 (by kernel_rfl)).trans (E.get rfl));have E_18:=E_17.add ((hO 112 (by kernel_rfl)).trans (E.get rfl));have E_19:=E_18.add ((hO 113 (by kernel_rfl)).trans (E.get rfl));have E_20:=E_19.add ((hO 114 (by kernel_rfl)).trans (E.get rfl));have E_21:=E_20.add ((hO 115 (by kernel_rfl)).trans (E.get rfl));have E_22:=E_21.add ((hO 116 (by kernel_rfl)).trans (E.get rfl));have E_23:=E_22.add ((hO 117 (by kernel_rfl)).trans (E.get rfl));have E_24:=E_23.add ((hO 118 (by kernel_rfl)).trans (E.get rfl));have E_25:=E_24.add ((hO 119 (by kernel_rfl)).trans (E.get rfl));have E_26:=E_25.add ((hO 120 (by kernel_rfl)).trans (E.get rfl));have E_27:=E_26.add ((hO 121 (by kernel_rfl)).trans (E.get rfl));have E_28:=E_27.add ((hO 122 (by kernel_rfl)).trans (E.get rfl));have E_29:=E_28.add ((hO 123 (by kernel_rfl)).trans (E.get rfl));obtain ⟨v_,h_,rfl⟩:=hN 11 (by kernel_rfl);have E_30:=E_29.add h_;obtain ⟨v_,h_,g17__12,rfl,lg17__12,kg17__12⟩:=hN 12 (by kernel_rfl);have E_31:=E_30.add h_;have hp12_:=h_;have bx_:w28.heap[g17__12]? =some (.cells #[.bool ad1,Iw ((tl1:Int)),.bool m1.most.isSome,.bool (decide ((cfOf l 2).total*2 / 3<m1.sum)),.bool (decide (m1.sum=(cfOf l 2).total)),.slice A1g1 ((m1.most.getD Bk.none).h.length) c1g1,Iw (((m1.most.getD Bk.none).t:Int)),.slice A3g1 ((m1.most.getD Bk.none).r.length) c3g1,.slice Av1 ((cfOf l 2).n) cv1,.slice Ak1 ((votesM (cfOf l 2).n m1.vs).length) ck1,.slice Ab1 asked.length cb1] 58 (0,0)):=at58 hp12_ hQ;obtain ⟨v_,h_,g18__13,rfl,lg18__13,kg18__13⟩:=hN 13 (by kernel_rfl);have E_32:=E_31.add h_;have hp13_:=h_;have hpair_:g17__12≠g18__13:=fun e=>hP (by rw [hp12_,hp13_,e]);obtain ⟨v_,rfl⟩:=hN 14 (by kernel_rfl);have E:=E_32;refine sr0 E (ru_store58 E kg18__13 rfl rfl rfl rfl (by kernel_rfl) rfl rfl) ?_;rintro _ w29 ⟨rfl,e29,n21_,bx22_⟩;have zw29:=e29.size;replace bx_:=n21_ _ _ bx_ hpair_;refine go [4,5,52,3,52,3] ?_;intro T E;refine sv E (dv_as (c:=true) (dv_eqlBool E rfl rfl rfl (by kernel_rfl)) (by rw [hmo];exact beq_self_eq_true _)) fun T E=>?_;refine go [0,105] ?_;intro T E;refine seq_von (b:=true) E (dv_loadRow (k:=3) (vs:=#[.slice A1g1 ((m1.most.getD Bk.none).h.length) c1g1,Iw (((m1.most.getD Bk.none).t:Int)),.slice A3g1 ((m1.most.getD Bk.none).r.length) c3g1]) E rfl rfl (by kernel_rfl) (by kernel_rfl) rfl (fun j hj=>row_cells_at (vs:=#[.slice A1g1 ((m1.most.getD Bk.none).h.length) c1g1,Iw (((m1.most.getD Bk.none).t:Int)),.slice A3g1 ((m1.most.getD Bk.none).r.length) c3g1]) (k:=5) bx_ (fun j hj=>by match j,hj with | 0,_=>rfl | 1,_=>rfl | 2,_=>rfl) j hj)) rfl rfl rfl rfl rfl rfl (fun T E=> ?_);refine go [105] ?_;intro T E;refine seq_von (b:=true) E (dv_loadRow (k:=3) (vs:=#[.slice A1g2 ((m2.most.getD Bk.none).h.length) c1g2,Iw (((m2.most.getD Bk.none).t:Int)),.slice A3g2 ((m2.most.getD Bk.none).r.length) c3g2]) E rfl rfl (by kernel_rfl) (by kernel_rfl) rfl (fun j hj=>row_cells_at (vs:=#[.slice A1g2 ((m2.most.getD Bk.none).h.length) c1g2,Iw (((m2.most.getD Bk.none).t:Int)),.slice A3g2 ((m2.most.getD Bk.none).r.length) c3g2]) (k:=5) bx22_ (fun j hj=>by match j,hj with | 0,_=>rfl | 1,_=>rfl | 2,_=>rfl) j hj)) rfl rfl rfl rfl rfl rfl (fun T E=> ?_);replace hrg1:=(hrg1.mv e28 rfl).mv e29 rfl;replace hrg2:=(hrg2.mv e28 rfl).mv e29 rfl;refine sr E (rr E Tryz.func21 (ret_b (same_c w29 ((m1.most.getD Bk.none)) ((m2.most.getD Bk.none)) A1g1 c1g1 A3g1 c3g1 hrg1 A1g2 c1g2 A3g2 c3g2 hrg2) (decide_eq_true (by rw [hmo]))) (wanted_on (b:=true) E rfl rfl rfl rfl)) ?_;rintro _ w30 ⟨rfl,e30⟩ T E;have zw30:=e30.size;replace bx_:=e30.blk bx_ rfl;replace bx22_:=e30.blk bx22_ rfl;refine go [8,0,103,33,103,33] ?_;intro T E;refine seq_von (b:=true) E (dv_as (c:=true) (dv_eqlBool E rfl rfl rfl (by kernel_rfl)) (by rw [hsu];exact beq_self_eq_true _)) rfl rfl rfl rfl rfl rfl (fun T E=> ?_);refine go [8,0,104,33,104,33] ?_;intro T E;refine seq_von (b:=true) E (dv_as (c:=true) (dv_eqlBool E rfl rfl rfl (by kernel_rfl)) (by rw [hsu];exact beq_self_eq_true _)) rfl rfl rfl rfl rfl rfl (fun T E=> ?_);refine go [8,0,108,33,108,33] ?_;intro T E;replace tv1:=((tv1.mv e28 rfl).mv e29 rfl).mv e30 rfl;replace tv2:=((tv2.mv e28 rfl).mv e29 rfl).mv e30 rfl;refine sr E (rr E Tryz.func23 (equal_v w30 (cfOf l 2).n (show l.length≤1000 by omega) m1.vs m2.vs Av1 cv1 Av2 cv2 tv1 (tlt_up tv1_l (by omega)) tv2 (tlt_up tv2_l (by omega)) hvv) (wanted_on (b:=true) E rfl rfl rfl rfl)) ?_;rintro _ w31 ⟨rfl,e31⟩ T E;have zw31:=e31.size;refine go [8,1,4,17] ?_;intro T E;replace ho:=old0 (old0 (old1 (old1 (old1 (old0 (old1 (old0 ho e18) e19 (by omega)) e23) e24 (by omega)) e28 (by omega)) e29 (by omega)) e30) e31;refine post1_ret E rfl rfl ?_;exact ⟨rfl,ho⟩
open Go.RowKit Go.Deep Go.Proofs.YtlnknihjccdgkaaGreatDoor.X
def has1 (P:Program) (fits:TypeId→Bool):Nat→TypeId→Bool
  | 0,_=>false
  | d+1,e=>fits e || match P.underlying e with
    | some (.struct fs)=>fs.any fun f=>has1 P fits d f.type
    | some (.array _ e2)=>has1 P fits d e2
    | _=>false
theorem rowAt_has {P:Program} {fits:TypeId→Bool}: ∀(d:Nat) (e:TypeId) (count off n:Nat),rowAt P fits d e count off n=true→has1 P fits d e=true
  | 0,e,count,off,n,h=>by simp [rowAt] at h
  | d+1,e,count,off,n,h=>by
    unfold rowAt at h;unfold has1;simp only at h
    split at h
    · cases h
    · simp only [Bool.or_eq_true,Bool.and_eq_true] at h
      rcases h with h | h
      · simp [h.2]
      · have h2:=h.2
        cases hu:P.underlying e with
        | none=>rw [hu] at h2;simp at h2
        | some t=>
          rw [hu] at h2;cases t with
          | struct fs=>
            replace h2:(!P.stoodInHeld e && fs.any fun f=>f.offset≤off % P.cellsOf e && off % P.cellsOf e<f.offset+P.cellsOf f.type && rowAt P fits d f.type 1 (off % P.cellsOf e-f.offset) n)=true:=h2;rw [Bool.and_eq_true,Array.any_eq_true] at h2;obtain ⟨_,i,hi,h3⟩:=h2;simp only [Bool.or_eq_true,Array.any_eq_true];simp only [Bool.and_eq_true] at h3;exact .inr ⟨i,hi,rowAt_has d _ _ _ _ h3.2⟩
          | array m e2=>
            simp only [Bool.or_eq_true];exact .inr (rowAt_has d _ _ _ _ h2)
          | _=>simp at h2
theorem lies_has {P:Program} {e u:TypeId} {count off n:Nat} (hu:(match P.underlying u with | some (.array _ _)=>false | _=>true)=true) (h:liesAt P P.depth e count off u n=true):has1 P (sameLayout P P.depth · u) P.depth e=true:=by
  cases hd:P.depth with
  | zero=>rw [hd] at h;simp [liesAt] at h
  | succ d=>
    rw [hd] at h;unfold liesAt at h;rw [Bool.or_eq_true] at h;rcases h with h | h
    · rw [hd] at h;exact rowAt_has _ _ _ _ _ h
    · cases hx:P.underlying u with
      | none=>rw [hx] at h;simp at h
      | some t=>
        rw [hx] at h hu;cases t <;> simp at h hu
theorem glkNo:GLK.all (fun k=> !has1 Tryz.prog (sameLayout Tryz.prog Tryz.prog.depth · 218) Tryz.prog.depth k)=true:=by kernel_rfl
theorem errNoArr:(match Tryz.prog.underlying 218 with | some (.array _ _)=>false | _=>true)=true:=by kernel_rfl
theorem glk_row {e:TypeId} {count off:Nat} (h:liesAt Tryz.prog Tryz.prog.depth e count off 218 1=true):GLK.contains e=false:=by
  have h1:=lies_has errNoArr h;cases h2:GLK.contains e
  · rfl
  · have h3:=List.all_eq_true.1 glkNo e (List.contains_iff_mem.1 h2)
    rw [h1] at h3;cases h3
theorem laid_in {P:Program} {W:World}: ∀{l:List (String×DataW Unit)} {ps:List MemPlace} {n:String} {d:DataW Unit},DataW.LaidVars P W l ps→(n,d)∈l→∃g t cs fuel p,P.globalNamed n=some g∧(P.globals[g]?).map (·.type)=some t∧W.var? P n=some cs∧DataW.trod (fun _=>()) P W 0 (fun _=>true) false fuel t cs.toList=some (d,p)∧∀x∈MemPlace.row ⟨g,0,none⟩ cs.size++p,x∈ps
  | [],_,_,_,_,h=>by cases h
  | (n1,d1)::r,ps,n,d,h,hm=>by
    obtain ⟨g,t,cs,fuel,p,q,h1,h2,h3,h4,h5,h6⟩:=h;rcases List.mem_cons.1 hm with e | e
    · injection e with e1 e2
      subst e1 e2;exact ⟨g,t,cs,fuel,p,h1,h2,h3,h4,fun x hx=>by rw [h6];exact List.mem_append_left _ hx⟩
    · obtain ⟨g2,t2,cs2,f2,p2,k1,k2,k3,k4,k5⟩:=laid_in h5 e
      exact ⟨g2,t2,cs2,f2,p2,k1,k2,k3,k4,fun x hx=>by rw [h6];exact List.mem_append_right _ (k5 x hx)⟩
def errD (text:List UInt8):DataW Unit:= .iface "*errors.errorString" (.ptr (.agg [.lit (.string text)]))
theorem rowErr (u:TypeId) (h:Tryz.prog.typeName? 3 u=some "*errors.errorString"):u=216:=
  typeName_ptr_named (nm:= "errors.errorString") (by rw [show "*" ++ "errors.errorString" = "*errors.errorString" by decide];kernel_rfl) (by kernel_rfl) (by decide) u (by rw [show "*" ++ "errors.errorString" = "*errors.errorString" by decide];exact h)
theorem shape_glob {W:World} (hs:W.ShapedOpen Tryz.prog) {g t:Nat} (hg:g<Tryz.prog.globals.size) {z:Array Value} (hz:(((begin Tryz.prog (fun _ _=>0) default).world.heap[g]?).bind Obj.row?)=some (z,t)): ∃cs,W.heap[g]? =some (.cells cs t (0,0)):=by
  obtain ⟨cs,h1,_⟩:=hs.1 g z t hg hz;exact ⟨cs,h1⟩
theorem var_at {W:World} {n:String} {g t:Nat} {cs cs2:Array Value} (hg:Tryz.prog.globalNamed n=some g) (hv:W.var? Tryz.prog n=some cs) (hb:W.heap[g]? =some (.cells cs2 t (0,0))):cs2=cs:=by
  simp only [World.var?,hg,Option.bind_some,hb] at hv;exact Option.some.inj hv
theorem sent_at {W:World} {l:List (String×DataW Unit)} {n:String} {text:List UInt8} {g:Nat} (h:laidMet Tryz.prog l W) (hs:W.ShapedOpen Tryz.prog) (hm:(n,errD text)∈l) (hg:Tryz.prog.globalNamed n=some g) (ht:(Tryz.prog.globals[g]?).map (·.type)=some 95) (hgs:g<Tryz.prog.globals.size) {z:Array Value} (hz:(((begin Tryz.prog (fun _ _=>0) default).world.heap[g]?).bind Obj.row?)=some (z,95)):
    ∃a:Nat×Nat,W.heap[g]? =some (.cells #[.iface 216 (.pointer (some ⟨a.1,a.2,none⟩))] 95 (0,0))∧(∃cs t,W.heap[a.1]? =some (.cells cs t (0,0))∧GLK.contains t=false)∧∃s,W.cell? ⟨a.1,a.2,none⟩=some (.string s)∧s.data.toList=text:=by
  obtain ⟨ps,hl,hnd,hrows⟩:=h;obtain ⟨g2,t2,cs,fuel,p,h1,h2,h3,h4,h5⟩:=laid_in hl hm;obtain rfl:=Option.some.inj (hg.symm.trans h1);obtain rfl:=Option.some.inj (ht.symm.trans h2);obtain ⟨cs2,hb⟩:=shape_glob hs hgs hz;obtain rfl:=var_at hg h3 hb;have okk: ∀u v,cs2.toList=[.iface u v]→Value.okWide Tryz.prog W .any 0 u v:=fun u v e=>by
    obtain ⟨l0⟩:=cs2;simp only at e;subst e;exact (hrows g 0 (h5 _ (List.mem_append_left _ (by simp [MemPlace.row])))).2 u v (by simp [World.cell?,hb])
  obtain ⟨a,s,e1,e2,e3,e4,e5⟩:=errorString_of_trod (te:=218) Tryz.underlying95 rowErr Tryz.underlying216 Tryz.underlying218 rfl rfl Tryz.underlying9 (by kernel_rfl) (by kernel_rfl) h4 okk;have ok:=okk _ _ e1;unfold Value.okWide at ok;simp only [Tryz.underlying216] at ok;have ok2:W.has Tryz.prog .any 0 a 218 1:=by
    unfold Cell.okWide at ok
    simpa [Tryz.underlying216,Cell.ok] using ok
  obtain ⟨_,hsp,row,cells,hsh,hlies⟩:=ok2;obtain ⟨⟨c,t,hc⟩,_⟩:=hrows a.block a.off (h5 _ (List.mem_append_right _ (by rw [e5];simp [MemPlace.row,hsp,Addr.add])));have ha:a=⟨a.block,a.off,none⟩:=by cases a;simp at hsp;simp [hsp]
  refine ⟨(a.block,a.off),?_,⟨c,t,hc,?_⟩,s,by rw [← ha];exact e2,e3⟩
  · rw [hb,show cs2=#[.iface 216 (.pointer (some a))] from Array.ext' e1,← ha]
  · have:row=t:=by
      simp [World.shape?,hc] at hsh;exact hsh.1.symm
    subst this;exact glk_row hlies
def errT:Nat→String×List UInt8
  | 0=>("setsofvotes/pub/comettypes.ErrVoteUnexpectedStep",[117,110,101,120,112,101,99,116,101,100,32,115,116,101,112])
  | 1=>("setsofvotes/pub/comettypes.ErrVoteInvalidValidatorIndex",[105,110,118,97,108,105,100,32,118,97,108,105,100,97,116,111,114,32,105,110,100,101,120])
  | 2=>("setsofvotes/pub/comettypes.ErrVoteInvalidValidatorAddress",[105,110,118,97,108,105,100,32,118,97,108,105,100,97,116,111,114,32,97,100,100,114,101,115,115])
  | 3=>("setsofvotes/pub/comettypes.ErrVoteInvalidSignature",[105,110,118,97,108,105,100,32,115,105,103,110,97,116,117,114,101])
  | 4=>("setsofvotes/pub/comettypes.ErrVoteNonDeterministicSignature",[110,111,110,45,100,101,116,101,114,109,105,110,105,115,116,105,99,32,115,105,103,110,97,116,117,114,101])
  | 5=>("setsofvotes/pub/comettypes.ErrVoteNil",[110,105,108,32,118,111,116,101])
  | _=>("setsofvotes/pub/comettypes.ErrVoteNoSignature",[110,111,32,115,105,103,110,97,116,117,114,101])
def laidV:List (String×DataW Unit):=Rows.fnVotesRow.laid
theorem sent7 {W:World} (h:laidMet Tryz.prog laidV W) (hs:W.ShapedOpen Tryz.prog): ∀k,k<7→∃a:Nat×Nat,W.heap[k]? =some (.cells #[.iface 216 (.pointer (some ⟨a.1,a.2,none⟩))] 95 (0,0))∧(∃cs t,W.heap[a.1]? =some (.cells cs t (0,0))∧GLK.contains t=false)∧∃s,W.cell? ⟨a.1,a.2,none⟩=some (.string s)∧s.data.toList=(errT k).2
  | 0,_=>sent_at h hs (n:=(errT 0).1) (.tail _ (.head _)) (by kernel_rfl) (by kernel_rfl) (by decide+kernel) (z:=#[.nilIface]) (by kernel_rfl)
  | 1,_=>sent_at h hs (n:=(errT 1).1) (.tail _ (.tail _ (.head _))) (by kernel_rfl) (by kernel_rfl) (by decide+kernel) (z:=#[.nilIface]) (by kernel_rfl)
  | 2,_=>sent_at h hs (n:=(errT 2).1) (.tail _ (.tail _ (.tail _ (.head _)))) (by kernel_rfl) (by kernel_rfl) (by decide+kernel) (z:=#[.nilIface]) (by kernel_rfl)
  | 3,_=>sent_at h hs (n:=(errT 3).1) (.tail _ (.tail _ (.tail _ (.tail _ (.head _))))) (by kernel_rfl) (by kernel_rfl) (by decide+kernel) (z:=#[.nilIface]) (by kernel_rfl)
  | 4,_=>sent_at h hs (n:=(errT 4).1) (.tail _ (.tail _ (.tail _ (.tail _ (.tail _ (.tail _ (.head _))))))) (by kernel_rfl) (by kernel_rfl) (by decide+kernel) (z:=#[.nilIface]) (by kernel_rfl)
  | 5,_=>sent_at h hs (n:=(errT 5).1) (.tail _ (.tail _ (.tail _ (.tail _ (.tail _ (.tail _ (.tail _ (.head _)))))))) (by kernel_rfl) (by kernel_rfl) (by decide+kernel) (z:=#[.nilIface]) (by kernel_rfl)
  | 6,_=>sent_at h hs (n:=(errT 6).1) (.tail _ (.tail _ (.tail _ (.tail _ (.tail _ (.head _)))))) (by kernel_rfl) (by kernel_rfl) (by decide+kernel) (z:=#[.nilIface]) (by kernel_rfl)
  | k+7,hk=>absurd hk (by omega)
theorem errT_inj: ∀i,i<7→∀j,j<7→(errT i).2=(errT j).2→i=j:=by decide
def kD:DataW Unit:= .agg ((List.range 64).map fun i=> .lit (.int .u32 (kF i)))
theorem k_at {W:World} (h:laidMet Tryz.prog laidV W) (hs:W.ShapedOpen Tryz.prog):W.heap[7]? =some (.cells (fcells 64 (wcf kF)) 148 (0,0)):=by
  obtain ⟨ps,hl,hnd,hrows⟩:=h;have hkd:(Rows.laid_setsofvotes_pub_sha256_K:DataW Unit)=kD:=by kernel_rfl
  obtain ⟨g2,t2,cs,fuel,p,h1,h2,h3,h4,h5⟩:=laid_in (n:= "setsofvotes/pub/sha256._K") (d:=Rows.laid_setsofvotes_pub_sha256_K) hl (.head _);obtain rfl:=Option.some.inj ((show Tryz.prog.globalNamed "setsofvotes/pub/sha256._K" =some 7 by kernel_rfl).symm.trans h1);obtain rfl:=Option.some.inj ((show (Tryz.prog.globals[7]?).map (·.type)=some 148 by kernel_rfl).symm.trans h2);obtain ⟨cs2,hb⟩:=shape_glob hs (g:=7) (t:=148) (by decide+kernel) (z:=Array.replicate 64 (.int .u32 0)) (by kernel_rfl);obtain rfl:=var_at (by kernel_rfl) h3 hb;obtain ⟨xs,m,rfl,hx,hlen,hn,hel⟩:=DataW.trod_array Tryz.underlying148 h4;have c1:Tryz.prog.cellsOf 99=1:=by kernel_rfl
  have c148:Tryz.prog.cellsOf 148=64:=by kernel_rfl
  rw [hkd] at hx;injection hx with hx _;unfold kD at hx;injection hx with hx;rw [hb]
  congr 2
  apply Array.ext';apply List.ext_getElem?;intro i;rw [c148] at hlen;by_cases hi:i<64
  · have h6:=hel i hi
    rw [c1,Nat.mul_one] at h6;have hxi:xs[i]? =some xs[i]:=List.getElem?_eq_getElem (by omega);rw [hxi] at h6;obtain ⟨k,e1,e2,_⟩:=DataW.trod_int Tryz.underlying99 h6;have e3:(xs.map (·.1))[i]? =some (DataW.lit (.int .u32 (kF i))):=by rw [← hx];simp [hi]
    rw [List.getElem?_map,hxi,Option.map_some,e2] at e3;injection e3 with e3;injection e3 with e3;injection e3 with _ e3;subst e3;have e4:cs2.toList[i]? =some (.int .u32 (kF i)):=by
      have:=congrArg (·[0]?) e1
      simpa [List.getElem?_take,List.getElem?_drop] using this
    rw [e4];simp [fcells,hi,wcf]
  · rw [List.getElem?_eq_none (by omega),List.getElem?_eq_none (by simp [fcells];omega)]
theorem gl_of {W:World} (h:laidMetH Tryz.prog laidV W) (hs:W.ShapedOpen Tryz.prog): ∃q,Gl W q:=by
  rw [MakeChecks.laidMetH_plain _ _ _ (by kernel_rfl)] at h;obtain ⟨q,hq⟩:=Classical.axiomOfChoice (r:=fun k (a:Nat×Nat)=>k<7→W.heap[k]? =some (.cells #[.iface 216 (.pointer (some ⟨a.1,a.2,none⟩))] 95 (0,0))∧(∃cs t,W.heap[a.1]? =some (.cells cs t (0,0))∧GLK.contains t=false)∧∃s,W.cell? ⟨a.1,a.2,none⟩=some (.string s)∧s.data.toList=(errT k).2) (fun k=>by
    by_cases hk:k<7
    · obtain ⟨a,ha⟩:=sent7 h hs k hk
      exact ⟨a,fun _=>ha⟩
    · exact ⟨(0,0),fun h=>absurd h hk⟩)
  refine ⟨q,fun k hk=>(hq k hk).1,fun k hk=>(hq k hk).2.1,fun i j hi hj e=> ?_,k_at h hs⟩;obtain ⟨s1,a1,b1⟩:=(hq i hi).2.2;obtain ⟨s2,a2,b2⟩:=(hq j hj).2.2;rw [e,a2] at a1;injection a1 with a1;injection a1 with a1;exact errT_inj i hi j hj (by rw [← b1,← b2,a1])
theorem tab_of {W:World} {a:Addr} {k n:Nat} {vals:Nat→Array Value} (hsp:a.spot=none) (hk:0<k) (hv: ∀i,i<n→∀j,j<k→∃u,(vals i)[j]? =some u) (h: ∀i,i<n→∀j,j<k→W.cell? ((a.add (i*k)).add j)=(vals i)[j]?): ∃t,Tab W t (some a) k n vals:=by
  obtain ⟨g,o,sp⟩:=a;simp only at hsp;subst hsp;by_cases hn:0<n
  · obtain ⟨u,hu⟩:=hv 0 hn 0 hk
    have h0:=h 0 hn 0 hk;rw [hu,add_plain,add_plain] at h0;cases hb:W.heap[g]? with
    | none=>simp [World.cell?,hb] at h0
    | some ob=>
      cases ob with
      | cells cs t fr=>
        refine ⟨t,fun _=>⟨g,o,cs,fr,rfl,hb,fun i hi j hj=> ?_⟩⟩;have h1:=h i hi j hj;rw [add_plain,add_plain] at h1;rw [← h1];simp [World.cell?,hb,Nat.add_assoc]
      | _=>simp [World.cell?,hb] at h0
  · exact ⟨0,fun h=>absurd h hn⟩
theorem trod_len {H:Type} {enc:TypeId×Value→H} {P:Program} {w:World} {base:Nat} {sp:Nat→Bool} {held:Bool} {fs:Array Field} {t:TypeId} {fuel:Nat} {cs:List Value} {x:DataW H×List MemPlace} (ht:P.underlying t=some (.struct fs)) (h:DataW.trod enc P w base sp held fuel t cs=some x):cs.length=P.cellsOf t:=by
  obtain ⟨xs,n,_,_,h1,_⟩:=DataW.trod_struct ht h;exact h1
theorem trod_field {H:Type} {enc:TypeId×Value→H} {P:Program} {w:World} {base:Nat} {sp:Nat→Bool} {held:Bool} {fs:Array Field} {t:TypeId} {fuel:Nat} {cs:List Value} {x:DataW H×List MemPlace} (ht:P.underlying t=some (.struct fs)) (h:DataW.trod enc P w base sp held fuel t cs=some x) (i:Nat) (f:Field) (hf:fs[i]? =some f): ∃n y,DataW.trod enc P w base sp held n f.type ((cs.drop f.offset).take (P.cellsOf f.type))=some y:=by
  obtain ⟨xs,n,_,_,_,h2,h3⟩:=DataW.trod_struct ht h;have h4:=h3 i f hf;have hi:i<xs.length:=by rw [h2];exact (Array.getElem?_eq_some_iff.1 hf).1
  rw [List.getElem?_eq_getElem hi] at h4;exact ⟨n,_,h4⟩
theorem field_int {H:Type} {enc:TypeId×Value→H} {w:World} {base:Nat} {sp:Nat→Bool} {held:Bool} {fs:Array Field} {t:TypeId} {fuel:Nat} {cs:List Value} {x:DataW H×List MemPlace} (ht:Tryz.prog.underlying t=some (.struct fs)) (h:DataW.trod enc Tryz.prog w base sp held fuel t cs=some x) (i:Nat) (hf:(fs[i]?).map (fun f=>(f.type,f.offset))=some (3,i)): ∃z,cs[i]? =some (.int .i64 z)∧InR z:=by
  cases hx:fs[i]? with
  | none=>rw [hx] at hf;cases hf
  | some f=>
    rw [hx] at hf;injection hf with hf;injection hf with h1 h2;obtain ⟨n,y,h3⟩:=trod_field ht h i f hx;rw [h1,h2,show Tryz.prog.cellsOf 3=1 by kernel_rfl] at h3;obtain ⟨z,e1,_,e3⟩:=DataW.trod_int Tryz.underlying3 h3;refine ⟨z,?_,?_⟩
    · have:=congrArg (·[0]?) e1
      simpa [List.getElem?_take,List.getElem?_drop] using this
    · simp only [Lit.wf,IntKind.min,IntKind.max,IntKind.signed,IntKind.bits,Bool.and_eq_true,decide_eq_true_eq,if_true] at e3
      exact ⟨by omega,by omega⟩
theorem field_str {H:Type} {enc:TypeId×Value→H} {w:World} {base:Nat} {sp:Nat→Bool} {held:Bool} {fs:Array Field} {t:TypeId} {fuel:Nat} {cs:List Value} {x:DataW H×List MemPlace} (ht:Tryz.prog.underlying t=some (.struct fs)) (h:DataW.trod enc Tryz.prog w base sp held fuel t cs=some x) (i:Nat) (hf:(fs[i]?).map (fun f=>(f.type,f.offset))=some (9,i)): ∃s,cs[i]? =some (.string s):=by
  cases hx:fs[i]? with
  | none=>rw [hx] at hf;cases hf
  | some f=>
    rw [hx] at hf;injection hf with hf;injection hf with h1 h2;obtain ⟨n,y,h3⟩:=trod_field ht h i f hx;rw [h1,h2,show Tryz.prog.cellsOf 9=1 by kernel_rfl] at h3;obtain ⟨s,e1,_,_⟩:=DataW.trod_string Tryz.underlying9 h3;refine ⟨s,?_⟩;have:=congrArg (·[0]?) e1
    simpa [List.getElem?_take,List.getElem?_drop] using this
theorem five {α:Type} {P:Nat→α→Prop} (d:α) {n:Nat} (h: ∀i,i<n→∃x,P i x): ∃f:Nat→α,∀i,i<n→P i (f i):=by
  obtain ⟨f,hf⟩:=Classical.axiomOfChoice (r:=fun i (x:α)=>i<n→P i x) (fun i=>by
    by_cases hi:i<n
    · obtain ⟨x,hx⟩:=h i hi
      exact ⟨x,fun _=>hx⟩
    · exact ⟨d,fun h=>absurd h hi⟩)
  exact ⟨f,hf⟩
theorem open_tab {α H:Type} (d0:α) {enc:TypeId×Value→H} {W:World} {base:Nat} {t e:TypeId} {k:Nat} {v:Value} {d:DataW H} {ps:List MemPlace} (row:α→Array Value) (Ok:α→Prop) (ht:Tryz.prog.underlying t=some (.slice e)) (hk:Tryz.prog.cellsOf e=k) (h0:0<k) (hrow: ∀x,(row x).size=k)
    (hel: ∀fuel cs y,DataW.trod enc Tryz.prog W 0 (fun _=>true) true fuel e cs=some y→∃x,cs=(row x).toList∧Ok x) (hv:Value.okWide Tryz.prog W .any base t v) (h:DataW.Trod enc Tryz.prog W 0 (fun _=>true) true t v d ps):
    ∃(A:Option Addr) (n cp:Nat) (f:Nat→α) (tt:Nat),v= .slice A n cp∧n≤cp∧Tab W tt A k n (fun i=>row (f i))∧TLt W.heap.size A∧∀i,i<n→Ok (f i):=by
  obtain ⟨fuel,h⟩:=h;have hs: ∃A n cp,v= .slice A n cp∧TLt W.heap.size A∧∀a,A=some a→a.spot=none:=by
    unfold Value.okWide at hv;simp only [ht] at hv;unfold Cell.okWide at hv;cases v <;> simp only [ht,Cell.ok] at hv
    rename_i A n cp;cases A with
    | none=>exact ⟨none,n,cp,rfl,(fun g o e=>by cases e),(fun a e=>by cases e)⟩
    | some a=>
      have h2:W.has Tryz.prog .any base a e cp:=by
        revert hv
        simp only [Cell.ok,ht];exact fun hv=>hv.2.2
      obtain ⟨_,hsp,rw_,cells,hsh,_⟩:=h2;refine ⟨some a,n,cp,rfl,fun g o e=> ?_,fun b e=>by injection e with e;rw [← e];exact hsp⟩;injection e with e;subst e;false_or_by_contra;rename_i hge;rw [World.shape?,Array.getElem?_eq_none (show W.heap.size≤g from Nat.le_of_not_lt hge)] at hsh;cases hsh
  obtain ⟨A,n,cp,rfl,hl,hsp⟩:=hs;rcases open_slice ht h with ⟨e1,_⟩ | ⟨a,len,cap,m,fu,D,Pl,e1,hb,hle,hm,hmm,_,hx⟩
  · simp only [Value.cells,List.cons.injEq,and_true] at e1
    injection e1 with e1 e2 e3;subst e1 e2 e3;exact ⟨none,0,0,fun _=>d0,0,rfl,Nat.le_refl _,fun h=>absurd h (Nat.lt_irrefl _),hl,fun i hi=>absurd hi (Nat.not_lt_zero _)⟩
  · simp only [Value.cells,List.cons.injEq,and_true] at e1
    injection e1 with e1 e2 e3;subst e1 e2 e3;simp only [if_true] at hmm;subst hmm;have each: ∀i,i<n→∃x,(∀j,j<k→W.cell? ((a.add (i*k)).add j)=(row x)[j]?)∧Ok x:=fun i hi=>by
      obtain ⟨cs,h1,h2⟩:=hx i (by omega);obtain ⟨x,h3,h4⟩:=hel _ _ _ h2;refine ⟨x,fun j hj=> ?_,h4⟩;rw [hk] at h1;obtain ⟨_,_,h5⟩:=World.cells?_some h1;rw [h5 j hj,h3];simp
    obtain ⟨f,hf⟩:=five d0 each;obtain ⟨tt,htab⟩:=tab_of (k:=k) (n:=n) (vals:=fun i=>row (f i)) (hsp a rfl) h0 (fun i hi j hj=>by
      have:j<(row (f i)).size:=by rw [hrow];exact hj
      exact ⟨_,Array.getElem?_eq_getElem this⟩) (fun i hi j hj=>(hf i hi).1 j hj)
    exact ⟨some a,_,_,f,tt,rfl,hle,htab,hl,fun i hi=>(hf i hi).2⟩
theorem seat_row {H:Type} {enc:TypeId×Value→H} {W:World} {fuel:Nat} {cs:List Value} {y:DataW H×List MemPlace} (h:DataW.trod enc Tryz.prog W 0 (fun _=>true) true fuel 78 cs=some y): ∃x:RS,cs=#[Value.string x.ad,.string x.key,.int .i64 x.pw].toList∧InR x.pw:=by
  have hl:=trod_len Tryz.underlying78 h;rw [show Tryz.prog.cellsOf 78=3 by kernel_rfl] at hl;obtain ⟨s0,h0⟩:=field_str Tryz.underlying78 h 0 (by kernel_rfl);obtain ⟨s1,h1⟩:=field_str Tryz.underlying78 h 1 (by kernel_rfl);obtain ⟨z,h2,hz⟩:=field_int Tryz.underlying78 h 2 (by kernel_rfl);refine ⟨⟨s0,s1,z⟩,?_,hz⟩
  match cs,hl with
  | [a,b,c],_=>simp at h0 h1 h2;simp [h0,h1,h2]
theorem act_row {H:Type} {enc:TypeId×Value→H} {W:World} {fuel:Nat} {cs:List Value} {y:DataW H×List MemPlace} (h:DataW.trod enc Tryz.prog W 0 (fun _=>true) true fuel 69 cs=some y): ∃x:AA,cs=#[Value.int .i64 x.who,.int .i64 x.bk,.int .i64 x.tm,.int .i64 x.wr,.int .i64 x.pe].toList∧x.Ok:=by
  have hl:=trod_len Tryz.underlying69 h;rw [show Tryz.prog.cellsOf 69=5 by kernel_rfl] at hl;obtain ⟨z0,h0,r0⟩:=field_int Tryz.underlying69 h 0 (by kernel_rfl);obtain ⟨z1,h1,r1⟩:=field_int Tryz.underlying69 h 1 (by kernel_rfl);obtain ⟨z2,h2,r2⟩:=field_int Tryz.underlying69 h 2 (by kernel_rfl);obtain ⟨z3,h3,r3⟩:=field_int Tryz.underlying69 h 3 (by kernel_rfl);obtain ⟨z4,h4,r4⟩:=field_int Tryz.underlying69 h 4 (by kernel_rfl);refine ⟨⟨z0,z1,z2,z3,z4⟩,?_,⟨r0,r1,r2,r3,r4⟩⟩
  match cs,hl with
  | [a,b,c,d,e],_=>simp at h0 h1 h2 h3 h4;simp [h0,h1,h2,h3,h4]
end Go.Proofs.YtlnknihjccdgkaaGreatDoor.V
namespace Go.Proofs.YtlnknihjccdgkaaGreatDoor.fnOrder
open Go.ChangeShapes Go.WideShapes Go.ChangeAt Go.RowKit Go.Joins Go.Proofs.YtlnknihjccdgkaaGreatDoor.X Go.Proofs.YtlnknihjccdgkaaGreatDoor.V
set_option linter.unusedVariables false
set_option linter.unusedSimpArgs false
theorem builder {H:Type} {enc:TypeId×Value→H} {a:Assume} {C:Checked} {os:Os} {f:FuncId} {fn:Func} {s:ChangeSpec} {conds:List PathCond} {apart fresh handsOn again:Bool} {X:World→Array Value→Prop}
    (hX: ∀(w w':World) (args:Array Value),w.heap=w'.heap→X w args→X w' args)
    (own:ownKnob C.prog.godebug=none) (started:os.Started) (noInit:C.prog.inits.idxOf? f=none) (hfn:C.prog.funcs[f]? =some fn)
    (witness: ∃(w:World) (tape:Tape) (i:Input),w.os=os∧(w.forCall tape i).Shaped C.prog∧i.vars=[]∧Input.okWide C.prog (w.forCall tape i) .any w.heap.size f i∧
      ((s.pre enc C.prog fn conds apart (w.forCall tape i).memory i.args∧X (w.forCall tape i).memory i.args)∧sizedMet enc C.prog fn (OpenSpec.ofChange s) apart (w.forCall tape i).memory i.args)∧a.holds C.prog (lone (Frame.enter C.prog f i.args .normal) [] (w.forCall tape i)))
    (contract: ∀(W:World) (base:Nat) (args:Array Value) (ds gs:List (DataW H)) (before:List MemPlace),
      (∀(j:Nat) t v,fn.params[j]? =some t→args[j]? =some v→Value.okWide C.prog W .any base t v)→
      DataW.Whole enc C.prog fn.params.toList s.vars apart W args.toList ds gs before→X W args→W.ShapedOpen C.prog→
      Calls C.prog f args W fun e W'=> ∃v,e= .returned v∧s.post enc C.prog fn apart fresh handsOn again W args v W'):
    ReturnsInHanded a C os f .any (fun w args=>(s.pre enc C.prog fn conds apart w args∧X w args)∧sizedMet enc C.prog fn (OpenSpec.ofChange s) apart w args) (s.post enc C.prog fn apart fresh handsOn again):=by
  refine returnsInHanded_of_calls own started noInit witness ?_;intro w tape i _ hsh _ hok hpre hholds;obtain ⟨_,_,_,fn',hfn',_,_,_,_,hval⟩:=hok;have e:fn'=fn:=Option.some.inj (hfn'.symm.trans hfn);subst e;obtain ⟨⟨⟨ds,gs,before,hw,hc⟩,hx⟩,hz⟩:=hpre;have hw':=DataW.Whole.of_heap (w':=w.forCall tape i) (by rfl) hw;refine (contract (w.forCall tape i) w.heap.size i.args ds gs before hval hw' (hX _ _ _ (by rfl) hx) hsh).mono fun e W' ⟨v,he,hp⟩=> ?_;subst he;exact ChangeSpec.post_blind hp
theorem own:ownKnob Tryz.prog.godebug=none:=by kernel_rfl
theorem laidOut:laidOutB Tryz.prog=true:=by kernel_rfl
theorem door_met (os:Os) (args:Array Value):laidMetH Tryz.prog laidV ((World.doorLaid Tryz.prog 147 os).forCall (fun _ _=>0) ⟨#[],args,[]⟩).memory:=
  laidMetH_of_parts3 (fuel:=8) (laidMet_of_run' 8 (by kernel_rfl) (by kernel_rfl)) (by kernel_rfl) (by kernel_rfl)
theorem intR {x:Int} (h:(Lit.int .i64 x).wf=true):InR x:=by
  simp only [Lit.wf,IntKind.min,IntKind.max,IntKind.signed,IntKind.bits,Bool.and_eq_true,decide_eq_true_eq,if_true] at h;exact ⟨by omega,by omega⟩
theorem int_row {H:Type} {enc:TypeId×Value→H} {W:World} {fuel:Nat} {cs:List Value} {y:DataW H×List MemPlace} (h:DataW.trod enc Tryz.prog W 0 (fun _=>true) true fuel 3 cs=some y): ∃x:Int,cs=#[Value.int .i64 x].toList∧InR x:=by
  obtain ⟨z,e1,_,e3⟩:=DataW.trod_int Tryz.underlying3 h;exact ⟨z,e1,intR e3⟩
set_option maxRecDepth 100000 in
theorem lifted (os:Os) (started:os.Started) (H:Type) (enc:TypeId×Value→H):
    ReturnsInHanded {} Tryz.checked os 4 .any (fun w args=>(Rows.fnOrderSpec.pre enc Tryz.prog Tryz.f4 [] false w args∧laidMetH Tryz.prog laidV w)∧sizedMet enc Tryz.prog Tryz.f4 (OpenSpec.ofChange Rows.fnOrderSpec) false w args)
      (Rows.fnOrderSpec.post enc Tryz.prog Tryz.f4 false true false false):=by
  refine builder (C:=Tryz.checked) (X:=fun w _=>laidMetH Tryz.prog laidV w) (fun _ _ _ hh h=>h.of_heap hh) own started (by kernel_rfl) Tryz.func4
    (ChangeSpec.witness_shaped (enc:=enc) (C:=Tryz.checked) (os:=os) (X:=fun w _=>laidMetH Tryz.prog laidV w) false (World.doorLaid Tryz.prog 147 os) #[.slice none 0 0,.slice none 0 0,.slice none 0 0] 8 rfl (World.shaped_of_RefB (by kernel_rfl) (by kernel_rfl)) (by kernel_rfl) (by kernel_rfl) (by kernel_rfl) (door_met os _)) ?_
  intro W base args ds gs before hval0 hW hL hsh;have hval: ∀(j:Nat) t v,Tryz.f4.params[j]? =some t→args[j]? =some v→Value.okWide Tryz.prog W .any base t v:=hval0;have hW':=hW;have hWl:=DataW.Whole.lt hW;obtain ⟨p,q,hA0,hV,rfl,hfz,hnd⟩:=hW;have hA:DataW.TrodAll enc Tryz.prog W 0 (fun _=>true) true Tryz.f4.params.toList args.toList ds p:=hA0;rw [Tryz.params4] at hA hval;obtain ⟨v0,vs0,d0,ds0,p0,q0,hargs,rfl,rfl,h0,r0⟩:=trodAll_cons hA;obtain ⟨v1,vs1,d1,ds1,p1,q1,rfl,rfl,rfl,h1,r1⟩:=trodAll_cons r0;obtain ⟨v2,vs2,d2,ds2,p2,q2,rfl,rfl,rfl,h2,r2⟩:=trodAll_cons r1;obtain ⟨rfl,rfl,rfl⟩:=trodAll_nil r2;obtain rfl:args=#[v0,v1,v2]:=by cases args;simp_all
  obtain ⟨rfl,rfl⟩:=trodVars_none hV;have hv0:=hval 0 22 v0 rfl rfl;have hv1:=hval 1 23 v1 rfl rfl;have hv2:=hval 2 67 v2 rfl rfl;obtain ⟨A0,n,cp,rs,t0,rfl,hcp,ti,ti_l,hpw⟩:=open_tab (α:=RS) (k:=3) ⟨.empty,.empty,0⟩ (fun x=> #[.string x.ad,.string x.key,.int .i64 x.pw]) (fun x=>InR x.pw) Tryz.underlying22 (by kernel_rfl) (by decide) (fun _=>rfl) (fun _ _ _ h=>seat_row h) hv0 h0;obtain ⟨B0,na,cb,aa,t1,rfl,hcb,ta,ta_l,haa⟩:=open_tab (α:=AA) (k:=5) AA.nil (fun x=> #[.int .i64 x.who,.int .i64 x.bk,.int .i64 x.tm,.int .i64 x.wr,.int .i64 x.pe]) AA.Ok Tryz.underlying23 (by kernel_rfl) (by decide) (fun _=>rfl) (fun _ _ _ h=>act_row h) hv1 h1;obtain ⟨D0,no,cd,od,t2,rfl,hcd,tq,tq_l,hod⟩:=open_tab (α:=Int) (k:=1) 0 (fun x=> #[.int .i64 x]) InR Tryz.underlying67 (by kernel_rfl) (by decide) (fun _=>rfl) (fun _ _ _ h=>int_row h) hv2 h2;obtain ⟨qq,hg⟩:=gl_of hL hsh;clear hA0 hval0;refine (fnOrder_c W qq hg rs t0 A0 n cp hcp hpw ti ti_l aa t1 B0 na cb hcb haa ta ta_l od t2 D0 no cd hcd hod tq tq_l).mono fun e W' ⟨he,bel⟩=> ?_;subst he;exact ⟨_,_,_,[],_,[],hW',trodAll_mk1 (shut_bool Tryz.underlying4 _),trodAll_cons_mk (Below.trod laidOut (by kernel_rfl) (of_decide_eq_true (by kernel_rfl)) h0 bel (fun x hx=>hWl x (by simp [hx]))) (trodAll_cons_mk (Below.trod laidOut (by kernel_rfl) (of_decide_eq_true (by kernel_rfl)) h1 bel (fun x hx=>hWl x (by simp [hx]))) (trodAll_cons_mk (Below.trod laidOut (by kernel_rfl) (of_decide_eq_true (by kernel_rfl)) h2 bel (fun x hx=>hWl x (by simp [hx]))) trodAll_mk0)),rfl,bel.frame _,fun h=>by cases h⟩
theorem over:Rows.fnOrderRow.holds Tryz.pinned (OpenSpec.ofChange Rows.fnOrderSpec):=
  OpenClaim.holds_of_wide 4 Tryz.f4 rfl rfl rfl rfl rfl rfl rfl ⟨rfl,rfl,rfl,rfl,rfl⟩ rfl rfl rfl rfl rfl (by kernel_rfl) Tryz.func4 (by kernel_rfl)
    (of_decide_eq_true (by kernel_rfl)) (by unfold Func.isWrapper;first | (rw [if_pos (by decide+kernel)];kernel_rfl) | (rw [if_neg (by decide+kernel)];exact ⟨rfl,rfl⟩))
    (fun os started H enc _=>lifted os started H enc)
theorem carded:Rows.FnOrderCardSaid:=
  Claim7.holds_tied_plain_at .later [] [.data,.sentinel,.sentinel,.sentinel,.sentinel,.sentinel,.sentinel,.sentinel] true (true, "e66f66fcc9e638487d6add416e20c0b7846d720688726315e35c2961bf323e6e") true
    over (fun _ h=>by cases h) (by kernel_rfl) (fun _ h=>by cases h) fnOrder_row_tie rfl ⟨rfl,rfl⟩ (by kernel_rfl) rfl
    (fun f fn hf hfn=>by
      obtain rfl:f=4:=Option.some.inj ((show Tryz.prog.funcNamed "setsofvotes/laws.FnOrder" =some 4 by kernel_rfl).symm.trans hf) |>.symm;obtain rfl:fn=Tryz.f4:=(Option.some.inj (Tryz.func4.symm.trans hfn)).symm;exact ⟨by kernel_rfl,fun j t ht=>by
        rw [Tryz.params4] at ht;have hm:t∈ [22,23,67]:=by simpa using Array.mem_of_getElem? ht
        have hall:([22,23,67].all fun u=> !Tryz.prog.wantsStandIn u)=true:=by kernel_rfl
        exact (show Tryz.prog.wantsStandIn t=false by simpa using List.all_eq_true.1 hall t hm)⟩)
    (by kernel_rfl)
end Go.Proofs.YtlnknihjccdgkaaGreatDoor.fnOrder
namespace Go.Proofs.YtlnknihjccdgkaaGreatDoor
theorem fnOrder_card:Rows.FnOrderCardSaid:=fnOrder.carded
end Go.Proofs.YtlnknihjccdgkaaGreatDoor
