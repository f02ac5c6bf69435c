/- A region that draws its order and writes memory by a chain o -/
import Derived.Test.YtlnknihjccdgkaaGreatDoorCm0
import Derived.Lib.LazyBuf
import Derived.LaidEql
import Derived.Laws.StructEq
import Derived.Great.FillDense
import Derived.Test.YtlnknihjccdgkaaGreatDoorProg
namespace Go.Proofs.YtlnknihjccdgkaaGreatDoor.X
open Go.RowKit
set_option linter.unusedVariables false
set_option linter.unusedSimpArgs false
section
variable {P:Program} {ops:Array Oper} {Q:Exit→Act→World→Prop}
def LeftV (ops:Array Oper) (R:Nat→Value→Prop) (j:Nat) (T:Array Value):Prop:=
  match (ops[j]?).bind (·.dst) with
  | some d=> ∃v,T[d]? =some v∧R j v
  | none=>True
def anc0 (ops:Array Oper) (ch:List Nat) (i:Nat):Bool:=match ch.head? with
  | some c=>((ancs ops ops.size).getD c []).contains i
  | none=>false
def formC (ops:Array Oper) (ch:List Nat) (n:Nat):Bool:=
  formB ops ops.size n && ch.all (fun c=>Nat.blt c ops.size && ((ops[c]?).bind (·.dst)).isNone) && (List.range ch.length).all (fun q=>(List.range q).all (fun p=>match ch[q]?,ch[p]? with
    | some c,some d=>((ancs ops ops.size).getD c []).contains d
    | _,_=>false))
theorem rgC_any {n:Nat} {T0:Array Value} {ds:List Deferred} {J:Nat→World→Prop} {Vs:Nat→Value→Prop} {ch:List Nat} (hF:formC ops ch n=true)
    (step: ∀i o k,ch.contains i=false→ops[i]? =some o→(0<k→anc0 ops ch i=false)→∀T w,J k w→T.size=n→(∀s,oldB ops ops.size i s=true→T[s]? =T0[s]?)→(∀j∈needs o,LeftV ops Vs j T)→Ru P ops Q o ⟨T,ds⟩ w (fun v w1=>J k w1∧Vs i v))
    (chain: ∀k c o,ch[k]? =some c→ops[c]? =some o→∀T w,J k w→T.size=n→(∀s,oldB ops ops.size c s=true→T[s]? =T0[s]?)→(∀j∈needs o,LeftV ops Vs j T)→Ru P ops Q o ⟨T,ds⟩ w (fun v w1=>J (k+1) w1))
    (fin: ∀T w,J ch.length w→T.size=n→(∀s,(∀j o,j<ops.size→ops[j]? =some o→o.dst≠some s)→T[s]? =T0[s]?)→(∀j,j<ops.size→LeftV ops Vs j T)→wpList P ops Q [] ⟨T,ds⟩ w):
    ∀(fuel k:Nat) (l:Array Bool) (T:Array Value) (w:World),l.size=ops.size→(List.range ops.size).countP (fun j=>l.getD j true==false)≤fuel→J k w→k≤ch.length→(∀q c,ch[q]? =some c→(l.getD c false=true↔q<k))→T.size=n→
      (∀j o,j<ops.size→l.getD j false=true→ops[j]? =some o→∀k∈needs o,l.getD k false=true)→
      (∀s,(∀j o,j<ops.size→ops[j]? =some o→l.getD j false=true→o.dst≠some s)→T[s]? =T0[s]?)→(∀j,j<ops.size→l.getD j false=true→LeftV ops Vs j T)→wpAny P .any ops Q fuel l ⟨T,ds⟩ w:=by
  simp only [formC,Bool.and_eq_true,List.all_eq_true,List.mem_range] at hF;obtain ⟨⟨hB,hch⟩,hpq⟩:=hF;have F:=formB_spec hB;have hcs: ∀q c,ch[q]? =some c→c<ops.size∧(ops[c]?).bind (·.dst)=none:=fun q c hq=>by
    have h1:=hch c (List.mem_of_getElem? hq);exact ⟨by simpa using h1.1,by simpa using h1.2⟩
  have hanc: ∀p q c d,p<q→ch[q]? =some c→ch[p]? =some d→d∈(ancs ops ops.size).getD c []:=fun p q c d hlt hc hd=>by
    have h1:=hpq q (List.getElem?_eq_some_iff.1 hc).1 p hlt;rw [hc,hd] at h1;exact List.contains_iff_mem.1 h1
  intro fuel;have hfin: ∀(k:Nat) (l:Array Bool) (T:Array Value) (w:World),l.size=ops.size→(∀j,j<ops.size→l.getD j false=true)→J k w→k≤ch.length→(∀q c,ch[q]? =some c→(l.getD c false=true↔q<k))→T.size=n→
      (∀s,(∀j o,j<ops.size→ops[j]? =some o→l.getD j false=true→o.dst≠some s)→T[s]? =T0[s]?)→(∀j,j<ops.size→l.getD j false=true→LeftV ops Vs j T)→wpList P ops Q [] ⟨T,ds⟩ w:=by
    intro k l T w hs hall hJ hk hck hT hold hleft;have hkk:k=ch.length:=by
      rcases Nat.lt_or_ge k ch.length with hx | hx
      · have h1:=(hck k ch[k] (List.getElem?_eq_getElem hx)).1 (hall _ (hcs k _ (List.getElem?_eq_getElem hx)).1)
        omega
      · omega
    subst hkk;exact fin T w hJ hT (fun s h=>hold s (fun j o hj ho _=>h j o hj ho)) (fun j hj=>hleft j hj (hall j hj))
  induction fuel with
  | zero=>
    intro k l T w hs hc hJ hk hck hT hcl hold hleft;have hall: ∀j,j<ops.size→l.getD j false=true:=fun j hj=>by
      have h1:(List.range ops.size).countP (fun j=>l.getD j true==false)=0:=by omega
      have h2:=List.countP_eq_zero.1 h1 j (List.mem_range.2 hj);simp [show j<l.size from by omega] at h2 ⊢;exact h2
    refine tail_list F 0 ops.size l ⟨T,ds⟩ w (Nat.le_refl _) F.le (by omega) hs hall (fun j h1 h2=>by omega) ?_ (ds:=ds);rw [List.drop_of_length_le (by simp)];exact hfin k l T w hs hall hJ hk hck hT hold hleft
  | succ fuel ih=>
    intro k l T w hs hc hJ hk hck hT hcl hold hleft;by_cases hpre: ∀j,j<ops.size→l.getD j false=true
    · refine tail_list F (fuel+1) ops.size l ⟨T,ds⟩ w (Nat.le_refl _) F.le (by omega) hs hpre (fun j h1 h2=>by omega) ?_ (ds:=ds)
      rw [List.drop_of_length_le (by simp)];exact hfin k l T w hs hpre hJ hk hck hT hold hleft
    · refine ⟨fun hr=> ?_,fun i hi=> ?_⟩
      · exfalso
        obtain ⟨j,hj,hmin⟩: ∃j,(j<ops.size∧l.getD j false=false)∧∀k,k<j→l.getD k false=true:=by
          have hex: ∃j,j<ops.size∧l.getD j false=false:=by
            false_or_by_contra;rename_i hno;refine hpre (fun j hj=> ?_);cases hb:l.getD j false with
            | true=>rfl
            | false=>exact absurd ⟨j,hj,hb⟩ hno
          have key: ∀m,(∃j,j<m∧j<ops.size∧l.getD j false=false)→∃j,(j<ops.size∧l.getD j false=false)∧∀k,k<j→l.getD k false=true:=by
            intro m
            induction m with
            | zero=>rintro ⟨j,hj,_⟩;omega
            | succ m ihm=>
              rintro ⟨j,hj,h1,h2⟩;by_cases hsm: ∃j,j<m∧j<ops.size∧l.getD j false=false
              · exact ihm hsm
              · refine ⟨j,⟨h1,h2⟩,fun k hk=> ?_⟩
                cases hb:l.getD k false with
                | true=>rfl
                | false=>exact absurd ⟨k,by omega,by omega,hb⟩ hsm
          obtain ⟨j,h1,h2⟩:=hex;exact key ops.size ⟨j,h1,h1,h2⟩
        have hlt:=hj.1;have hm:j∈Region.ready .any ops l:=by
          refine mem_ready.2 ⟨?_,ops[j],Array.getElem?_eq_getElem hlt,fun e he hb=>hmin _ (F.back j _ (Array.getElem?_eq_getElem hlt) _ (mem_needs.2 ⟨e,he,hb,rfl⟩))⟩;have:=hj.2;simp [show j<l.size from by omega] at this ⊢;exact this
        rw [hr] at hm;cases hm
      · obtain ⟨h1,o,ho,hall⟩:=mem_ready.1 hi
        have hlt:=(Array.getElem?_eq_some_iff.1 ho).1;have hneeds: ∀k∈needs o,l.getD k false=true:=fun k hk=>by
          obtain ⟨e,he,hb,rfl⟩:=mem_needs.1 hk;exact hall e he hb
        have hun:l.getD i false=false:=by
          simp [show i<l.size from by omega] at h1 ⊢;exact h1
        have hold': ∀s,oldB ops ops.size i s=true→T[s]? =T0[s]? :=fun s hsb=>by
          refine hold s (fun j oj hj hoj hlj hd=> ?_);have h2:=List.all_eq_true.1 hsb j (List.mem_range.2 hj);rw [hoj] at h2;simp only [hd,bne_self_eq_false,Bool.false_or] at h2;have h3:=hcl j oj (Array.getElem?_eq_some_iff.1 hoj).1 hlj hoj i (by simpa using h2);rw [hun] at h3;cases h3
        have hleft': ∀j∈needs o,LeftV ops Vs j T:=fun j hj=>hleft j (by have:=F.back i o ho j hj;omega) (hneeds j hj);have hcnt:(List.range ops.size).countP (fun j=>(l.setIfInBounds i true).getD j true==false)≤fuel:=by
          have hsplit: ∀m,(List.range m).countP (fun j=>(l.setIfInBounds i true).getD j true==false)+(if i<m then 1 else 0)=(List.range m).countP (fun j=>l.getD j true==false):=by
            intro m
            induction m with
            | zero=>simp
            | succ m ihm=>
              rw [List.range_succ,List.countP_append,List.countP_append];simp only [List.countP_singleton];by_cases e:i=m
              · subst e
                have e1:(l.setIfInBounds i true).getD i true=true:=by
                  simp [show i<l.size from by omega]
                rw [e1,h1];simp at ihm ⊢;omega
              · rw [getD_set_ne true e]
                by_cases e2:i<m
                · rw [if_pos e2] at ihm
                  rw [show (if i<m+1 then 1 else 0)=1 from if_pos (by omega)];omega
                · rw [if_neg e2] at ihm
                  rw [show (if i<m+1 then 1 else 0)=0 from if_neg (by omega)];omega
          have:=hsplit ops.size;rw [if_pos hlt] at this;omega
        have hcl': ∀j oj,j<ops.size→(l.setIfInBounds i true).getD j false=true→ops[j]? =some oj→∀k∈needs oj,(l.setIfInBounds i true).getD k false=true:=by
          intro j oj hj hlj hoj k hk;by_cases e:i=j
          · subst e
            have:oj=o:=Option.some.inj (hoj.symm.trans ho);subst this;exact getD_set_true (hneeds k hk)
          · rw [getD_set_ne false e] at hlj
            exact getD_set_true (hcl j oj hj hlj hoj k hk)
        cases hci:ch.contains i with
        | true=>
          obtain ⟨q,hq⟩: ∃q,ch[q]? =some i:=List.getElem?_of_mem (by simpa using hci);have hqk:q=k:=by
            rcases Nat.lt_trichotomy q k with hx | hx | hx
            · have:=(hck q i hq).2 hx
              rw [hun] at this;cases this
            · exact hx
            · have hkl:k<ch.length:=by have:=(List.getElem?_eq_some_iff.1 hq).1;omega
              have h2:=anc_listed (l:=l) hcl F.back ops.size i o hlt ho hneeds ch[k] (hanc k q i ch[k] hx hq (List.getElem?_eq_getElem hkl));have h3:=(hck k ch[k] (List.getElem?_eq_getElem hkl)).1 h2;omega
          subst hqk;have hdn:o.dst=none:=by
            have:=(hcs q i hq).2;rw [ho] at this
            simpa using this
          refine Ru.op ho (chain q i o hq ho T w hJ hT hold' hleft') ?_;rintro v w1 hJ1;have hTs:((Act.mk T ds).put o.dst v)=⟨T,ds⟩:=by rw [hdn];rfl
          rw [hTs];refine ih (q+1) _ T w1 (by simpa using hs) hcnt hJ1 (by have:=(List.getElem?_eq_some_iff.1 hq).1;omega) ?_ hT hcl' ?_ ?_
          · intro p c hp
            by_cases e:i=c
            · subst e
              have hpq':p=q:=by
                rcases Nat.lt_trichotomy p q with hx | hx | hx
                · have:=(hck p i hp).2 hx
                  rw [hun] at this;cases this
                · exact hx
                · have h2:=hanc q p i i hx hp hq
                  have h3:=anc_listed (l:=l) hcl F.back ops.size i o hlt ho hneeds i h2;rw [hun] at h3;cases h3
              subst hpq';simp [show i<l.size from by omega]
            · rw [getD_set_ne false e,hck p c hp]
              constructor
              · intro h;omega
              · intro h
                rcases Nat.lt_or_ge p q with hx | hx
                · exact hx
                · have:p=q:=by omega
                  subst this;exact absurd (Option.some.inj (hq.symm.trans hp)) e
          · intro s hsx
            refine hold s (fun j oj hj hoj hlj=>hsx j oj hj hoj (getD_set_true hlj))
          · intro j hj hlj
            by_cases e:i=j
            · subst e
              unfold LeftV;rw [ho];simp [hdn]
            · rw [getD_set_ne false e] at hlj
              exact hleft j hj hlj
        | false=>
          refine Ru.op ho (step i o k hci ho ?_ T w hJ hT hold' hleft') ?_
          · intro hk0
            unfold anc0;cases hh:ch.head? with
            | none=>rfl
            | some c=>
              simp only;have hc0:ch[0]? =some c:=by rw [← List.head?_eq_getElem?];exact hh
              cases hb:((ancs ops ops.size).getD c []).contains i with
              | false=>rfl
              | true=>
                exfalso;have hcd:=(hck 0 c hc0).2 hk0;have hcl0:=(hcs 0 c hc0).1;have h2:=anc_listed (l:=l) hcl F.back ops.size c ops[c] hcl0 (Array.getElem?_eq_getElem hcl0) (hcl c ops[c] hcl0 hcd (Array.getElem?_eq_getElem hcl0)) i (List.contains_iff_mem.1 hb);rw [hun] at h2;cases h2
          · rintro v w1 ⟨hJ1,hV⟩
            have hTs:((Act.mk T ds).put o.dst v)=⟨(match o.dst with | some d=>T.setIfInBounds d v | none=>T),ds⟩:=by cases o.dst <;> rfl
            rw [hTs];refine ih k _ _ w1 (by simpa using hs) hcnt hJ1 hk ?_ (by cases o.dst <;> simp [hT]) hcl' ?_ ?_
            · intro p c hp
              have e:i≠c:=by
                rintro rfl;have:=List.mem_of_getElem? hp;simp at hci;exact hci this
              rw [getD_set_ne false e];exact hck p c hp
            · intro s hsx
              have hne:o.dst≠some s:=hsx i o hlt ho (by simp [show i<l.size from by omega]);have hT':(match o.dst with | some d=>T.setIfInBounds d v | none=>T)[s]? =T[s]? :=by
                cases hd:o.dst with
                | none=>rfl
                | some d=>
                  simp only;rw [Array.getElem?_setIfInBounds_ne];rintro rfl;exact hne hd
              rw [hT'];exact hold s (fun j oj hj hoj hlj=>hsx j oj hj hoj (getD_set_true hlj))
            · intro j hj hlj
              by_cases e:i=j
              · subst e
                unfold LeftV;rw [ho];simp only [Option.bind_some];cases hd:o.dst with
                | none=>trivial
                | some d=>
                  simp only;have hdn:=(F.one i o d hlt ho hd).1;exact ⟨v,by simp [hT,hdn],hV⟩
              · rw [getD_set_ne false e] at hlj
                have hl2:=hleft j hj hlj;unfold LeftV at hl2 ⊢;cases hoj:ops[j]? with
                | none=>trivial
                | some oj=>
                  rw [hoj] at hl2;simp only [Option.bind_some] at hl2 ⊢;cases hdj:oj.dst with
                  | none=>trivial
                  | some d=>
                    rw [hdj] at hl2;obtain ⟨u,hu,hRu⟩:=hl2;refine ⟨u,?_,hRu⟩;cases hdi:o.dst with
                    | none=>exact hu
                    | some d2=>
                      simp only;rw [Array.getElem?_setIfInBounds_ne]
                      · exact hu
                      · rintro rfl
                        exact e ((F.one j oj d2 hj hoj hdj).2 i o hlt ho hdi)
theorem rgC {id:Nat} {lops:List Oper} {T0:Array Value} {n:Nat} {l0:List (Nat×Value)} {ds:List Deferred} {w0:World} (ch:List Nat) (J:List (World→Prop)) (Vs:List (Value→Prop)) (m:Nat) (E0:Env T0 n l0) (hm:P.follows .mixedOrders=true) (hF:formC lops.toArray ch n=true) (hmm:lops.length=m)
    (h0:J.getD 0 (fun _=>True) w0.drew)
    (step:AllI (fun i=>ch.contains i=false→∀k,(0<k→anc0 lops.toArray ch i=false)→∀T w,J.getD k (fun _=>True) w→T.size=n→(∀s,oldB lops.toArray m i s=true→T[s]? =T0[s]?)→(∀j,(needs (opAt lops.toArray i)).contains j=true→LeftV lops.toArray (fun i=>Vs.getD i (fun _=>True)) j T)→Ru P lops.toArray Q (opAt lops.toArray i) ⟨T,ds⟩ w (fun v w1=>J.getD k (fun _=>True) w1∧Vs.getD i (fun _=>True) v)) 0 m)
    (chain:AllI (fun k=> ∀T w,J.getD k (fun _=>True) w→T.size=n→(∀s,oldB lops.toArray m (ch.getD k 0) s=true→T[s]? =T0[s]?)→(∀j,(needs (opAt lops.toArray (ch.getD k 0))).contains j=true→LeftV lops.toArray (fun i=>Vs.getD i (fun _=>True)) j T)→Ru P lops.toArray Q (opAt lops.toArray (ch.getD k 0)) ⟨T,ds⟩ w (fun v w1=>J.getD (k+1) (fun _=>True) w1)) 0 ch.length)
    (fin: ∀T w,J.getD ch.length (fun _=>True) w→T.size=n→(∀s,(dstOf lops.toArray m).contains (some s)=false→T[s]? =T0[s]?)→(∀j,Nat.blt j m=true→LeftV lops.toArray (fun i=>Vs.getD i (fun _=>True)) j T)→wpList P lops.toArray Q [] ⟨T,ds⟩ w):
    (Code.region id lops.toArray true).wp P Q ⟨T0,ds⟩ w0:=by
  subst hmm;have hz: ∀j,(Array.replicate lops.toArray.size false).getD j false=false:=fun j=>by
    simp [Array.getD_eq_getD_getElem?];cases h:(Array.replicate lops.length false)[j]? with
    | none=>rfl
    | some b=>simp [Array.getElem?_replicate] at h;simp [h]
  have hoe: ∀i o,lops.toArray[i]? =some o→opAt lops.toArray i=o:=fun i o ho=>by
    unfold opAt;rw [Array.getD_eq_getD_getElem?,ho];rfl
  refine wp_region_any hm ?_;refine rgC_any (J:=fun k=>J.getD k (fun _=>True)) (Vs:=fun i=>Vs.getD i (fun _=>True)) (T0:=T0) hF ?_ ?_ ?_ lops.toArray.size 0 _ T0 _ (by simp) ?_ h0 (Nat.zero_le _) ?_ E0.1 ?_ ?_ ?_
  · intro i o k hc ho ha T w hJ hT hold hN
    have h1:=step.get (Nat.zero_le _) (show i<0+lops.length by have:=(Array.getElem?_eq_some_iff.1 ho).1;simp at this;omega) hc k ha T w hJ hT (by simpa using hold);rw [hoe i o ho] at h1;exact h1 (fun j hj=>hN j (by simpa using hj))
  · intro k c o hk ho T w hJ hT hold hN
    have hkl:=(List.getElem?_eq_some_iff.1 hk).1;have hcd:ch.getD k 0=c:=by rw [List.getD_eq_getElem?_getD,hk];rfl
    have h1:=chain.get (Nat.zero_le _) (show k<0+ch.length by omega) T w hJ hT (by rw [hcd];simpa using hold);rw [hcd,hoe c o ho] at h1;exact h1 (fun j hj=>hN j (by simpa using hj))
  · intro T w hJ hT hold hl
    refine fin T w hJ hT (fun s hs=>hold s (fun j o hj ho hd=> ?_)) (fun j hj=>hl j (by simpa using hj));have h1:some s∈dstOf lops.toArray lops.length:=by
      simp only [dstOf,List.mem_map,List.mem_range];exact ⟨j,by simpa using hj,by rw [ho];exact hd⟩
    have h2:(dstOf lops.toArray lops.length).contains (some s)=true:=by simpa using h1
    rw [hs] at h2;cases h2
  · exact Nat.le_trans List.countP_le_length (by simp)
  · intro q c hq
    rw [hz];simp
  · intro j o hj hl
    rw [hz] at hl;cases hl
  · intro s _;rfl
  · intro j hj hl
    rw [hz] at hl;cases hl
def Jc (t g:Nat) (w0:World) (C:Array Value) (W:World):Prop:=Mv [t] g w0 W∧(∀b x,w0.heap[b]? =some x→b≠g→W.heap[b]? =some x)∧W.heap[g]? =some (.cells C t (0,0))
def J0 (w0 W:World):Prop:=Mv [] 0 w0 W
theorem J0.first {t g i:Nat} {w0 W:World} {C C2:Array Value} {v:Value} (h:J0 w0 W) (hb:w0.heap[g]? =some (.cells C t (0,0))) (hC:C.setIfInBounds i v=C2):Jc t g w0 C2 (setBlk W g (C.setIfInBounds i v) t):=by
  subst hC;have h0:Mv [] 0 w0 W:=h;have h1:=h0.blk hb rfl;exact ⟨(mv0 (Mv.refl _ _ _) h0).trans (mv_setBlk h1),fun b x hx hne=>setBlk_keep (h0.obj hx rfl) hne,setBlk_at (heap_lt h1)⟩
theorem Jc.step {t g i:Nat} {w0 W:World} {C C2:Array Value} {v:Value} (h:Jc t g w0 C W) (hC:C.setIfInBounds i v=C2):Jc t g w0 C2 (setBlk W g (C.setIfInBounds i v) t):=by
  subst hC;exact ⟨h.1.trans (mv_setBlk h.2.2),fun b x hx hne=>setBlk_keep (h.2.1 b x hx hne) hne,setBlk_at (heap_lt h.2.2)⟩
theorem still_mv {t g:Nat} {w w3 w1:World} (ho:Below w.heap.size w w3) (e:Mv [t] g w3 w1):Mv [t] g w w1:=(Mv.of_below ho _ _).trans e
theorem still_ne {g:Nat} {w w3 w1:World} (ho:Below w.heap.size w w3) (hn: ∀b x,w3.heap[b]? =some x→b≠g→w1.heap[b]? =some x): ∀b x,w.heap[b]? =some x→b≠g→w1.heap[b]? =some x:=fun b x hx hne=>hn b x (by rw [ho.block b (heap_lt hx)];exact hx) hne
theorem k0_of {p:Prop} {b:Bool} {k:Nat} (h:0<k→b=false) (hb:b=true):k=0:=by
  rcases Nat.eq_zero_or_pos k with h0 | h0
  · exact h0
  · rw [h h0] at hb;cases hb
end
section
variable {P:Program} {ops:Array Oper} {Q:Exit→Act→World→Prop} {o:Oper} {T:Array Value} {ds:List Deferred} {n:Nat} {l:List (Nat×Value)} {w:World}
theorem dv_neqSlNil {t t2 e m c:Nat} {x y:Operand} {A:Option Addr} (E:Env T n l) (ho:o.op= .binOp .neq t x y t2) (hx:ev l x=some (.slice A m c)) (hy:ev l y=some (.slice none 0 0)) (ht:underB P t (isSlice e)=true):Dv P o ⟨T,ds⟩ w (.bool (!A.isNone)) w:=by
  refine dv_of (by unfold execOp;rw [ho]) ?_;simp only [E.ev hx ds,E.ev hy ds];exact guard_plain (run_neq_slice_nil (P:=P) w t e A m c (under_slice ht)) rfl
def methB (P:Program) (t:Nat) (name:String) (f:Nat):Bool:=match P.info? t with
  | some i=>(match i.methods.find? (·.name==name) with
    | some m=>m.path.isEmpty && (match m.func with | some (g,b)=>g==f && !b | none=>false)
    | none=>false) && (match P.underlying t with | some (.pointer _)=>false | some _=>true | none=>false)
  | none=>false
theorem run_method {t f:Nat} {name:String} (h:methB P t name f=true) (k:Nat) (v:Value):(Go.method (k+1) t v name).run P w= .ok (f,v) w:=by
  unfold methB at h;cases hi:P.info? t with
  | none=>rw [hi] at h;cases h
  | some i=>
    rw [hi] at h;simp only [Bool.and_eq_true] at h;obtain ⟨h1,h2⟩:=h;cases hm:i.methods.find? (·.name==name) with
    | none=>rw [hm] at h1;cases h1
    | some m=>
      rw [hm] at h1;simp only [Bool.and_eq_true] at h1;obtain ⟨h3,h4⟩:=h1;have h5:m.path.toList=[]:=by
        have:m.path=#[]:=by simpa using h3
        rw [this]
      cases hf:m.func with
      | none=>rw [hf] at h4;cases h4
      | some gb=>
        obtain ⟨g,b⟩:=gb;rw [hf] at h4;simp only [Bool.and_eq_true,beq_iff_eq,Bool.not_eq_true'] at h4;obtain ⟨rfl,rfl⟩:=h4;cases hu:P.underlying t with
        | none=>rw [hu] at h2;cases h2
        | some d=>
          rw [hu] at h2;cases d <;> simp at h2 <;> simp [Go.method,typeInfo,hi,hm,h5,hf,Go.follow,Go.receiverAt,run_under hu,Go.Place.get,go_sem]
theorem ru_invoke {f t:Nat} {name:String} {fn:Func} {r:Operand} {az:List Operand} {ts:Array TypeId} {args:List Value} {v:Value} {R:Value→World→Prop} (E:Env T n l) (hg:Region.wanted o (yielded ops T)=true) (ho:o.op= .call {callee:= .invoke r name,args:=az.toArray,argTypes:=ts}) (hr:ev l r=some (.iface t v)) (hargs:az.map (ev l)=args.map some)
    (hm:methB P t name f=true) (hf:P.funcs[f]? =some fn) (hname:(fn.name== "runtime.NumGoroutine")=false) (hb:fn.body.isSome=true) (h:Ret P f (v::args).toArray w R):Ru P ops Q o ⟨T,ds⟩ w R:=Ru.of fun K hK=>by
  rw [if_pos hg];refine wp_of_enter (f:=f) (args:=(v::args).toArray) ?_ h hK;have h1:=evs E ds hargs;have h2:fn.name≠ "runtime.NumGoroutine" :=by simpa using hname
  obtain ⟨c,hc⟩:=Option.isSome_iff_exists.1 hb;have h3:az.toArray.map (Act.mk T ds).eval=args.toArray:=by rw [← h1];simp
  unfold execOp;rw [ho];simp only [resolve,h3,E.ev hr ds];simp [invoke,callMethod,run_method hm,callFunc,hf,h2,hc,go_sem,show P.types.size+Made.depth=(P.types.size+(Made.depth-1))+1 from rfl]
theorem run_nilAhead {t f:Nat} {name:String} (h:methB P t name f=true) (k:Nat) (v:Value):(Go.nilAhead (k+1) t v name).run P w= .ok (some false) w:=by
  unfold methB at h;cases hi:P.info? t with
  | none=>rw [hi] at h;cases h
  | some i=>
    rw [hi] at h;simp only [Bool.and_eq_true] at h;obtain ⟨h1,h2⟩:=h;cases hm:i.methods.find? (·.name==name) with
    | none=>rw [hm] at h1;cases h1
    | some m=>
      rw [hm] at h1;simp only [Bool.and_eq_true] at h1;obtain ⟨h3,h4⟩:=h1;have h5:m.path.toList=[]:=by
        have:m.path=#[]:=by simpa using h3
        rw [this]
      cases hf:m.func with
      | none=>rw [hf] at h4;cases h4
      | some gb=>
        obtain ⟨g,b⟩:=gb;rw [hf] at h4;simp only [Bool.and_eq_true,beq_iff_eq,Bool.not_eq_true'] at h4;obtain ⟨rfl,rfl⟩:=h4;cases hu:P.underlying t with
        | none=>rw [hu] at h2;cases h2
        | some d=>
          rw [hu] at h2;cases d <;> simp at h2 <;> simp [Go.nilAhead,typeInfo,hi,hm,h5,hf,Go.followBlind,run_under hu,go_sem]
theorem dv_methFunc {name:String} {x:Operand} {v:Value} (E:Env T n l) (ho:o.op= .makeFunc (.method name) #[x] #[]) (hx:ev l x=some v):Dv P o ⟨T,ds⟩ w (.func (.method name) #[v] #[]) w:=by
  refine dv_of (by unfold execOp;rw [ho]) ?_;simp only [List.map_toArray,List.map_cons,List.map_nil,E.ev hx ds];rfl
theorem dv_nilMeth {name:String} {t f:Nat} {x:Operand} {v:Value} (E:Env T n l) (ho:o.op= .nilCheck x) (hx:ev l x=some (.func (.method name) #[.iface t v] #[])) (hm:methB P t name f=true):Dv P o ⟨T,ds⟩ w (.func (.method name) #[.iface t v] #[]) w:=by
  unfold Dv execOp;rw [ho];simp only [E.ev hx ds];simp [show P.types.size+Made.depth=(P.types.size+(Made.depth-1))+1 from rfl,run_nilAhead hm,go_sem]
end
section
variable {P:Program} {ops:Array Oper} {Q:Exit→Act→World→Prop} {o oj:Oper} {T:Array Value} {ds:List Deferred} {n:Nat} {l:List (Nat×Value)} {w w1:World} {v:Value} {R:Value→World→Prop}
theorem dv_as {a:Act} {b c:Bool} (h:Dv P o a w (.bool b) w1) (e:b=c):Dv P o a w (.bool c) w1:=e▸h
theorem ret_b {f:Nat} {args:Array Value} {b c:Bool} {R:World→Prop} (h:Ret P f args w (fun v w1=>v= .bool b∧R w1)) (e:b=c):Ret P f args w (fun v w1=>v= .bool c∧R w1):=e▸h
theorem ret_v {f:Nat} {args:Array Value} {b c:Value} {R:World→Prop} (h:Ret P f args w (fun v w1=>v=b∧R w1)) (e:b=c):Ret P f args w (fun v w1=>v=c∧R w1):=e▸h
theorem in_ret {id:Nat} {a:Act} (h:Q .ret a w):Exit.inBlock id Q .ret a w:=h
theorem then_ret {nx:Act→World→Prop} {a:Act} (h:Q .ret a w):Exit.then nx Q .ret a w:=h
theorem wanted_off {j dj:Nat} {b:Bool} (E:Env T n l) (hg:o.guard=some (j,!b)) (hj:ops[j]? =some oj) (hdj:oj.dst=some dj) (hv:lk l dj=some (.bool b)):Region.wanted o (yielded ops T)=false:=by
  have h1:=E.get hv;simp [Region.wanted,hg,yielded,hj,hdj,h1]
def MapS (w:World) (g:Nat) (L:List (ByteArray×Value)):Prop:=∃es clock,w.heap[g]? =some (.map es clock)∧es.toList.map (fun e=>(e.key,e.val))=L.map (fun p=>(Value.string p.1,p.2))
theorem MapS.mv {σ:List Nat} {b g:Nat} {L:List (ByteArray×Value)} (h:MapS w g L) (e:Mv σ b w w1) (hs:σ.contains 1000001=false):MapS w1 g L:=by
  obtain ⟨es,c,h1,h2⟩:=h;exact ⟨es,c,e.obj h1 hs,h2⟩
theorem MapS.oth {g:Nat} {L:List (ByteArray×Value)} (h:MapS w g L) (e: ∀o,w.heap[g]? =some o→w1.heap[g]? =some o):MapS w1 g L:=by
  obtain ⟨es,c,h1,h2⟩:=h;exact ⟨es,c,e _ h1,h2⟩
theorem MapS.lt {g:Nat} {L:List (ByteArray×Value)} (h:MapS w g L):g<w.heap.size:=by
  obtain ⟨es,c,h1,h2⟩:=h;exact heap_lt h1
theorem beq_dec (a b:ByteArray):(a==b)=decide (a=b):=(beq_toListBytes a b).trans (toList_eq a b)
def lookS (L:List (ByteArray×Value)) (k:ByteArray):Option Value:=(L.find? (fun p=>decide (k=p.1))).map (·.2)
theorem findNow_str (k:ByteArray): ∀(es:List MapEntry) (L:List (ByteArray×Value)) (i:Nat),es.map (fun e=>(e.key,e.val))=L.map (fun p=>(Value.string p.1,p.2))→∃r,Instr.findNow .string (.string k) es i=some r∧r.map (·.2)=lookS L k
  | [],L,i,h=>by
    cases L with
    | nil=>exact ⟨none,rfl,rfl⟩
    | cons p L=>cases h
  | e::es,L,i,h=>by
    cases L with
    | nil=>cases h
    | cons p L=>
      simp only [List.map_cons,List.cons.injEq,Prod.mk.injEq] at h;obtain ⟨⟨h1,h2⟩,h3⟩:=h;obtain ⟨r,hr1,hr2⟩:=findNow_str k es L (i+1) h3;by_cases hk:k=p.1
      · exact ⟨some (i,e.val),by simp [Instr.findNow,h1,Instr.sameNow,hk,beq_dec],by simp [lookS,hk,h2]⟩
      · exact ⟨r,by simp [Instr.findNow,h1,Instr.sameNow,hk,hr1,beq_dec],by rw [hr2];simp [lookS,hk]⟩
def isMap (k e:Nat):TypeDesc→Bool
  | .map x y=>x==k && y==e
  | _=>false
theorem under_map {t k e:Nat} (h:underB P t (isMap k e)=true):P.underlying t=some (.map k e):=by
  unfold underB at h;cases hu:P.underlying t with
  | none=>rw [hu] at h;cases h
  | some d=>
    rw [hu] at h;cases d <;> simp [isMap] at h
    rw [h.1,h.2]
def isStrB (P:Program) (k:Nat):Bool:=underB P k (fun d=>match d with | .string=>true | _=>false)
theorem under_strB {k:Nat} (h:isStrB P k=true):P.underlying k=some .string:=by
  unfold isStrB underB at h;cases hu:P.underlying k with
  | none=>rw [hu] at h;cases h
  | some d=>rw [hu] at h;cases d <;> simp at h;rfl
theorem run_checkStr {k:Nat} (h:P.underlying k=some .string) (em:Bool) (s:ByteArray) (m:Nat) (w:World):(Instr.checkKey em (m+1) k (.string s)).run P w= .ok () w:=by
  simp [Instr.checkKey,run_under h]
theorem run_findStr {k:Nat} (h:P.underlying k=some .string) (s:ByteArray) {es:List MapEntry} {L:List (ByteArray×Value)} (he:es.map (fun e=>(e.key,e.val))=L.map (fun p=>(Value.string p.1,p.2))) (w:World): ∃r,(Instr.findKey k (.string s) es).run P w= .ok r w∧r.map (·.2)=lookS L s:=by
  obtain ⟨r,h1,h2⟩:=findNow_str s es L 0 he;exact ⟨r,by simp [Instr.findKey,run_under h,h1],h2⟩
theorem run_getMap {g:Nat} {es:Array MapEntry} {c:Nat} (h:w.heap[g]? =some (.map es c)):(getObj g).run P w= .ok (.map es c) w:=by simp [getObj,h,go_sem,Sem.run]
theorem dv_look2S {mt k e g:Nat} {x y:Operand} {s:ByteArray} {L:List (ByteArray×Value)} {u:Value} (E:Env T n l) (ho:o.op= .lookup mt x y true) (hx:ev l x=some (.map (some g))) (hy:ev l y=some (.string s)) (ht:underB P mt (isMap k e)=true) (hk:isStrB P k=true) (hm:MapS w g L) (hl:lookS L s=some u):Dv P o ⟨T,ds⟩ w (.tuple #[u,.bool true]) w:=by
  refine dv_of (by unfold execOp;rw [ho]) ?_;obtain ⟨es,c,h1,h2⟩:=hm;obtain ⟨r,h3,h4⟩:=run_findStr (P:=P) (under_strB hk) s h2 w;rw [hl] at h4;simp only [E.ev hx ds,E.ev hy ds];cases r with
  | none=>cases h4
  | some r=>
    simp only [Option.map_some,Option.some.injEq] at h4;simp [Instr.lookup,run_under (under_map ht),run_getMap h1,run_checkStr (under_strB hk) _ s 9999,h3,h4]
theorem dv_look2N {mt k e g:Nat} {x y:Operand} {s:ByteArray} {L:List (ByteArray×Value)} {z:Value} (E:Env T n l) (ho:o.op= .lookup mt x y true) (hx:ev l x=some (.map (some g))) (hy:ev l y=some (.string s)) (ht:underB P mt (isMap k e)=true) (hk:isStrB P k=true) (hz:(P.info? e).bind (·.zero)=some z) (hm:MapS w g L) (hl:lookS L s=none):Dv P o ⟨T,ds⟩ w (.tuple #[z,.bool false]) w:=by
  refine dv_of (by unfold execOp;rw [ho]) ?_;obtain ⟨es,c,h1,h2⟩:=hm;obtain ⟨r,h3,h4⟩:=run_findStr (P:=P) (under_strB hk) s h2 w;rw [hl] at h4;simp only [E.ev hx ds,E.ev hy ds];cases r with
  | some r=>cases h4
  | none=>simp [Instr.lookup,run_under (under_map ht),run_getMap h1,run_checkStr (under_strB hk) _ s 9999,h3,run_zero hz]
theorem dv_look1S {mt k e g:Nat} {x y:Operand} {s:ByteArray} {L:List (ByteArray×Value)} {u:Value} (E:Env T n l) (ho:o.op= .lookup mt x y false) (hx:ev l x=some (.map (some g))) (hy:ev l y=some (.string s)) (ht:underB P mt (isMap k e)=true) (hk:isStrB P k=true) (hm:MapS w g L) (hl:lookS L s=some u):Dv P o ⟨T,ds⟩ w u w:=by
  refine dv_of (by unfold execOp;rw [ho]) ?_;obtain ⟨es,c,h1,h2⟩:=hm;obtain ⟨r,h3,h4⟩:=run_findStr (P:=P) (under_strB hk) s h2 w;rw [hl] at h4;simp only [E.ev hx ds,E.ev hy ds];cases r with
  | none=>cases h4
  | some r=>
    simp only [Option.map_some,Option.some.injEq] at h4;simp [Instr.lookup,run_under (under_map ht),run_getMap h1,run_checkStr (under_strB hk) _ s 9999,h3,h4]
theorem dv_look1N {mt k e g:Nat} {x y:Operand} {s:ByteArray} {L:List (ByteArray×Value)} {z:Value} (E:Env T n l) (ho:o.op= .lookup mt x y false) (hx:ev l x=some (.map (some g))) (hy:ev l y=some (.string s)) (ht:underB P mt (isMap k e)=true) (hk:isStrB P k=true) (hz:(P.info? e).bind (·.zero)=some z) (hm:MapS w g L) (hl:lookS L s=none):Dv P o ⟨T,ds⟩ w z w:=by
  refine dv_of (by unfold execOp;rw [ho]) ?_;obtain ⟨es,c,h1,h2⟩:=hm;obtain ⟨r,h3,h4⟩:=run_findStr (P:=P) (under_strB hk) s h2 w;rw [hl] at h4;simp only [E.ev hx ds,E.ev hy ds];cases r with
  | some r=>cases h4
  | none=>simp [Instr.lookup,run_under (under_map ht),run_getMap h1,run_checkStr (under_strB hk) _ s 9999,h3,run_zero hz]
def setObjW (w:World) (g:Nat) (ob:Obj):World:={w with heap:=w.heap.setIfInBounds g ob}
theorem run_setMap {g:Nat} {es es2:Array MapEntry} {c c2:Nat} (h:w.heap[g]? =some (.map es c)):(setObj g (.map es2 c2)).run P w= .ok () (setObjW w g (.map es2 c2)):=by
  simp [setObj,h,go_sem,setObjW,Sem.run]
theorem mv_setObj {g:Nat} {es es2:Array MapEntry} {c c2:Nat} (h:w.heap[g]? =some (.map es c)):Mv [1000001] g w (setObjW w g (.map es2 c2)):=by
  refine ⟨rfl,rfl,rfl,by simp [setObjW],fun b x hb hc=> ?_⟩;by_cases e:b=g
  · subst e
    rw [h] at hb;obtain rfl:=Option.some.inj hb;rcases hc with hc | hc
    · omega
    · simp [okind] at hc
  · simp only [setObjW]
    rw [Array.getElem?_setIfInBounds_ne (Ne.symm e)];exact hb
theorem setObj_keep {g b:Nat} {ob x:Obj} (hb:w.heap[b]? =some x) (hne:b≠g):(setObjW w g ob).heap[b]? =some x:=by
  simp only [setObjW];rw [Array.getElem?_setIfInBounds_ne (Ne.symm hne)];exact hb
theorem ru_mapPut {mt k e g:Nat} {m x y:Operand} {s:ByteArray} {L:List (ByteArray×Value)} {u:Value} (E:Env T n l) (ho:o.op= .mapUpdate mt m x y) (hg:o.guard=none) (hm0:ev l m=some (.map (some g))) (hx:ev l x=some (.string s)) (hy:ev l y=some u) (ht:underB P mt (isMap k e)=true) (hk:isStrB P k=true) (hm:MapS w g L) (hl:lookS L s=none):
    Ru P ops Q o ⟨T,ds⟩ w (fun v w1=>v=undef∧Mv [1000001] g w w1∧(∀b x,w.heap[b]? =some x→b≠g→w1.heap[b]? =some x)∧MapS w1 g (L++ [(s,u)])):=by
  obtain ⟨es,c,h1,h2⟩:=hm;obtain ⟨r,h3,h4⟩:=run_findStr (P:=P) (under_strB hk) s h2 w;rw [hl] at h4;cases r with
  | some r=>cases h4
  | none=>
    refine Ru.k (w1:=setObjW w g (.map (es.push {key:= .string s,val:=u,born:=c}) (c+1))) ?_ hg ⟨rfl,mv_setObj h1,fun b x hb hne=>setObj_keep hb hne,es.push {key:= .string s,val:=u,born:=c},c+1,?_,?_⟩
    · unfold Dk execOp
      rw [ho];simp only [E.ev hm0 ds,E.ev hx ds,E.ev hy ds];simp [Instr.mapUpdate,run_under (under_map ht),run_getMap h1,run_checkStr (under_strB hk) _ s 9999,h3,run_setMap h1]
    · simp [setObjW,heap_lt h1]
    · simp [h2]
theorem ru_makeMap {t:Nat} {r:Option Operand} (E:Env T n l) (ho:o.op= .makeMap t r) (hg:o.guard=none) (hr: ∀x,r=some x→underB P t (fun d=>match d with | .map _ _=>true | _=>false)=true∧∃k a,ev l x=some (.int k a)):
    Ru P ops Q o ⟨T,ds⟩ w (fun v w1=> ∃g,v= .map (some g)∧Mv [] 0 w w1∧w.heap.size≤g∧g=w.heap.size∧MapS w1 g []):=by
  refine Ru.v (v:= .map (some w.heap.size)) (w1:=w.alloc (.map #[] 0)) (dv_of (by unfold execOp;rw [ho]) ?_) hg ⟨_,rfl,mv_alloc _ _ _ _,Nat.le_refl _,rfl,#[],0,heap_new _ _,rfl⟩;cases r with
  | none=>rfl
  | some x=>
    obtain ⟨h1,k,a,h2⟩:=hr x rfl;have hu: ∃k e,P.underlying t=some (.map k e):=by
      unfold underB at h1;cases hu:P.underlying t with
      | none=>rw [hu] at h1;cases h1
      | some d=>rw [hu] at h1;cases d <;> simp at h1;exact ⟨_,_,rfl⟩
    obtain ⟨kk,ee,hu⟩:=hu;simp only [Option.map_some,E.ev h2 ds];simp [Instr.makeMap,run_under hu,asInt,go_sem]
theorem dv_makeFn {f:Nat} {cs:List Operand} {vs:List Value} (E:Env T n l) (ho:o.op= .makeFunc (.func f) #[] cs.toArray) (hc:cs.map (ev l)=vs.map some):Dv P o ⟨T,ds⟩ w (.func (.func f) #[] vs.toArray) w:=by
  refine dv_of (by unfold execOp;rw [ho]) ?_;have h1:=evs E ds hc;rw [show (cs.toArray.map (Act.mk T ds).eval)=vs.toArray from by rw [← h1];simp];simp [Instr.makeFunc]
theorem ru_callFn {f:Nat} {fn:Func} {x:Operand} {az:List Operand} {ts:Array TypeId} {args caps:List Value} (E:Env T n l) (hg:Region.wanted o (yielded ops T)=true) (ho:o.op= .call {callee:= .value x,args:=az.toArray,argTypes:=ts}) (hx:ev l x=some (.func (.func f) #[] caps.toArray)) (hargs:az.map (ev l)=args.map some)
    (hf:P.funcs[f]? =some fn) (hname:(fn.name== "runtime.NumGoroutine")=false) (hb:fn.body.isSome=true) (h:Ret P f (args++caps).toArray w R):Ru P ops Q o ⟨T,ds⟩ w R:=Ru.of fun K hK=>by
  rw [if_pos hg];refine wp_of_enter (f:=f) (args:=(args++caps).toArray) ?_ h hK;have h1:=evs E ds hargs;have h2:fn.name≠ "runtime.NumGoroutine" :=by simpa using hname
  obtain ⟨c,hc⟩:=Option.isSome_iff_exists.1 hb;have h3:az.toArray.map (Act.mk T ds).eval=args.toArray:=by rw [← h1];simp
  unfold execOp;rw [ho];simp only [resolve,E.ev hx ds,Deferred.ofValue];rw [show (az.toArray.map (Act.mk T ds).eval)=args.toArray from h3];simp [invoke,callFunc,hf,h2,hc,go_sem]
theorem ru_extern {f:Nat} {fn:Func} {az:List Operand} {ts:Array TypeId} {args:List Value} {e:Array Value→Sem Value} {v:Value} (E:Env T n l) (hg:Region.wanted o (yielded ops T)=true) (ho:o.op= .call {callee:= .value (.func f),args:=az.toArray,argTypes:=ts}) (hargs:az.map (ev l)=args.map some)
    (hf:P.funcs[f]? =some fn) (hname:(fn.name== "runtime.NumGoroutine")=false) (hb:fn.body.isNone=true) (hn:Extern.findNext fn=none) (he:Extern.find fn=some e) (h:(e args.toArray).run P w= .ok v w) (hR:R v w):Ru P ops Q o ⟨T,ds⟩ w R:=Ru.of fun K hK=>by
  rw [if_pos hg];unfold Oper.wp;have h1:=evs E ds hargs;have h2:fn.name≠ "runtime.NumGoroutine" :=by simpa using hname
  have h3:az.toArray.map (Act.mk T ds).eval=args.toArray:=by rw [← h1];simp
  have h4:(execOp (Act.mk T ds).eval o).run P w= .ok (.value v) w:=by
    unfold execOp;rw [ho];simp only [resolve,Act.eval,Deferred.ofValue];rw [show (az.toArray.map (Act.mk T ds).eval)=args.toArray from h3];have hb':fn.body=none:=by simpa using hb
    simp [invoke,callFunc,hf,h2,hb',hn,he,h,go_sem]
  rw [h4];exact hK v w hR
theorem dv_min {k k2:IntKind} {ts:Array TypeId} {x y:Operand} {a b c:Int} (E:Env T n l) (ho:o.op= .call {callee:= .builtin .min,args:=#[x,y],argTypes:=ts}) (hx:ev l x=some (.int k a)) (hy:ev l y=some (.int k2 b)) (hc:(if b<a then b else a)=c):Dv P o ⟨T,ds⟩ w (.int k c) w:=by
  subst hc;unfold Dv execOp;rw [ho];simp only [resolve,List.map_toArray,List.map_cons,List.map_nil,E.ev hx ds,E.ev hy ds];simp [invoke,builtin,run_min_int2]
theorem dv_max {k k2:IntKind} {ts:Array TypeId} {x y:Operand} {a b c:Int} (E:Env T n l) (ho:o.op= .call {callee:= .builtin .max,args:=#[x,y],argTypes:=ts}) (hx:ev l x=some (.int k a)) (hy:ev l y=some (.int k2 b)) (hc:(if b > a then b else a)=c):Dv P o ⟨T,ds⟩ w (.int k c) w:=by
  subst hc;unfold Dv execOp;rw [ho];simp only [resolve,List.map_toArray,List.map_cons,List.map_nil,E.ev hx ds,E.ev hy ds];simp [invoke,builtin,run_max_int2]
end
def Tab (w:World) (t:Nat) (A:Option Addr) (k n:Nat) (vals:Nat→Array Value):Prop:=0<n→∃g o cs fr,A=some ⟨g,o,none⟩∧w.heap[g]? =some (.cells cs t fr)∧∀i,i<n→∀j,j<k→cs[o+(i*k+j)]? =(vals i)[j]?
theorem adr_add (x:Addr) (r s:Nat):(x.add r).add s=x.add (r+s):=by
  unfold Addr.add;by_cases h1:r=0
  · subst h1;simp
  · by_cases h2:s=0
    · subst h2;simp
    · rw [if_neg h1,if_neg h2,if_neg (by omega)]
      simp [Nat.add_assoc]
section
variable {w w1:World} {t b k n:Nat} {σ:List Nat} {A:Option Addr} {vals:Nat→Array Value}
theorem Tab.mv (h:Tab w t A k n vals) (e:Mv σ b w w1) (hs:σ.contains t=false):Tab w1 t A k n vals:=fun hm=>by
  obtain ⟨g,o,cs,fr,h1,h2,h3⟩:=h hm;exact ⟨g,o,cs,fr,h1,e.blk h2 hs,h3⟩
theorem Tab.oth (h:Tab w t A k n vals) (e: ∀g o x,A=some ⟨g,o,none⟩→w.heap[g]? =some x→w1.heap[g]? =some x):Tab w1 t A k n vals:=fun hm=>by
  obtain ⟨g,o,cs,fr,h1,h2,h3⟩:=h hm;exact ⟨g,o,cs,fr,h1,e g o _ h1 h2,h3⟩
def TLt (m:Nat) (A:Option Addr):Prop:=∀g o,A=some ⟨g,o,none⟩→g<m
theorem Tab.tlt (h:Tab w t A k n vals) (hn:0<n):TLt w.heap.size A:=fun g o hA=>by
  obtain ⟨g1,o1,cs,fr,h1,h2,h3⟩:=h hn;rw [hA] at h1;injection h1 with h1;injection h1 with h1;rw [h1];exact heap_lt h2
theorem Tab.keep (h:Tab w t A k n vals) {m:Nat} (hl:TLt m A) (e:Mv σ b w w1) (hb:m≤b):Tab w1 t A k n vals:=h.oth (fun g o x hA hx=>e.keep g x hx (.inl (Nat.lt_of_lt_of_le (hl g o hA) hb)))
theorem Tab.cells (h:Tab w t A k n vals) {i:Nat} (hi:i<n) (j:Nat) (hj:j<k):w.cell? ((adr A (i*k)).add j)=(vals i)[j]? ∨(vals i)[j]? =none:=by
  obtain ⟨g,o,cs,fr,h1,h2,h3⟩:=h (by omega);cases hv:(vals i)[j]? with
  | none=>exact .inr rfl
  | some v=>
    refine .inl ?_;rw [h1,adr,add_plain,add_plain];refine cell_of h2 ?_;rw [Nat.add_assoc,h3 i hi j hj,hv]
theorem Tab.cell (h:Tab w t A k n vals) {i r:Nat} {v:Value} (hi:i<n) (hr:Nat.blt r k=true) (hv:(vals i)[r]? =some v):w.cell? ((adr A (i*k)).add r)=some v:=by
  rcases h.cells hi r (by simpa using hr) with h1 | h1
  · rw [h1,hv]
  · rw [hv] at h1;cases h1
theorem Tab.sub (h:Tab w t A k n vals) {i r m:Nat} {vs:Array Value} (hi:i<n) (hr:Nat.ble (r+m) k=true) (hs:vs.size=m) (hv: ∀j,j<m→(vals i)[r+j]? =vs[j]?) (j:Nat) (hj:j<m):w.cell? (((adr A (i*k)).add r).add j)=vs[j]? :=by
  have hr':r+m≤k:=by simpa using hr
  rw [adr_add];rcases h.cells hi (r+j) (by omega) with h1 | h1
  · rw [h1,hv j hj]
  · rw [hv j hj,Array.getElem?_eq_getElem (by omega)] at h1;cases h1
theorem Tab.sure (h:Tab w t A k n vals) (hm:0<n):A.isSome=true:=by
  obtain ⟨g,o,cs,fr,h1,h2,h3⟩:=h hm;rw [h1];rfl
theorem Tab.le (h:Tab w t A k n vals) {m:Nat} (hm:m≤n):Tab w t A k m vals:=fun h0=>by
  obtain ⟨g,o,cs,fr,h1,h2,h3⟩:=h (by omega);exact ⟨g,o,cs,fr,h1,h2,fun i hi=>h3 i (by omega)⟩
theorem Tab.congr (h:Tab w t A k n vals) {v2:Nat→Array Value} (hf: ∀i,i<n→vals i=v2 i):Tab w t A k n v2:=fun hm=>by
  obtain ⟨g,o,cs,fr,h1,h2,h3⟩:=h hm;exact ⟨g,o,cs,fr,h1,h2,fun i hi j hj=>by rw [h3 i hi j hj,hf i hi]⟩
def flat (n:Nat) (vals:Nat→Array Value):List Value:=(List.range n).flatMap (fun i=>(vals i).toList)
theorem flat_succ (n:Nat) (vals:Nat→Array Value):flat (n+1) vals=flat n vals++(vals n).toList:=by simp [flat,List.range_succ,List.flatMap_append]
theorem flat_congr {v2:Nat→Array Value} (h: ∀i,i<n→vals i=v2 i):flat n vals=flat n v2:=by
  unfold flat;have: ∀l:List Nat,(∀i∈l,i<n)→l.flatMap (fun i=>(vals i).toList)=l.flatMap (fun i=>(v2 i).toList):=by
    intro l
    induction l with
    | nil=>intro _;rfl
    | cons a l ih=>
      intro hl;rw [List.flatMap_cons,List.flatMap_cons,h a (hl a (by simp)),ih (fun i hi=>hl i (by simp [hi]))]
  exact this _ (fun i hi=>List.mem_range.1 hi)
theorem flat_len (hk: ∀i,i<n→(vals i).size=k):(flat n vals).length=n*k:=by
  induction n with
  | zero=>simp [flat]
  | succ n ih=>
    rw [flat_succ,List.length_append,ih (fun i hi=>hk i (by omega)),Array.length_toList,hk n (by omega),Nat.succ_mul]
theorem flat_get (hk: ∀i,i<n→(vals i).size=k) {i j:Nat} (hi:i<n) (hj:j<k):(flat n vals)[i*k+j]? =(vals i)[j]? :=by
  induction n with
  | zero=>omega
  | succ n ih=>
    have hl:(flat n vals).length=n*k:=flat_len (fun i hi=>hk i (by omega));rw [flat_succ];by_cases e:i=n
    · subst e
      rw [List.getElem?_append_right (by omega),hl,Nat.add_sub_cancel_left];simp
    · have h1:i*k+j<n*k:=by
        have:(i+1)*k≤n*k:=Nat.mul_le_mul_right k (by omega);rw [Nat.succ_mul] at this;omega
      rw [List.getElem?_append_left (by omega)];exact ih (fun i hi=>hk i (by omega)) (by omega)
def OwnT (base:Nat) (w:World) (e k:Nat) (v:Value) (n:Nat) (vals:Nat→Array Value):Prop:=(∀i,i<n→(vals i).size=k)∧w.ownsRow base e k v n (flat n vals)
theorem OwnT.nil {base e:Nat}:OwnT base w e k (.slice none 0 0) 0 vals:=⟨fun _ h=>by omega,World.ownsRow_nil w base e k⟩
theorem OwnT.mv {base e:Nat} {v:Value} (h:OwnT base w e k v n vals) (m:Mv σ b w w1) (hs:σ.contains e=false):OwnT base w1 e k v n vals:=by
  refine ⟨h.1,h.2.1,?_⟩;rcases h.2.2 with hn | ⟨g,cap,cur,hv,hb,hg,r⟩
  · exact .inl hn
  · exact .inr ⟨g,cap,cur,hv,hb,m.blk hg hs,r⟩
theorem OwnT.tab {base e:Nat} {A:Option Addr} {m c:Nat} (h:OwnT base w e k (.slice A m c) n vals):Tab w e A k n vals:=fun hn=>by
  rcases h.2.2 with ⟨h1,h2⟩ | ⟨g,cap,cur,hv,hb,hg,hnc,hcm,hcs,htk⟩
  · omega
  · injection hv with h1 h2 h3
    refine ⟨g,0,cur,(0,0),h1,hg,fun i hi j hj=> ?_⟩;rw [← flat_get h.1 hi hj,← htk,List.getElem?_take];have:i*k+j<n*k:=by
      have h4:(i+1)*k≤n*k:=Nat.mul_le_mul_right k (by omega);rw [Nat.succ_mul] at h4;omega
    rw [if_pos this,Nat.zero_add];simp
theorem OwnT.form {base e:Nat} {v:Value} (h:OwnT base w e k v n vals): ∃A c,v= .slice A n c:=by
  rcases h.2.2 with ⟨rfl,rfl⟩ | ⟨g,cap,cur,rfl,_⟩
  · exact ⟨none,0,rfl⟩
  · exact ⟨_,_,rfl⟩
theorem OwnT.congr {base e:Nat} {v:Value} {v2:Nat→Array Value} (h:OwnT base w e k v n vals) (hf: ∀i,i<n→vals i=v2 i):OwnT base w e k v n v2:=⟨fun i hi=>by rw [← hf i hi];exact h.1 i hi,by rw [← flat_congr hf];exact h.2⟩
theorem OwnT.ge {base e:Nat} {A:Option Addr} {m c:Nat} (h:OwnT base w e k (.slice A m c) n vals): ∀g o,A=some ⟨g,o,none⟩→base≤g∧g<w.heap.size:=by
  rintro g o rfl;rcases h.2.2 with ⟨h1,rfl⟩ | ⟨g1,cap,cur,h1,h2,h3,_⟩
  · cases h1
  · injection h1 with h4
    injection h4 with h4;injection h4 with h5;subst h5;exact ⟨h2,heap_lt h3⟩
theorem OwnT.ob {base e:Nat} {v:Value} (h:OwnT base w e k v n vals) {q:Nat} (hq:w.heap.size≤q):some q≠v.ownBlock:=by
  rcases h.2.2 with ⟨rfl,_⟩ | ⟨g,cap,cur,rfl,_,h3,_⟩
  · exact fun h=>by cases h
  · intro h
    simp only [Value.ownBlock,Option.some.injEq] at h;have:=heap_lt h3;omega
def updT (vals:Nat→Array Value) (n:Nat) (v:Array Value):Nat→Array Value:=fun i=>if i=n then v else vals i
theorem updT_at (vals:Nat→Array Value) (n:Nat) (v:Array Value):updT vals n v n=v:=if_pos rfl
theorem updT_lt (vals:Nat→Array Value) {n i:Nat} (v:Array Value) (h:i<n):updT vals n v i=vals i:=if_neg (by omega)
end
section
variable {P:Program} {ops:Array Oper} {Q:Exit→Act→World→Prop} {o:Oper} {T:Array Value} {ds:List Deferred} {n:Nat} {l:List (Nat×Value)} {w:World}
theorem ru_appT {t e k by_ base m c g:Nat} {z:Value} {s x:Operand} {v:Value} {vals:Nat→Array Value} {cs:Array Value} (E:Env T n l) (ho:o.op= .call {callee:= .builtin .append,args:=#[s,x],argTypes:=#[t,t]}) (hg:o.guard=none) (hs:ev l s=some v) (hx:ev l x=some (.slice (some ⟨g,0,none⟩) 1 c))
    (ht:underB P t (isSlice e)=true) (hi:infoB P e k by_ z) (hz:z.cells.size=k) (hk:0<k) (hown:OwnT base w e k v m vals) (hb:w.heap[g]? =some (.cells cs e (0,0))) (hcs:cs.size=k) (h1:cs.toList.all (·.oneCell')=true) (hm:m<140737488355328 / by_-1) (hby:0<by_) (hbase:base≤w.heap.size):
    Ru P ops Q o ⟨T,ds⟩ w (fun v1 w1=> ∃A c,v1= .slice A (m+1) c∧Mv [e] base w w1∧w.grownBy w1 v.ownBlock∧OwnT base w1 e k (.slice A (m+1) c) (m+1) (updT vals m cs)):=by
  have hm2:m+1≤140737488355328 / by_:=by omega
  have hm3:(m+1)*by_≤140737488355328:=Nat.le_trans (Nat.mul_le_mul_right _ hm2) (Nat.div_mul_le_self _ _);have hm4:m+1≤(m+1)*by_:=Nat.le_mul_of_pos_right _ hby
  refine (ru_append (m0:=m) (m:=1) (xs:=flat m vals) (news:=cs.toList) E ho hg hs hx ht hi hz hk hown.2 (by simp [hcs]) ?_ (fun u hu=>List.all_eq_true.1 h1 u hu) (by simp only [maxLen];omega) hm3 hbase).mono ?_
  · intro j u hu
    rw [add_plain,Nat.zero_add];exact cell_of hb (by simpa using hu)
  · rintro v1 w1 ⟨h2,h3,h4,h5⟩
    have h6:OwnT base w1 e k v1 (m+1) (updT vals m cs):=by
      refine ⟨fun i hi=> ?_,?_⟩
      · by_cases h:i=m
        · subst h;rw [updT_at];exact hcs
        · rw [updT_lt _ _ (by omega)];exact hown.1 i (by omega)
      · rw [flat_succ,updT_at,flat_congr (v2:=vals) (fun i hi=>updT_lt vals cs hi)]
        exact h4
    obtain ⟨A,c2,rfl⟩:=h6.form;exact ⟨A,c2,rfl,h2,h3,h6⟩
end
theorem fold_set: ∀(vs:List Value) (pre suf:List Value),suf.length=vs.length→(vs.zipIdx pre.length).foldl (fun cs (x:Value×Nat)=>cs.setIfInBounds (0+x.2) x.1) (pre++suf).toArray=(pre++vs).toArray
  | [],pre,[],_=>rfl
  | v::vs,pre,u::suf,h=>by
    rw [List.zipIdx_cons,List.foldl_cons];have h2:(pre++u::suf).toArray.setIfInBounds (0+pre.length) v=((pre++ [v])++suf).toArray:=by simp
    have h3:=fold_set vs (pre++ [v]) suf (by simpa using h);rw [List.length_append,List.length_singleton] at h3;rw [h2,h3];simp
theorem fill_one {k:Nat} {base:Array Value} {v:Value} (hv:v.cells.size=k) (hb:base.size=k):Instr.fill (fun i=>some (i*k,k)) base [(0,v)]=some v.cells:=by
  unfold Instr.fill;simp only [Nat.zero_mul,Nat.zero_add];rw [if_neg (by simp [hv,hb])];unfold Instr.fill;have h:=fold_set v.cells.toList [] base.toList (by simp [hv,hb]);simp only [List.length_nil,List.nil_append] at h;rw [← Array.foldl_toList,Array.toList_zipIdx]
  simpa using h
section
variable {P:Program} {ops:Array Oper} {Q:Exit→Act→World→Prop} {o:Oper} {T:Array Value} {ds:List Deferred} {n:Nat} {l:List (Nat×Value)} {w:World}
theorem rb1 {t e k:Nat} {x:Operand} {v:Value} {C:Array Value} (E:Env T n l) (ho:o.op= .buildSlice t 1 #[(0,x)]:=by rfl) (hg:o.guard=none:=by rfl) (hx:ev l x=some v:=by rfl)
    (ht:underB P t (isSlice e)=true:=by kernel_rfl) (he:(P.info? e).map (fun i=>(i.size,i.zero.map (fun z=>z.cells.size)))=some (k,some k):=by kernel_rfl) (hk:(Nat.ble k 16777216 && !(k==0))=true:=by kernel_rfl) (hc:v.cells=C:=by rfl) (hs:C.size=k:=by rfl):
    Ru P ops Q o ⟨T,ds⟩ w (fun u w1=> ∃g,u= .slice (some ⟨g,0,none⟩) 1 1∧Mv [] 0 w w1∧w.heap.size≤g∧g=w.heap.size∧w1.heap[g]? =some (.cells C e (0,0))):=by
  cases hi:P.info? e with
  | none=>rw [hi] at he;cases he
  | some ie=>
    cases hz:ie.zero with
    | none=>rw [hi] at he;simp [hz] at he
    | some z=>
      rw [hi] at he;simp only [Option.map_some,hz,Option.some.injEq,Prod.mk.injEq] at he;have hf:Instr.fill (fun i=>some (i*k,k)) ((Array.range (1*k)).map (z.cells[· % z.cells.size]!)) [(0,v)]=some C:=by
        rw [← hc];exact fill_one (by rw [hc,hs]) (by simp)
      exact ru_buildSlice (parts:=[(0,x)]) (vs:=[(0,v)]) E ho hg (by simp [hx]) ht (by rw [hi,Option.map_some,hz,he.1]) (by simpa using hk) hf
theorem dv_index {t e m i:Nat} {x y:Operand} {ky:IntKind} {cs:Array Value} {v:Value} (E:Env T n l) (ho:o.op= .index t x y) (hx:ev l x=some (.agg cs)) (hy:ev l y=some (.int ky (i:Int))) (hs:underB P t (isArrE m e)=true) (ha:aggB P e false=true) (hz:(P.info? e).map (·.size)=some 1) (hi:i<m) (hv:cs[i]? =some v):Dv P o ⟨T,ds⟩ w v w:=by
  refine dv_of (by unfold execOp;rw [ho]) ?_;simp only [E.ev hx ds,E.ev hy ds];unfold underB at hs;cases hu:P.underlying t with
  | none=>rw [hu] at hs;cases hs
  | some d=>
    rw [hu] at hs;cases d <;> simp only [isArrE,Bool.false_eq_true] at hs
    rename_i len e2;simp only [Bool.and_eq_true,beq_iff_eq] at hs;obtain ⟨rfl,rfl⟩:=hs;have h3:(part e2 cs i).run P w= .ok v w:=run_part ha hv;cases hi2:P.info? e2 with
    | none=>rw [hi2] at hz;cases hz
    | some inf=>
      rw [hi2] at hz;have h2:inf.size=1:=by simpa using hz
      simp [part,sizeOf,typeInfo,hi2,h2,go_sem] at h3;simp [Instr.index,asIntOf,run_under hu,hi,sizeOf,typeInfo,hi2,h2,go_sem];exact h3
theorem flat_at {w:World} {t k m:Nat} {ad:Addr} {vals:Nat→Array Value} (h:Tab w t (some ad) k m vals) (hk: ∀i,i<m→(vals i).size=k) (h0:0<k) (j:Nat) (u:Value) (hu:(flat m vals)[j]? =some u):w.cell? (ad.add j)=some u:=by
  have hl:=flat_len hk;have hj:j<m*k:=by rw [← hl];exact (List.getElem?_eq_some_iff.1 hu).1
  have hi:j / k<m:=by rw [Nat.div_lt_iff_lt_mul h0];exact hj
  have hr:j % k<k:=Nat.mod_lt _ h0;have h1:=flat_get hk hi hr;have hd:j / k*k+j % k=j:=by rw [Nat.mul_comm];exact Nat.div_add_mod j k
  rw [hd,hu] at h1;obtain ⟨g,o,cs,fr,ha,hg,hc⟩:=h (Nat.lt_of_le_of_lt (Nat.zero_le _) hi);have h2:=hc _ hi _ hr;rw [hd,← h1] at h2;obtain rfl:ad=⟨g,o,none⟩:=Option.some.inj ha;rw [add_plain];exact cell_of hg h2
theorem ru_appTab {t t2 e k by_ m c:Nat} {z:Value} {s x:Operand} {ad:Addr} {vals:Nat→Array Value} (E:Env T n l) (ho:o.op= .call {callee:= .builtin .append,args:=#[s,x],argTypes:=#[t,t]}) (hg:o.guard=none) (hs:ev l s=some (.slice none 0 0)) (hx:ev l x=some (.slice (some ad) m c))
    (ht:underB P t (isSlice e)=true) (hi:infoB P e k by_ z) (hz:z.cells.size=k) (hk:0<k) (htab:Tab w t2 (some ad) k m vals) (hv: ∀i,i<m→(vals i).size=k∧(vals i).toList.all (·.oneCell')=true) (hm:m<140737488355328 / by_-1) (hby:0<by_):
    Ru P ops Q o ⟨T,ds⟩ w (fun v1 w1=> ∃A c,v1= .slice A m c∧Mv [] 0 w w1∧OwnT w.heap.size w1 e k (.slice A m c) m vals):=by
  have hm2:m≤140737488355328 / by_:=by omega
  have hm3:m*by_≤140737488355328:=Nat.le_trans (Nat.mul_le_mul_right _ hm2) (Nat.div_mul_le_self _ _);have hm4:m≤m*by_:=Nat.le_mul_of_pos_right _ hby
  have hsz: ∀i,i<m→(vals i).size=k:=fun i hi=>(hv i hi).1;refine (ru_append (base:=w.heap.size) (m0:=0) (m:=m) (xs:=[]) (news:=flat m vals) E ho hg hs hx ht hi hz hk (World.ownsRow_nil w _ e k) (flat_len hsz) (flat_at htab hsz hk) (fun u hu=> ?_) (by simp only [maxLen];omega) (by rw [Nat.zero_add];exact hm3) (Nat.le_refl _)).mono ?_
  · unfold flat at hu
    obtain ⟨i,hi,hu⟩:=List.mem_flatMap.1 hu;exact List.all_eq_true.1 (hv i (List.mem_range.1 hi)).2 u hu
  · rintro v1 w1 ⟨h2,h3,h4,h5⟩
    rw [Nat.zero_add,List.nil_append] at h4;have h6:OwnT w.heap.size w1 e k v1 m vals:=⟨hsz,h4⟩;obtain ⟨A,c2,rfl⟩:=h6.form;exact ⟨A,c2,rfl,Mv.of_below ⟨h3.os,h3.tape,h3.output,h3.size,fun i hi=>h3.block i hi (by simp [Value.ownBlock])⟩ _ _,h6⟩
theorem fill_ones {base:Array Value} {vs:List Value} (h1: ∀v∈vs,v.cells=#[v]) (hb:base.size=vs.length):Instr.fill (fun i=>some (i*1,1)) base (vs.zipIdx.map fun x=>(x.2,x.1))=some vs.toArray:=by
  obtain ⟨r,hr,hs,hk⟩:=Go.Great.fill_dense (s:=1) (by decide) vs 0 base (fun v hv=>by rw [h1 v hv];rfl) (by omega);rw [hr]
  congr 1
  apply Array.ext_getElem?;intro k;rw [hk k];by_cases hlt:k<vs.length
  · rw [if_pos (by omega),Nat.div_one,Nat.sub_zero,Nat.mod_one]
    have hm:vs[k]? =some vs[k]:=List.getElem?_eq_getElem hlt;rw [hm,Option.bind_some,h1 _ (List.getElem_mem hlt)];simp [hlt]
  · rw [if_neg (by omega)]
    simp only [List.getElem?_toArray,List.getElem?_eq_none (Nat.le_of_not_lt hlt)];exact Array.getElem?_eq_none (by omega)
theorem rbN {t e m:Nat} {parts:List (Nat×Operand)} (vs:List Value) (E:Env T n l) (ho:o.op= .buildSlice t m parts.toArray:=by rfl) (hg:o.guard=none:=by rfl) (hv:parts.map (fun p=>(p.1,ev l p.2))=vs.zipIdx.map (fun x=>(x.2,some x.1)):=by rfl)
    (ht:underB P t (isSlice e)=true:=by kernel_rfl) (he:(P.info? e).map (fun i=>(i.size,i.zero.map (fun z=>z.cells.size)))=some (1,some 1):=by kernel_rfl) (hk:(Nat.ble m 16777216 && !(m==0))=true:=by kernel_rfl) (hl:vs.length=m:=by rfl) (h1: ∀v∈vs,v.cells=#[v]:=by simp [Value.cells]):
    Ru P ops Q o ⟨T,ds⟩ w (fun u w1=> ∃g,u= .slice (some ⟨g,0,none⟩) m m∧Mv [] 0 w w1∧w.heap.size≤g∧g=w.heap.size∧w1.heap[g]? =some (.cells vs.toArray e (0,0))):=by
  cases hi:P.info? e with
  | none=>rw [hi] at he;cases he
  | some ie=>
    cases hz:ie.zero with
    | none=>rw [hi] at he;simp [hz] at he
    | some z=>
      rw [hi] at he;simp only [Option.map_some,hz,Option.some.injEq,Prod.mk.injEq] at he;exact ru_buildSlice (parts:=parts) (vs:=vs.zipIdx.map fun x=>(x.2,x.1)) E ho hg (by rw [hv,List.map_map];rfl) ht (by rw [hi,Option.map_some,hz,he.1]) (by simpa using hk) (fill_ones h1 (by simp [hl]))
end
def TB (w:World) (e g k n:Nat) (vals:Nat→Array Value):Prop:=∃cur:Array Value,w.heap[g]? =some (.cells cur e (0,0))∧n*k≤cur.size∧∀i,i<n→∀j,j<k→cur[i*k+j]? =(vals i)[j]?
section
variable {w w1 w0 W:World} {e g k n b:Nat} {σ:List Nat} {vals:Nat→Array Value}
theorem TB.tab (h:TB w e g k n vals):Tab w e (some ⟨g,0,none⟩) k n vals:=fun _=>by
  obtain ⟨cur,h1,h2,h3⟩:=h;exact ⟨g,0,cur,(0,0),rfl,h1,fun i hi j hj=>by rw [Nat.zero_add];exact h3 i hi j hj⟩
theorem TB.lt (h:TB w e g k n vals):g<w.heap.size:=by
  obtain ⟨cur,h1,_⟩:=h;exact heap_lt h1
theorem TB.mv (h:TB w e g k n vals) (m:Mv σ b w w1) (hs:σ.contains e=false):TB w1 e g k n vals:=by
  obtain ⟨cur,h1,h2⟩:=h;exact ⟨cur,m.blk h1 hs,h2⟩
theorem TB.congr {v2:Nat→Array Value} (h:TB w e g k n vals) (hf: ∀i,i<n→vals i=v2 i):TB w e g k n v2:=by
  obtain ⟨cur,h1,h2,h3⟩:=h;exact ⟨cur,h1,h2,fun i hi j hj=>by rw [← hf i hi];exact h3 i hi j hj⟩
theorem OwnT.tb {base m c:Nat} {A:Option Addr} (h:OwnT base w e k (.slice A m c) n vals) (hn:0<n): ∃g,A=some ⟨g,0,none⟩∧base≤g∧TB w e g k n vals:=by
  rcases h.2.2 with ⟨h1,h2⟩ | ⟨g,cap,cur,hv,hb,hg,hnc,hcm,hcs,htk⟩
  · omega
  · injection hv with h1 h2 h3
    have hl:(flat n vals).length=n*k:=flat_len h.1;have hl2:n*k≤cur.size:=by
      have:=congrArg List.length htk;simp only [List.length_take,Array.length_toList,hl] at this;omega
    refine ⟨g,h1,hb,cur,hg,hl2,fun i hi j hj=> ?_⟩;rw [← flat_get h.1 hi hj,← htk,List.getElem?_take];have:i*k+j<n*k:=by
      have h4:(i+1)*k≤n*k:=Nat.mul_le_mul_right k (by omega);rw [Nat.succ_mul] at h4;omega
    rw [if_pos this];simp
def Jt (e g k n:Nat) (w0:World) (vals:Nat→Array Value) (W:World):Prop:=Mv [e] g w0 W∧(∀b x,w0.heap[b]? =some x→b≠g→W.heap[b]? =some x)∧TB W e g k n vals
theorem J0.row (h:J0 w0 W) (ht:TB w0 e g k n vals):Jt e g k n w0 vals W:=by
  have h0:Mv [] 0 w0 W:=h;exact ⟨mv0 (Mv.refl _ _ _) h0,fun b x hx hne=>h0.obj hx rfl,ht.mv h0 rfl⟩
theorem Jt.row {P:Program} {ops:Array Oper} {Q:Exit→Act→World→Prop} {o:Oper} {T:Array Value} {ds:List Deferred} {m:Nat} {l:List (Nat×Value)} {t i:Nat} {x y:Operand} {vs:Array Value} (h:Jt e g k n w0 vals W) (E:Env T m l) (ho:o.op= .store t x y) (hg:o.guard=none) (hx:ev l x=some (.pointer (some (adr (some ⟨g,0,none⟩) (i*k))))) (hy:ev l y=some (.agg vs))
    (h1:vs.toList.all (·.oneCell')=true) (ht:(P.info? t).map (·.size)=some k) (hk:vs.size=k) (hi:i<n):Ru P ops Q o ⟨T,ds⟩ W (fun v w1=>Jt e g k n w0 (updT vals i vs) w1):=by
  obtain ⟨e1,n1,cur,hb,hs,hv⟩:=h;have h4:(i+1)*k≤n*k:=Nat.mul_le_mul_right k (by omega);rw [Nat.succ_mul] at h4;have hx2:ev l x=some (.pointer (some ⟨g,0+i*k,none⟩)):=by
    rw [hx];show some (Value.pointer (some ((⟨g,0,none⟩:Addr).add (i*k))))=_;rw [add_plain]
  have hp:=putRow_get cur (0+i*k) vs.toList 0 cur (fun _ _=>trivial);refine Ru.k (dk_storeRow (i:=0+i*k) E ho hx2 hy h1 ht hk hb (by omega)) hg ⟨e1.trans (mv_setBlk hb),fun b x hx hne=>setBlk_keep (n1 b x hx hne) hne,putRow cur (0+i*k) vs.toList,setBlk_at (heap_lt hb),by unfold putRow;rw [(hp 0).1];exact hs,fun i2 hi2 j hj=> ?_⟩;unfold putRow;rw [(hp _).2];by_cases e2:i2=i
  · subst e2
    rw [updT_at,if_pos ⟨by omega,by simp only [Array.length_toList];omega,by omega⟩,show i2*k+j-(0+i2*k+0)=j by omega];simp
  · have hu:updT vals i vs i2=vals i2:=if_neg e2
    rw [hu,if_neg,hv i2 hi2 j hj];simp only [Array.length_toList];rintro ⟨h5,h6,h7⟩;rcases Nat.lt_or_ge i2 i with h8 | h8
    · have h9:(i2+1)*k≤i*k:=Nat.mul_le_mul_right k (by omega)
      rw [Nat.succ_mul] at h9;omega
    · have h9:(i+1)*k≤i2*k:=Nat.mul_le_mul_right k (by omega)
      rw [Nat.succ_mul] at h9;omega
end
theorem wanted_offU {ops:Array Oper} {o oj:Oper} {T:Array Value} {n j dj:Nat} {b:Bool} {l:List (Nat×Value)} (E:Env T n l) (hg:o.guard=some (j,b)) (hj:ops[j]? =some oj) (hdj:oj.dst=some dj) (hv:lk l dj=some undef):Region.wanted o (yielded ops T)=false:=by
  have h1:=E.get hv;simp [Region.wanted,hg,yielded,hj,hdj,h1,undef]
section
variable {P:Program} {ops:Array Oper} {Q:Exit→Act→World→Prop} {o oj:Oper} {rest:List Oper} {T:Array Value} {ds:List Deferred} {n d j dj:Nat} {l:List (Nat×Value)} {w w1:World} {v:Value} {a:Act}
theorem en {f:FuncId} {fn:Func} {c:Code} {args:List Value} {R:Value→World→Prop} (n:Nat) (hf:P.funcs[f]? =some fn) (k: ∀T,Env T n (lits args 0)→c.wp P (Post P fn R) ⟨T,[]⟩ w) (hb:fn.body=some c:=by exact rfl) (hn:(fn.ntmps==n && Nat.ble args.length n)=true:=by exact rfl):Ret P f args.toArray w R:=enter hf hb hn k
theorem sk {x y:Code} (h: ∀K:Act→World→Prop,(∀a w,y.wp P Q a w→K a w)→x.wp P (Exit.then K Q) a w):(Code.seq x y).wp P Q a w:=wp_seq_k h
theorem sq {id:Nat} {lo:List Oper} {y:Code} (h:wpList P lo.toArray (Exit.then (y.wp P Q) Q) lo a w):(Code.seq (Code.region id lo.toArray false) y).wp P Q a w:=wp_seq (wp_region_lit h)
theorem nq {y:Code} (h:y.wp P Q a w) (e:rest.isEmpty=true:=by with_unfolding_all exact rfl):wpList P ops (Exit.then (y.wp P Q) Q) rest a w:=by
  obtain rfl:=List.isEmpty_iff.1 e;exact h
theorem Env.sb {r:List (Nat×Value)} (E:Env T n l) (h:Lks l r:=by repeat (first | exact trivial | refine ⟨rfl,?_⟩)):Env T n r:=E.sub h
theorem cl {f:FuncId} {fn:Func} {az:List Operand} {ts:Array TypeId} {args:List Value} {R:Value→World→Prop} (E:Env T n l) (hf:P.funcs[f]? =some fn) (h:Ret P f args.toArray w R)
    (k: ∀v w1,R v w1→∀T1,Env T1 n ((d,v)::l)→wpList P ops Q rest ⟨T1,ds⟩ w1) (hg:Region.wanted o (yielded ops T)=true:=by exact rfl) (ho:o.op= .call {callee:= .value (.func f),args:=az.toArray,argTypes:=ts}:=by exact rfl) (hargs:az.map (ev l)=args.map some:=by exact rfl) (hnm:(fn.name== "runtime.NumGoroutine")=false:=by kernel_rfl) (hb:fn.body.isSome=true:=by exact rfl) (hd:o.dst=some d:=by exact rfl) (hn:Nat.blt d n=true:=by exact rfl):wpList P ops Q (o::rest) ⟨T,ds⟩ w:=seq_r E (rr E hf h hg ho hargs hnm hb) hd hn k
theorem sr0 {R:Value→World→Prop} (E:Env T n l) (h:Ru P ops Q o ⟨T,ds⟩ w R) (k: ∀v w1,R v w1→wpList P ops Q rest ⟨T,ds⟩ w1) (hd:o.dst=none:=by exact rfl):wpList P ops Q (o::rest) ⟨T,ds⟩ w:=seq_r0 E h hd k
theorem sst {g t:Nat} {cs cs2:Array Value} (h:Dk P o ⟨T,ds⟩ w (setBlk w g cs2 t)) (k: ∀w1,Mv [t] g w w1→(∀b x,w.heap[b]? =some x→b≠g→w1.heap[b]? =some x)→w1.heap[g]? =some (.cells cs2 t (0,0))→wpList P ops Q rest ⟨T,ds⟩ w1) (hb:w.heap[g]? =some (.cells cs t (0,0)):=by assumption) (hg:o.guard=none:=by exact rfl) (hd:o.dst=none:=by exact rfl):wpList P ops Q (o::rest) ⟨T,ds⟩ w:=seq_st h hg hd k hb
theorem ral {t:TypeId} (z:Value) (hz:(P.info? t).bind (·.zero)=some z:=by kernel_rfl) (ho:o.op= .alloc t:=by exact rfl) (hg:o.guard=none:=by exact rfl):
    Ru P ops Q o ⟨T,ds⟩ w (fun v w1=> ∃g,v= .pointer (some ⟨g,0,none⟩)∧Mv [] 0 w w1∧w.heap.size≤g∧g=w.heap.size∧w1.heap[g]? =some (.cells z.cells t (0,0))):=ru_alloc ho hg hz
theorem rbx {t:TypeId} {x:Operand} {v:Value} (E:Env T n l) (ho:o.op= .box t x:=by exact rfl) (hg:o.guard=none:=by exact rfl) (hx:ev l x=some v:=by exact rfl):
    Ru P ops Q o ⟨T,ds⟩ w (fun u w1=> ∃g,u= .pointer (some ⟨g,0,none⟩)∧Mv [] 0 w w1∧w.heap.size≤g∧g=w.heap.size∧w1.heap[g]? =some (.cells v.cells t (0,0))):=ru_box E ho hg hx
theorem ot0 {w w1 w2:World} {g:Nat} (h: ∀b x,w.heap[b]? =some x→b≠g→w1.heap[b]? =some x) (e:Mv [] 0 w1 w2): ∀b x,w.heap[b]? =some x→b≠g→w2.heap[b]? =some x:=fun b x hx hne=>e.obj (h b x hx hne) rfl
theorem ot1 {w w1 w2:World} {g:Nat} (h: ∀b x,w.heap[b]? =some x→b≠g→w1.heap[b]? =some x) (n: ∀b x,w1.heap[b]? =some x→b≠g→w2.heap[b]? =some x): ∀b x,w.heap[b]? =some x→b≠g→w2.heap[b]? =some x:=fun b x hx hne=>n b x (h b x hx hne) hne
theorem ot2 {w w1 w2:World} {g:Nat} (h: ∀b x,w.heap[b]? =some x→b≠g→w1.heap[b]? =some x) {σ:List Nat} {base:Nat} (e:Mv σ base w1 w2) (hb:w.heap.size≤base): ∀b x,w.heap[b]? =some x→b≠g→w2.heap[b]? =some x:=fun b x hx hne=>e.blkLt (h b x hx hne) (Nat.lt_of_lt_of_le (heap_lt hx) hb)
abbrev Iw (x:Int):Value:= .int .i64 x
abbrev Uw (x:Int):Value:= .int .u32 x
abbrev Pt (g:Nat):Value:= .pointer (some ⟨g,0,none⟩)
abbrev Pp (g o:Nat):Value:= .pointer (some ⟨g,o,none⟩)
abbrev Kv {a:Value} (r:List Qx):List Qx:=kv a::r
abbrev Kv2 {a b:Value} (r:List Qx):List Qx:=kv a::kv b::r
abbrev Kv4 {a b c d:Value} (r:List Qx):List Qx:=kv a::kv b::kv c::kv d::r
abbrev Kv8 {a b c d e f g h:Value} (r:List Qx):List Qx:=kv a::kv b::kv c::kv d::kv e::kv f::kv g::kv h::r
theorem Cb {b c:Bool} (h:b=c):some (Value.bool b)=some (.bool c):=by rw [h]
structure Fu (n:List Nat):Prop where
  h:n=n
theorem Fu.t (x:Nat) {r:List Nat} (h:Fu (x::r)):Fu r:=⟨rfl⟩
theorem Fu.k (x k:Nat) {r:List Nat} (h:Fu ((k+x)::r)):Fu r:=⟨rfl⟩
theorem dx {t f i g off q:Nat} {x:Operand} {r:List Nat} (c:Nat) (F:Fu ((off+c)::r)) (E:Env T n l) (ho:o.op= .fieldAddr t x f:=by exact rfl) (hx:ev l x=some (.pointer (some ⟨g,i,none⟩)):=by exact rfl) (hf:fieldB P t f off=true:=by kernel_rfl) (hq:i+off=q:=by first | exact Nat.zero_add _ | exact Nat.add_zero _ | exact rfl):Dv P o ⟨T,ds⟩ w (.pointer (some ⟨g,q,none⟩)) w:=
  dv_fieldAddr off E ho hx hf (by
    subst hq;show Addr.add ⟨g,i,none⟩ off=_;unfold Addr.add
    split
    · rename_i h;subst h;rfl
    · rfl)
theorem dl' {t g i tb:Nat} {x:Operand} {v:Value} {cs:Array Value} {fr:Nat×Nat} (E:Env T n l) (ho:o.op= .load t x:=by exact rfl) (hx:ev l x=some (.pointer (some ⟨g,i,none⟩)):=by exact rfl) (ht:aggB P t false=true:=by kernel_rfl) (hb:w.heap[g]? =some (.cells cs tb fr):=by assumption) (hi:cs[i]? =some v:=by exact rfl):Dv P o ⟨T,ds⟩ w v w:=dv_load E ho hx ht (cell_of hb hi)
theorem dL {w0:World} {σ:List Nat} {b t g i tb:Nat} {x:Operand} {v:Value} {cs:Array Value} {fr:Nat×Nat} (e:Mv σ b w0 w) (E:Env T n l) (ho:o.op= .load t x:=by exact rfl) (hx:ev l x=some (.pointer (some ⟨g,i,none⟩)):=by exact rfl) (ht:aggB P t false=true:=by kernel_rfl) (hb:w0.heap[g]? =some (.cells cs tb fr):=by assumption) (hi:cs[i]? =some v:=by exact rfl) (hc:σ.contains tb=false:=by exact rfl):Dv P o ⟨T,ds⟩ w v w:=dv_load E ho hx ht (cell_of (e.blk hb hc) hi)
theorem dA {t g tb:Nat} {x:Operand} {vs:Array Value} (E:Env T n l) (hb:w.heap[g]? =some (.cells vs tb (0,0))) (ho:o.op= .load t x:=by exact rfl) (hx:ev l x=some (.pointer (some ⟨g,0,none⟩)):=by exact rfl) (ht:aggB P t true=true:=by kernel_rfl) (hk:(P.info? t).map (·.size)=some vs.size:=by kernel_rfl):Dv P o ⟨T,ds⟩ w (.agg vs) w:=dv_loadAll E ho hx ht hk rfl hb
theorem dI {t m c N t0 k2:Nat} {x y:Operand} {ky:IntKind} {vals:Nat→Array Value} (A:Option Addr) (k i j:Nat) (E:Env T n l) (h:Tab w t0 A k2 N vals) (ho:o.op= .indexAddr t x y:=by exact rfl) (hx:ev l x=some (.slice A m c):=by exact rfl) (hy:ev l y=some (.int ky (i:Int)):=by exact rfl) (hs:sliceB P t k=true:=by kernel_rfl) (hi:i<m:=by omega) (h0:0<N:=by omega) (hj:i*k=j:=by exact rfl):Dv P o ⟨T,ds⟩ w (.pointer (some (adr A j))) w:=dv_indexA E ho hx hy hs hi (h.sure h0) hj
theorem dp {t t2:TypeId} {x y:Operand} {a b:Int} (E:Env T n l) (ho:o.op= .binOp .add t x y t2:=by exact rfl) (hx:ev l x=some (.int .i64 a):=by exact rfl) (hy:ev l y=some (.int .i64 b):=by exact rfl) (h0: -9223372036854775808≤a+b:=by omega) (h1:a+b<9223372036854775808:=by omega):Dv P o ⟨T,ds⟩ w (.int .i64 (a+b)) w:=dv_add E ho hx hy (wrap_i64 h0 h1)
theorem dq {t t2:TypeId} {x y:Operand} (a b:Nat) (E:Env T n l) (ho:o.op= .binOp .add t x y t2:=by exact rfl) (hx:ev l x=some (.int .i64 (a:Int)):=by exact rfl) (hy:ev l y=some (.int .i64 (b:Int)):=by exact rfl) (h:a+b<9223372036854775808:=by omega):Dv P o ⟨T,ds⟩ w (.int .i64 ((a+b:Nat):Int)) w:=dv_add E ho hx hy (nk_add h)
theorem dci64 {a b:Nat} {k0:IntKind} {x:Operand} {p:Int} (E:Env T n l) (ho:o.op= .convert a b x:=by exact rfl) (hx:ev l x=some (.int k0 p):=by exact rfl) (ha:underB P a isInts=true:=by kernel_rfl) (hb:underB P b (isInt .i64)=true:=by kernel_rfl) (h0: -9223372036854775808≤p:=by omega) (h1:p<9223372036854775808:=by omega):Dv P o ⟨T,ds⟩ w (.int .i64 p) w:=dv_cvt E ho hx ha hb (wrap_i64 h0 h1)
theorem dci32 {a b:Nat} {k0:IntKind} {x:Operand} {p:Int} (E:Env T n l) (ho:o.op= .convert a b x:=by exact rfl) (hx:ev l x=some (.int k0 p):=by exact rfl) (ha:underB P a isInts=true:=by kernel_rfl) (hb:underB P b (isInt .i32)=true:=by kernel_rfl) (h0: -2147483648≤p:=by omega) (h1:p<2147483648:=by omega):Dv P o ⟨T,ds⟩ w (.int .i32 p) w:=dv_cvt E ho hx ha hb (wrap_i32 h0 h1)
theorem dcu32 {a b:Nat} {k0:IntKind} {x:Operand} {p:Int} (E:Env T n l) (ho:o.op= .convert a b x:=by exact rfl) (hx:ev l x=some (.int k0 p):=by exact rfl) (ha:underB P a isInts=true:=by kernel_rfl) (hb:underB P b (isInt .u32)=true:=by kernel_rfl) (h0:0≤p:=by omega) (h1:p<4294967296:=by omega):Dv P o ⟨T,ds⟩ w (.int .u32 p) w:=dv_cvt E ho hx ha hb (wrap_u32 h0 h1)
theorem dcu64 {a b:Nat} {k0:IntKind} {x:Operand} {p:Int} (E:Env T n l) (ho:o.op= .convert a b x:=by exact rfl) (hx:ev l x=some (.int k0 p):=by exact rfl) (ha:underB P a isInts=true:=by kernel_rfl) (hb:underB P b (isInt .u64)=true:=by kernel_rfl) (h0:0≤p:=by omega) (h1:p<18446744073709551616:=by omega):Dv P o ⟨T,ds⟩ w (.int .u64 p) w:=dv_cvt E ho hx ha hb (wrap_u64 h0 h1)
theorem dS {t:Nat} {x y:Operand} {g:Nat} {cs:Array Value} {tb:Nat} (vs:List Value) (E:Env T n l) (hb:w.heap[g]? =some (.cells cs tb (0,0))) (ho:o.op= .store t x y:=by exact rfl) (hx:ev l x=some (.pointer (some ⟨g,0,none⟩)):=by exact rfl) (hy:ev l y=some (.agg vs.toArray):=by exact rfl) (h1:vs.all (·.oneCell')=true:=by exact rfl) (ht:(P.info? t).map (·.size)=some vs.length:=by kernel_rfl) (hi:cs.size=vs.length:=by exact rfl):Dk P o ⟨T,ds⟩ w (setBlk w g vs.toArray tb):=dk_storeAll E ho hx hy h1 ht rfl hb hi
theorem dR {t g tb:Nat} {x:Operand} {cs:Array Value} {fr:Nat×Nat} (k:Nat) (vs:List Value) (E:Env T n l) (hb:w.heap[g]? =some (.cells cs tb fr)) (ho:o.op= .load t x:=by exact rfl) (hx:ev l x=some (.pointer (some ⟨g,k,none⟩)):=by exact rfl) (ht:aggB P t true=true:=by kernel_rfl) (hk:(P.info? t).map (·.size)=some vs.length:=by kernel_rfl) (hv:(cs.toList.drop k).take vs.length=vs:=by exact rfl):Dv P o ⟨T,ds⟩ w (.agg vs.toArray) w:=dv_loadRow E ho hx ht hk (by simp) (fun j hj=>row_cells_at hb (fun j hj=>by
  have h:vs[j]? =((cs.toList.drop k).take vs.length)[j]? :=by rw [hv]
  have hj2:j<vs.length:=by simpa using hj
  rw [List.getElem?_take,if_pos hj2,List.getElem?_drop] at h
  simpa using h.symm) j (by simpa using hj))
theorem dk1 {t:Nat} {x y:Operand} {g i:Nat} {v:Value} {cs:Array Value} {tb:Nat} (E:Env T n l) (hb:w.heap[g]? =some (.cells cs tb (0,0))) (ho:o.op= .store t x y:=by exact rfl) (hx:ev l x=some (.pointer (some ⟨g,i,none⟩)):=by exact rfl) (hy:ev l y=some v:=by exact rfl) (h1:v.oneCell'=true:=by exact rfl) (ht:(P.info? t).map (·.size)=some 1:=by kernel_rfl) (hi:Nat.blt i cs.size=true:=by exact rfl):Dk P o ⟨T,ds⟩ w (setBlk w g (cs.setIfInBounds i v) tb):=dk_store E ho hx hy h1 ht hb hi
theorem dJ {t:Nat} {x y:Operand} {ky:IntKind} {a:Addr} {m c:Nat} (b:Addr) (k i:Nat) (E:Env T n l) (ho:o.op= .indexAddr t x y:=by exact rfl) (hx:ev l x=some (.slice (some a) m c):=by exact rfl) (hy:ev l y=some (.int ky (i:Int)):=by exact rfl) (hs:sliceB P t k=true:=by kernel_rfl) (hi:i<m:=by omega) (hb:a.add (i*k)=b:=by exact add_at (by omega)):Dv P o ⟨T,ds⟩ w (.pointer (some b)) w:=dv_indexAddr E ho hx hy hs hi hb
theorem dK {t:Nat} {x y:Operand} {ky:IntKind} {a:Addr} (m:Nat) (b:Addr) (k i:Nat) (E:Env T n l) (ho:o.op= .indexAddr t x y:=by exact rfl) (hx:ev l x=some (.pointer (some a)):=by exact rfl) (hy:ev l y=some (.int ky (i:Int)):=by exact rfl) (hs:underB P t (isArr m k P)=true:=by kernel_rfl) (hi:i<m:=by decide) (hb:a.add (i*k)=b:=by exact rfl):Dv P o ⟨T,ds⟩ w (.pointer (some b)) w:=dv_indexArr E ho hx hy hs hi hb
structure Hd (A:Prop):Prop where
  out:A
theorem gn {A B:Prop} (n:List Nat) (k:A) (h:Fu n→Hd A→B:=by
  intro f_ k_
  repeat
    first
      | (replace f_:=f_.t 4;refine nq ?_)
      | (replace f_:=f_.t 5;refine sq ?_)
      | (replace f_:=f_.t 14;refine c_t E rfl rfl ?_)
      | (replace f_:=f_.t 15;refine c_f E rfl rfl ?_)
      | (replace f_:=f_.t 16;refine wp_skip ?_)
      | (replace f_:=f_.t 17;refine wp_ret ?_;repeat with_reducible first | refine in_ret ?_ | refine then_ret ?_)
      | (replace f_:=f_.t 18;refine wp_block ?_)
      | (replace f_:=f_.t 21;refine wp_region_lit ?_)
      | (replace f_:=f_.t 22;refine wp_seq ?_)
  exact k_.out):B:=h ⟨rfl⟩ ⟨k⟩
theorem go {A B:Prop} (n:List Nat) (k:A) (h:Fu n→Hd A→B:=by
  intro f_ k_
  repeat
    first
      | (replace f_:=f_.t 0;refine sv E (dm E) fun T E=>?_)
      | (replace f_:=f_.t 1;refine sv E (da E) fun T E=>?_)
      | (have g_:=Fu.k 50 _ f_;refine sv E (dx 50 f_ E) fun T E=>?_;replace f_:=g_;clear g_)
      | (replace f_:=f_.t 4;refine nq ?_)
      | (replace f_:=f_.t 5;refine sq ?_)
      | (replace f_:=f_.t 2;refine sv E (dn E) fun T E=>?_)
      | (replace f_:=f_.t 3;refine sv E (dl' E) fun T E=>?_)
      | (replace f_:=f_.t 6;refine sv E (dv_lenSl E rfl rfl (by kernel_rfl)) fun T E=>?_)
      | (replace f_:=f_.t 7;refine sv E (dv_extract E rfl rfl rfl) fun T E=>?_)
      | (replace f_:=f_.t 8;refine sv E (dv_pickT E rfl rfl rfl rfl rfl) fun T E=>?_)
      | (replace f_:=f_.t 9;refine sv E (dv_pickF E rfl rfl rfl rfl rfl) fun T E=>?_)
      | (replace f_:=f_.t 10;refine sv E (dv_neqPtrNilS E rfl rfl rfl (by kernel_rfl)) fun T E=>?_)
      | (replace f_:=f_.t 11;refine sv E (dv_eqlPtrNilS E rfl rfl rfl (by kernel_rfl)) fun T E=>?_)
      | (replace f_:=f_.t 12;refine sv E (dv_neqPtrNilN E rfl rfl rfl (by kernel_rfl)) fun T E=>?_)
      | (replace f_:=f_.t 13;refine sv E (dv_eqlPtrNilN E rfl rfl rfl (by kernel_rfl)) fun T E=>?_)
      | (replace f_:=f_.t 23;refine sv E (dv_neqIfNilS E rfl rfl rfl (by kernel_rfl)) fun T E=>?_)
      | (replace f_:=f_.t 24;refine sv E (dv_eqlIfNilS E rfl rfl rfl (by kernel_rfl)) fun T E=>?_)
      | (replace f_:=f_.t 25;refine sv E (dv_neqIfNilN E rfl rfl rfl (by kernel_rfl)) fun T E=>?_)
      | (replace f_:=f_.t 26;refine sv E (dv_eqlIfNilN E rfl rfl rfl (by kernel_rfl)) fun T E=>?_)
      | (replace f_:=f_.t 14;refine c_t E rfl rfl ?_)
      | (replace f_:=f_.t 15;refine c_f E rfl rfl ?_)
      | (replace f_:=f_.t 16;refine wp_skip ?_)
      | (replace f_:=f_.t 17;refine wp_ret ?_;repeat with_reducible first | refine in_ret ?_ | refine then_ret ?_)
      | (replace f_:=f_.t 18;refine wp_block ?_)
      | (replace f_:=f_.t 21;refine wp_region_lit ?_)
      | (replace f_:=f_.t 22;refine wp_seq ?_)
      | (replace f_:=f_.t 19;refine seq_off (b:=true) E rfl rfl rfl rfl rfl rfl fun T E=>?_)
      | (replace f_:=f_.t 20;refine seq_off (b:=false) E rfl rfl rfl rfl rfl rfl fun T E=>?_)
      | (replace f_:=f_.t 30;refine seq_von E (dm E) rfl rfl rfl rfl rfl rfl fun T E=>?_)
      | (replace f_:=f_.t 31;refine seq_von E (da E) rfl rfl rfl rfl rfl rfl fun T E=>?_)
      | (replace f_:=f_.t 32;refine seq_von E (dn E) rfl rfl rfl rfl rfl rfl fun T E=>?_)
      | (replace f_:=f_.t 33;refine seq_von E (dl' E) rfl rfl rfl rfl rfl rfl fun T E=>?_)
      | (replace f_:=f_.t 36;refine seq_von E (dv_lenSl E rfl rfl (by kernel_rfl)) rfl rfl rfl rfl rfl rfl fun T E=>?_)
      | (replace f_:=f_.t 37;refine seq_von E (dv_extract E rfl rfl rfl) rfl rfl rfl rfl rfl rfl fun T E=>?_)
      | (replace f_:=f_.t 38;refine seq_von E (dv_pickT E rfl rfl rfl rfl rfl) rfl rfl rfl rfl rfl rfl fun T E=>?_)
      | (replace f_:=f_.t 39;refine seq_von E (dv_pickF E rfl rfl rfl rfl rfl) rfl rfl rfl rfl rfl rfl fun T E=>?_)
      | (replace f_:=f_.t 40;refine seq_von E (dv_neqPtrNilS E rfl rfl rfl (by kernel_rfl)) rfl rfl rfl rfl rfl rfl fun T E=>?_)
      | (replace f_:=f_.t 41;refine seq_von E (dv_eqlPtrNilS E rfl rfl rfl (by kernel_rfl)) rfl rfl rfl rfl rfl rfl fun T E=>?_)
      | (replace f_:=f_.t 42;refine seq_von E (dv_neqPtrNilN E rfl rfl rfl (by kernel_rfl)) rfl rfl rfl rfl rfl rfl fun T E=>?_)
      | (replace f_:=f_.t 43;refine seq_von E (dv_eqlPtrNilN E rfl rfl rfl (by kernel_rfl)) rfl rfl rfl rfl rfl rfl fun T E=>?_)
      | (have g_:=Fu.k 100 _ f_;refine seq_von E (dx 100 f_ E) rfl rfl rfl rfl rfl rfl fun T E=>?_;replace f_:=g_;clear g_)
  revert T E
  exact k_.out):B:=h ⟨rfl⟩ ⟨k⟩
theorem AllI.qs {xs:List Qx} {k m:Nat} (n:Nat) (h:AllI (fun i=>Stb (xAt xs i)) (k+n) m) (hq:(List.range n).all (fun i=>(xAt xs (k+i)).1.isSome)=true:=by exact rfl):AllI (fun i=>Stb (xAt xs i)) k (m+n):=fun i h1 h2=>by
  by_cases e:i<k+n
  · have h3:=List.all_eq_true.1 hq (i-k) (List.mem_range.2 (by omega))
    rw [show k+(i-k)=i from by omega] at h3;exact .inl h3
  · exact h i (by omega) (by omega)
theorem AllI.qa {xs:List Qx} {n:Nat} (hq:(List.range n).all (fun i=>(xAt xs (0+i)).1.isSome)=true:=by exact rfl):AllI (fun i=>Stb (xAt xs i)) 0 n:=by
  have:=AllI.qs (k:=0) (m:=0) n .nil hq
  rwa [Nat.zero_add] at this
theorem rgG {id:Nat} {lops:List Oper} {T0:Array Value} {l0:List (Nat×Value)} {w0:World} (n0:Nat) (xs:List Qx) (Ds:List (List Nat×List Nat)) (E0:Env T0 n l0)
    (step:AllI (fun i=> ∀T w,Mv [] 0 w0 w→Env T n (depL lops.toArray xs (Ds.getD i ([],[])).1++pick l0 (Ds.getD i ([],[])).2)→(∀j,(needs (opAt lops.toArray i)).contains j=true→Left lops.toArray (Rn (xs.map Rq)) j T w)→Ru P lops.toArray Q (opAt lops.toArray i) ⟨T,ds⟩ w (fun v w1=>Mv [] 0 w w1∧Rq (xAt xs i) v w1)) 0 n0)
    (fin: ∀T w,Mv [] 0 w0 w→(∀js ex,Hx T ex→coverB lops.toArray xs n0 js l0 (ex.map (·.1))=true→Env T n (ex++(depL lops.toArray xs js++l0)))→(∀j,Nat.blt j n0=true→Left lops.toArray (Rn (xs.map Rq)) j T w)→wpList P lops.toArray Q (lops.drop n0) ⟨T,ds⟩ w)
    (hst:AllI (fun i=>Stb (xAt xs i)) 0 n0:=by exact .qa) (hm:P.follows .mixedOrders=true:=by kernel_rfl) (hF:(formB lops.toArray n0 n && depsB lops.toArray n0 Ds)=true:=by kernel_rfl) (hx:Nat.ble n0 xs.length=true:=by exact rfl):
    (Code.region id lops.toArray true).wp P Q ⟨T0,ds⟩ w0:=rgE n0 xs Ds E0 hm (by rw [hF,hx];rfl) hst step fin
def Sk (Mk:World→World→Prop) (b:Bool) (x:Qx):Prop:=b=true∨x.1.isSome=true∨∀v w w1,x.2 v w→Mk w w1→x.2 v w1
theorem Sk.p {Mk:World→World→Prop} {b:Bool} {R:Value→World→Prop} (h: ∀v w w1,R v w→Mk w w1→R v w1):Sk Mk b (kp R):= .inr (.inr h)
theorem AllI.qk {Mk:World→World→Prop} {ks:Nat} {xs:List Qx} {k m:Nat} (n:Nat) (h:AllI (fun i=>Sk Mk (Nat.beq i ks) (xAt xs i)) (k+n) m) (hq:(List.range n).all (fun i=>(xAt xs (k+i)).1.isSome)=true:=by exact rfl):AllI (fun i=>Sk Mk (Nat.beq i ks) (xAt xs i)) k (m+n):=fun i h1 h2=>by
  by_cases e:i<k+n
  · have h3:=List.all_eq_true.1 hq (i-k) (List.mem_range.2 (by omega))
    rw [show k+(i-k)=i from by omega] at h3;exact .inr (.inl h3)
  · exact h i (by omega) (by omega)
def Mkw (t base:Nat) (w a b:World):Prop:=Mv [t] base a b∧∀q o,w.heap.size≤q→a.heap[q]? =some o→b.heap[q]? =some o
theorem rgX {id:Nat} {lops:List Oper} {T0:Array Value} {l0:List (Nat×Value)} {w0:World} (n0 ks:Nat) (σ:List Nat) (base:Nat) (Mk:World→World→Prop) (xs:List Qx) (Ds:List (List Nat×List Nat)) (E0:Env T0 n l0)
    (step:AllI (fun i=> ∀T w,Mv (bif Nat.beq i ks then [] else σ) (bif Nat.beq i ks then 0 else base) w0 w→Env T n (depL lops.toArray xs (Ds.getD i ([],[])).1++pick l0 (Ds.getD i ([],[])).2)→(∀j,(needs (opAt lops.toArray i)).contains j=true→Left lops.toArray (Rn (xs.map Rq)) j T w)→Ru P lops.toArray Q (opAt lops.toArray i) ⟨T,ds⟩ w (fun v w1=>(bif Nat.beq i ks then Mk w w1 else Mv [] 0 w w1)∧Rq (xAt xs i) v w1)) 0 n0)
    (fin: ∀T w,Mv σ base w0 w→(∀js ex,Hx T ex→coverB lops.toArray xs n0 js l0 (ex.map (·.1))=true→Env T n (ex++(depL lops.toArray xs js++l0)))→(∀j,Nat.blt j n0=true→Left lops.toArray (Rn (xs.map Rq)) j T w)→wpList P lops.toArray Q (lops.drop n0) ⟨T,ds⟩ w)
    (hst1:AllI (fun i=>Sk Mk (Nat.beq i ks) (xAt xs i)) 0 n0) (hst:AllI (fun i=>Stb (xAt xs i)) 0 n0:=by exact .qa) (hMk: ∀w w1,Mk w w1→Mv σ base w w1:=by exact fun _ _ m=>m.1) (hm:P.follows .mixedOrders=true:=by kernel_rfl) (hF:(formB lops.toArray n0 n && depsB lops.toArray n0 Ds)=true:=by kernel_rfl) (hx:Nat.ble n0 xs.length=true:=by exact rfl):
    (Code.region id lops.toArray true).wp P Q ⟨T0,ds⟩ w0:=by
  simp only [Bool.and_eq_true] at hF;obtain ⟨hF,hD⟩:=hF;have hx:n0≤xs.length:=by simpa using hx
  have F:=formB_spec hF;refine rgW n0 ks σ base Mk (xs.map Rq) E0 hm hF hMk (fun i h1 h2 v w w1 hr e=> ?_) (fun i h1 h2 hk v w w1 hr e=> ?_) (fun i h1 h2 T w hmv hT hO hN=> ?_) (fun T w hmv hT hO hN=> ?_)
  · rw [xAt_map (by omega)] at hr ⊢
    exact (hst i h1 h2).use hr e
  · rw [xAt_map (by omega)] at hr ⊢
    have h3:=hst1 i h1 h2;rcases h3 with h3 | h3 | h3
    · rw [hk] at h3;cases h3
    · unfold Rq at hr ⊢
      cases hc:(xAt xs i).1 with
      | none=>rw [hc] at h3;cases h3
      | some u=>rw [hc] at hr;exact hr
    · unfold Rq at hr ⊢
      cases hc:(xAt xs i).1 with
      | none=>rw [hc] at hr;exact h3 v w w1 hr e
      | some u=>rw [hc] at hr;exact hr
  · have hd:=List.all_eq_true.1 hD i (List.mem_range.2 (by omega))
    simp only [Bool.and_eq_true] at hd;rw [xAt_map (by omega)];exact step i h1 h2 T w (mvD hmv) (depE F hx E0 hT hO hN hd.1 hd.2) hN
  · exact fin T w (mvD hmv) (finE F hx E0 hT hO hN) hN
theorem dg {A B:Prop} (n:List Nat) (k:A) (h:Fu n→Hd A→B:=by
  intro f_ k_
  repeat
    first
      | (replace f_:=f_.t 0;refine .cons (fun T w_ e_ E hN=>Ru.d (dm E)) ?_)
      | (replace f_:=f_.t 1;refine .cons (fun T w_ e_ E hN=>Ru.d (da E)) ?_)
      | (have g_:=Fu.k 50 _ f_;refine .cons (fun T w_ e_ E hN=>Ru.d (dx 50 f_ E)) ?_;replace f_:=g_;clear g_)
      | (replace f_:=f_.t 19;refine .cons (fun T w_ e_ E hN=>Ru.qo (wanted_off (b:=true) E rfl rfl rfl rfl)) ?_)
      | (replace f_:=f_.t 20;refine .cons (fun T w_ e_ E hN=>Ru.qo (wanted_off (b:=false) E rfl rfl rfl rfl)) ?_)
      | (replace f_:=f_.t 2;refine .cons (fun T w_ e_ E hN=>Ru.d (dn E)) ?_)
      | (replace f_:=f_.t 3;refine .cons (fun T w_ e_ E hN=>Ru.d (dL e_ E)) ?_)
      | (replace f_:=f_.t 6;refine .cons (fun T w_ e_ E hN=>Ru.d (dv_lenSl E rfl rfl (by kernel_rfl))) ?_)
      | (replace f_:=f_.t 7;refine .cons (fun T w_ e_ E hN=>Ru.d (dv_extract E rfl rfl rfl)) ?_)
      | (replace f_:=f_.t 8;refine .cons (fun T w_ e_ E hN=>Ru.d (dv_pickT E rfl rfl rfl rfl rfl)) ?_)
      | (replace f_:=f_.t 9;refine .cons (fun T w_ e_ E hN=>Ru.d (dv_pickF E rfl rfl rfl rfl rfl)) ?_)
      | (replace f_:=f_.t 10;refine .cons (fun T w_ e_ E hN=>Ru.d (dv_neqPtrNilS E rfl rfl rfl (by kernel_rfl))) ?_)
      | (replace f_:=f_.t 11;refine .cons (fun T w_ e_ E hN=>Ru.d (dv_eqlPtrNilS E rfl rfl rfl (by kernel_rfl))) ?_)
      | (replace f_:=f_.t 12;refine .cons (fun T w_ e_ E hN=>Ru.d (dv_neqPtrNilN E rfl rfl rfl (by kernel_rfl))) ?_)
      | (replace f_:=f_.t 13;refine .cons (fun T w_ e_ E hN=>Ru.d (dv_eqlPtrNilN E rfl rfl rfl (by kernel_rfl))) ?_)
      | (replace f_:=f_.t 23;refine .cons (fun T w_ e_ E hN=>Ru.d (dv_neqIfNilS E rfl rfl rfl (by kernel_rfl))) ?_)
      | (replace f_:=f_.t 24;refine .cons (fun T w_ e_ E hN=>Ru.d (dv_eqlIfNilS E rfl rfl rfl (by kernel_rfl))) ?_)
      | (replace f_:=f_.t 25;refine .cons (fun T w_ e_ E hN=>Ru.d (dv_neqIfNilN E rfl rfl rfl (by kernel_rfl))) ?_)
      | (replace f_:=f_.t 26;refine .cons (fun T w_ e_ E hN=>Ru.d (dv_eqlIfNilN E rfl rfl rfl (by kernel_rfl))) ?_)
      | (replace f_:=f_.t 27;refine .cons (fun T w_ e_ E hN=>Ru.qo (wanted_offU E rfl rfl rfl rfl)) ?_)
      | (replace f_:=f_.t 30;refine .cons (fun T w_ e_ E hN=>Ru.qw (dm E) (wanted_on E rfl rfl rfl rfl)) ?_)
      | (replace f_:=f_.t 31;refine .cons (fun T w_ e_ E hN=>Ru.qw (da E) (wanted_on E rfl rfl rfl rfl)) ?_)
      | (replace f_:=f_.t 32;refine .cons (fun T w_ e_ E hN=>Ru.qw (dn E) (wanted_on E rfl rfl rfl rfl)) ?_)
      | (replace f_:=f_.t 33;refine .cons (fun T w_ e_ E hN=>Ru.qw (dL e_ E) (wanted_on E rfl rfl rfl rfl)) ?_)
      | (replace f_:=f_.t 36;refine .cons (fun T w_ e_ E hN=>Ru.qw (dv_lenSl E rfl rfl (by kernel_rfl)) (wanted_on E rfl rfl rfl rfl)) ?_)
      | (replace f_:=f_.t 37;refine .cons (fun T w_ e_ E hN=>Ru.qw (dv_extract E rfl rfl rfl) (wanted_on E rfl rfl rfl rfl)) ?_)
      | (replace f_:=f_.t 38;refine .cons (fun T w_ e_ E hN=>Ru.qw (dv_pickT E rfl rfl rfl rfl rfl) (wanted_on E rfl rfl rfl rfl)) ?_)
      | (replace f_:=f_.t 39;refine .cons (fun T w_ e_ E hN=>Ru.qw (dv_pickF E rfl rfl rfl rfl rfl) (wanted_on E rfl rfl rfl rfl)) ?_)
      | (replace f_:=f_.t 40;refine .cons (fun T w_ e_ E hN=>Ru.qw (dv_neqPtrNilS E rfl rfl rfl (by kernel_rfl)) (wanted_on E rfl rfl rfl rfl)) ?_)
      | (replace f_:=f_.t 41;refine .cons (fun T w_ e_ E hN=>Ru.qw (dv_eqlPtrNilS E rfl rfl rfl (by kernel_rfl)) (wanted_on E rfl rfl rfl rfl)) ?_)
      | (replace f_:=f_.t 42;refine .cons (fun T w_ e_ E hN=>Ru.qw (dv_neqPtrNilN E rfl rfl rfl (by kernel_rfl)) (wanted_on E rfl rfl rfl rfl)) ?_)
      | (replace f_:=f_.t 43;refine .cons (fun T w_ e_ E hN=>Ru.qw (dv_eqlPtrNilN E rfl rfl rfl (by kernel_rfl)) (wanted_on E rfl rfl rfl rfl)) ?_)
      | (have g_:=Fu.k 100 _ f_;refine .cons (fun T w_ e_ E hN=>Ru.qw (dx 100 f_ E) (wanted_on E rfl rfl rfl rfl)) ?_;replace f_:=g_;clear g_)
  exact k_.out):B:=h ⟨rfl⟩ ⟨k⟩
theorem dz {B:Prop} (n:List Nat) (h:Fu n→B:=by
  intro f_
  repeat
    first
      | (replace f_:=f_.t 0;refine .cons (fun T w_ e_ E hN=>Ru.d (dm E)) ?_)
      | (replace f_:=f_.t 1;refine .cons (fun T w_ e_ E hN=>Ru.d (da E)) ?_)
      | (have g_:=Fu.k 50 _ f_;refine .cons (fun T w_ e_ E hN=>Ru.d (dx 50 f_ E)) ?_;replace f_:=g_;clear g_)
      | (replace f_:=f_.t 19;refine .cons (fun T w_ e_ E hN=>Ru.qo (wanted_off (b:=true) E rfl rfl rfl rfl)) ?_)
      | (replace f_:=f_.t 20;refine .cons (fun T w_ e_ E hN=>Ru.qo (wanted_off (b:=false) E rfl rfl rfl rfl)) ?_)
      | (replace f_:=f_.t 2;refine .cons (fun T w_ e_ E hN=>Ru.d (dn E)) ?_)
      | (replace f_:=f_.t 3;refine .cons (fun T w_ e_ E hN=>Ru.d (dL e_ E)) ?_)
      | (replace f_:=f_.t 6;refine .cons (fun T w_ e_ E hN=>Ru.d (dv_lenSl E rfl rfl (by kernel_rfl))) ?_)
      | (replace f_:=f_.t 7;refine .cons (fun T w_ e_ E hN=>Ru.d (dv_extract E rfl rfl rfl)) ?_)
      | (replace f_:=f_.t 8;refine .cons (fun T w_ e_ E hN=>Ru.d (dv_pickT E rfl rfl rfl rfl rfl)) ?_)
      | (replace f_:=f_.t 9;refine .cons (fun T w_ e_ E hN=>Ru.d (dv_pickF E rfl rfl rfl rfl rfl)) ?_)
      | (replace f_:=f_.t 10;refine .cons (fun T w_ e_ E hN=>Ru.d (dv_neqPtrNilS E rfl rfl rfl (by kernel_rfl))) ?_)
      | (replace f_:=f_.t 11;refine .cons (fun T w_ e_ E hN=>Ru.d (dv_eqlPtrNilS E rfl rfl rfl (by kernel_rfl))) ?_)
      | (replace f_:=f_.t 12;refine .cons (fun T w_ e_ E hN=>Ru.d (dv_neqPtrNilN E rfl rfl rfl (by kernel_rfl))) ?_)
      | (replace f_:=f_.t 13;refine .cons (fun T w_ e_ E hN=>Ru.d (dv_eqlPtrNilN E rfl rfl rfl (by kernel_rfl))) ?_)
      | (replace f_:=f_.t 23;refine .cons (fun T w_ e_ E hN=>Ru.d (dv_neqIfNilS E rfl rfl rfl (by kernel_rfl))) ?_)
      | (replace f_:=f_.t 24;refine .cons (fun T w_ e_ E hN=>Ru.d (dv_eqlIfNilS E rfl rfl rfl (by kernel_rfl))) ?_)
      | (replace f_:=f_.t 25;refine .cons (fun T w_ e_ E hN=>Ru.d (dv_neqIfNilN E rfl rfl rfl (by kernel_rfl))) ?_)
      | (replace f_:=f_.t 26;refine .cons (fun T w_ e_ E hN=>Ru.d (dv_eqlIfNilN E rfl rfl rfl (by kernel_rfl))) ?_)
      | (replace f_:=f_.t 27;refine .cons (fun T w_ e_ E hN=>Ru.qo (wanted_offU E rfl rfl rfl rfl)) ?_)
      | (replace f_:=f_.t 30;refine .cons (fun T w_ e_ E hN=>Ru.qw (dm E) (wanted_on E rfl rfl rfl rfl)) ?_)
      | (replace f_:=f_.t 31;refine .cons (fun T w_ e_ E hN=>Ru.qw (da E) (wanted_on E rfl rfl rfl rfl)) ?_)
      | (replace f_:=f_.t 32;refine .cons (fun T w_ e_ E hN=>Ru.qw (dn E) (wanted_on E rfl rfl rfl rfl)) ?_)
      | (replace f_:=f_.t 33;refine .cons (fun T w_ e_ E hN=>Ru.qw (dL e_ E) (wanted_on E rfl rfl rfl rfl)) ?_)
      | (replace f_:=f_.t 36;refine .cons (fun T w_ e_ E hN=>Ru.qw (dv_lenSl E rfl rfl (by kernel_rfl)) (wanted_on E rfl rfl rfl rfl)) ?_)
      | (replace f_:=f_.t 37;refine .cons (fun T w_ e_ E hN=>Ru.qw (dv_extract E rfl rfl rfl) (wanted_on E rfl rfl rfl rfl)) ?_)
      | (replace f_:=f_.t 38;refine .cons (fun T w_ e_ E hN=>Ru.qw (dv_pickT E rfl rfl rfl rfl rfl) (wanted_on E rfl rfl rfl rfl)) ?_)
      | (replace f_:=f_.t 39;refine .cons (fun T w_ e_ E hN=>Ru.qw (dv_pickF E rfl rfl rfl rfl rfl) (wanted_on E rfl rfl rfl rfl)) ?_)
      | (replace f_:=f_.t 40;refine .cons (fun T w_ e_ E hN=>Ru.qw (dv_neqPtrNilS E rfl rfl rfl (by kernel_rfl)) (wanted_on E rfl rfl rfl rfl)) ?_)
      | (replace f_:=f_.t 41;refine .cons (fun T w_ e_ E hN=>Ru.qw (dv_eqlPtrNilS E rfl rfl rfl (by kernel_rfl)) (wanted_on E rfl rfl rfl rfl)) ?_)
      | (replace f_:=f_.t 42;refine .cons (fun T w_ e_ E hN=>Ru.qw (dv_neqPtrNilN E rfl rfl rfl (by kernel_rfl)) (wanted_on E rfl rfl rfl rfl)) ?_)
      | (replace f_:=f_.t 43;refine .cons (fun T w_ e_ E hN=>Ru.qw (dv_eqlPtrNilN E rfl rfl rfl (by kernel_rfl)) (wanted_on E rfl rfl rfl rfl)) ?_)
      | (have g_:=Fu.k 100 _ f_;refine .cons (fun T w_ e_ E hN=>Ru.qw (dx 100 f_ E) (wanted_on E rfl rfl rfl rfl)) ?_;replace f_:=g_;clear g_)
  exact .nil):B:=h ⟨rfl⟩
end
end Go.Proofs.YtlnknihjccdgkaaGreatDoor.X
namespace Go.Proofs.YtlnknihjccdgkaaGreatDoor.V
open Go.RowKit Go.Proofs.YtlnknihjccdgkaaGreatDoor.X
set_option linter.unusedVariables false
set_option linter.unusedSimpArgs false
set_option maxHeartbeats 4000000
set_option maxRecDepth 100000
theorem bit_shl (i:Nat) (h:i<12):IntKind.u64.wrap (1*2^(min ((i:Int)).toNat 64))=((2^i:Nat):Int):=by
  rcases i with _ | _ | _ | _ | _ | _ | _ | _ | _ | _ | _ | _ | i <;> first | rfl | omega
theorem ofInt_nat (x:Nat):BitVec.ofInt 64 (x:Int)=BitVec.ofNat 64 x:=by
  apply BitVec.eq_of_toNat_eq;simp [BitVec.toNat_ofInt]
theorem bits_and (x y:Nat) (hx:x<18446744073709551616) (hy:y<18446744073709551616):bits .and .u64 (x:Int) (y:Int)=((x &&& y:Nat):Int):=by
  have h:x &&& y≤x:=Nat.and_le_left;have h0:bits .and .u64 (x:Int) (y:Int)=IntKind.u64.wrap ((BitVec.ofInt 64 (x:Int) &&& BitVec.ofInt 64 (y:Int)).toNat:Int):=rfl;rw [h0,ofInt_nat,ofInt_nat,BitVec.toNat_and,BitVec.toNat_ofNat,BitVec.toNat_ofNat];rw [Nat.mod_eq_of_lt (by simpa using hx),Nat.mod_eq_of_lt (by simpa using hy)];exact wrap_u64 (by omega) (by omega)
theorem bits_or (x y:Nat) (hx:x<18446744073709551616) (hy:y<18446744073709551616):bits .or .u64 (x:Int) (y:Int)=((x ||| y:Nat):Int):=by
  have h:x ||| y<2^64:=Nat.or_lt_two_pow hx hy;have h0:bits .or .u64 (x:Int) (y:Int)=IntKind.u64.wrap ((BitVec.ofInt 64 (x:Int) ||| BitVec.ofInt 64 (y:Int)).toNat:Int):=rfl;rw [h0,ofInt_nat,ofInt_nat,BitVec.toNat_or,BitVec.toNat_ofNat,BitVec.toNat_ofNat];rw [Nat.mod_eq_of_lt (by simpa using hx),Nat.mod_eq_of_lt (by simpa using hy)];exact wrap_u64 (by omega) (by omega)
theorem pow_lt {i:Nat} (h:i<12):2^i<4096:=Nat.pow_lt_pow_right (by omega) h
theorem bit_or {x i:Nat} (hx:x<4096) (hi:i<12):bits .or .u64 (x:Int) ((2^i:Nat):Int)=((x ||| 2^i:Nat):Int):=by
  have h1:=pow_lt hi;exact bits_or x (2^i) (by omega) (by omega)
structure Bits (w:World) (gb ge n x:Nat):Prop where
  hb: ∃c,w.heap[gb]? =some (.cells #[.int .i64 (n:Int),.slice (some ⟨ge,0,none⟩) 1 c] 202 (0,0))
  he:w.heap[ge]? =some (.cells #[.int .u64 (x:Int)] 199 (0,0))
  hn:0<n∧n≤12
  hx:x<4096
theorem setIndex_c (w:World) (gb ge n x i:Nat) (hB:Bits w gb ge n x) (hi:i<n):Ret Tryz.prog 150 #[Pt gb,Iw ((i:Int)),.bool true] w (fun v w1=>v= .bool true∧Mv [199] ge w w1∧(∀b o,w.heap[b]? =some o→b≠ge→w1.heap[b]? =some o)∧Bits w1 gb ge n (x ||| 2^i)):=by
 obtain ⟨c,b1⟩:=hB.hb;have b2:=hB.he;have hn:=hB.hn;refine en 43 Tryz.func150 fun T E=>?_;refine go [5,1,4] ?_;intro T E;refine sk fun K1 hK1=>?_;refine go [5,0,0,2,50,3] ?_;intro T E;refine sv E (dv_geq E rfl rfl rfl (nc_le n i)) fun T E=>?_;refine nq ?_;refine c_f E rfl (decide_eq_false (by omega)) ?_;refine wp_skip ?_;refine hK1 _ _ ?_;refine sk fun K2 hK2=>?_;refine go [5,0,4,14,21,0,2,51,3,0] ?_;intro T E;refine sv E (dv_quo (c:=0) E rfl rfl rfl (by decide) (by rw [show IntKind.i64.wrap (Int.tdiv (i:Int) 64)=(i:Int) / 64 from quo_i64 (by omega) ⟨by omega,by decide⟩];omega)) fun T E=>?_;refine sv E (dv_indexAddr (b:=⟨ge,0,none⟩) (k:=1) (i:=0) E rfl rfl rfl (by kernel_rfl) (by decide) rfl) fun T E=>?_;refine go [3,0] ?_;intro T E;refine sv E (dv_rem (c:=(i:Int)) E rfl rfl rfl (by decide) (by rw [Int.tmod_eq_emod_of_nonneg (by omega)];omega)) fun T E=>?_;refine sv E (dv_cvt (c:=(i:Int)) E rfl rfl (by kernel_rfl) (by kernel_rfl) (wrap_u64 (by omega) (by omega))) fun T E=>?_;refine sv E (dv_shl (c:=((2^i:Nat):Int)) E rfl rfl rfl (by omega) (bit_shl i (by omega))) fun T E=>?_;refine sv E (dv_bits (c:=((x ||| 2^i:Nat):Int)) E rfl rfl rfl rfl (bit_or hB.hx (by omega))) fun T E=>?_;refine sv E (dv_indexAddr (b:=⟨ge,0,none⟩) (k:=1) (i:=0) E rfl rfl rfl (by kernel_rfl) (by decide) rfl) fun T E=>?_;refine sst (dk1 E b2) ?_;intro w1 e1 n1_ b2;have zw1:=e1.size;refine hK2 _ _ ?_;refine go [5,1,4,17] ?_;intro T E;replace b1:=e1.blk b1 rfl;refine post1_ret E rfl rfl ?_;exact ⟨rfl,e1,n1_,⟨⟨c,b1⟩,b2,hn,Nat.or_lt_two_pow (n:=12) hB.hx (pow_lt (by omega))⟩⟩
theorem SetIndex_c (w:World) (gb ge n x i:Nat) (hB:Bits w gb ge n x) (hi:i<n):Ret Tryz.prog 134 #[Pt gb,Iw ((i:Int)),.bool true] w (fun v w1=>v= .bool true∧Mv [199] ge w w1∧(∀b o,w.heap[b]? =some o→b≠ge→w1.heap[b]? =some o)∧Bits w1 gb ge n (x ||| 2^i)):=by
 refine en 13 Tryz.func134 fun T E=>?_;refine go [5,1,4] ?_;intro T E;refine sk fun K1 hK1=>?_;refine go [5,0,11,4,15,16] ?_;intro T E;refine hK1 _ _ ?_;refine go [5,0,0,0] ?_;intro T E;refine cl E Tryz.func150 (setIndex_c w gb ge n x i hB hi) ?_;rintro _ w1 ⟨rfl,e1,hne,hB2⟩ T E;have zw1:=e1.size;refine go [1,4,17] ?_;intro T E;refine post1_ret E rfl rfl ?_;exact ⟨rfl,e1,hne,hB2⟩
theorem NewBitArray_c (w:World) (n:Nat) (hn:0<n∧n≤12):Ret Tryz.prog 73 #[Iw ((n:Int))] w (fun v w1=> ∃g ge2,v= .pointer (some ⟨g,0,none⟩)∧Mv [] 0 w w1∧Bits w1 g ge2 n 0∧w.heap.size≤g∧w.heap.size≤ge2):=by
 refine en 12 Tryz.func73 fun T E=>?_;have ho:=Below.refl w.heap.size w;refine go [5,1,4] ?_;intro T E;refine sk fun K1 hK1=>?_;refine go [5,0] ?_;intro T E;refine sv E (dv_leq E rfl rfl rfl (nc_le n 0)) fun T E=>?_;refine nq ?_;refine c_f E rfl (decide_eq_false (by omega)) ?_;refine wp_skip ?_;refine hK1 _ _ ?_;refine go [5,0,0] ?_;intro T E;refine sv E (dp E) fun T E=>?_;refine sv E (dv_quo (c:=1) E rfl rfl rfl (by decide) (by rw [show IntKind.i64.wrap (Int.tdiv ((n:Int)+63) 64)=((n:Int)+63) / 64 from quo_i64 (by omega) ⟨by omega,by decide⟩];omega)) fun T E=>?_;refine sr E (ru_make (e:=199) (m:=1) (by_:=8) (z:= .int .u64 0) E rfl rfl rfl rfl (by kernel_rfl) (infoB_of (by kernel_rfl)) rfl (by omega) (by omega)) ?_;rintro _ w1 ⟨g1_,rfl,e1,lg1_,xg1_,b2_⟩ T E;have zw1:=e1.size;replace b2_:w1.heap[g1_]? =some (.cells #[.int .u64 0] 199 (0,0)):=b2_;have yg1_:=heap_lt b2_;refine sv E (dv_build (vs:=[(0,Iw ((n:Int))),(1,.slice (some ⟨g1_,0,none⟩) 1 1)]) (C:=#[Iw ((n:Int)),.slice (some ⟨g1_,0,none⟩) 1 1]) E rfl rfl (by kernel_rfl)) fun T E=>?_;refine sr E (rbx E) ?_;rintro _ w2 ⟨g3_,rfl,e2,lg3_,xg3_,b4_⟩ T E;have zw2:=e2.size;have yg3_:=heap_lt b4_;refine go [1,4,17] ?_;intro T E;replace ho:=old0 (old0 ho e1) e2;replace b2_:=e2.blk b2_ rfl;refine post1_ret E rfl rfl ?_;exact ⟨g3_,g1_,rfl,Mv.of_below ho _ _,⟨⟨_,b4_⟩,b2_,hn,by decide⟩,by omega,by omega⟩
def uv (n:Nat):List UInt8:=if n<128 then [UInt8.ofNat n] else UInt8.ofNat (n % 128+128)::uv (n / 128)
  termination_by n
  decreasing_by omega
theorem uv_small {n:Nat} (h:n<128):uv n=[UInt8.ofNat n]:=by rw [uv,if_pos h]
theorem uv_big {n:Nat} (h: ¬n<128):uv n=UInt8.ofNat (n % 128+128)::uv (n / 128):=by rw [uv,if_neg h]
theorem uv_len: ∀(k n:Nat),n<128^(k+1)→(uv n).length≤k+1
  | 0,n,h=>by rw [uv_small (by simpa using h)];simp
  | k+1,n,h=>by
    by_cases hs:n<128
    · rw [uv_small hs];simp
    · rw [uv_big hs,List.length_cons]
      have:=uv_len k (n / 128) (by rw [Nat.div_lt_iff_lt_mul (by omega)];rw [Nat.pow_succ] at h;exact h);omega
theorem uv_len10 (n:Nat) (h:n<18446744073709551616):(uv n).length≤10:=uv_len 9 n (Nat.lt_of_lt_of_le h (by decide))
def num (f n:Nat):List UInt8:=if n=0 then [] else UInt8.ofNat (f*8)::uv n
def by8 (n k:Nat):List UInt8:=(List.range k).map fun i=>UInt8.ofNat (n / 2^(8*i) % 256)
def fix8 (f n:Nat):List UInt8:=if n=0 then [] else UInt8.ofNat (f*8+1)::by8 n 8
def wit (f:Nat) (m:List UInt8):List UInt8:=UInt8.ofNat (f*8+2)::(uv m.length++m)
def som (f:Nat) (m:List UInt8):List UInt8:=if m.length=0 then [] else wit f m
def delim (m:List UInt8):List UInt8:=uv m.length++m
theorem num_len (f n:Nat) (h:n<18446744073709551616):(num f n).length≤11:=by
  unfold num
  split
  · simp
  · have:=uv_len10 n h;simp;omega
theorem by8_len (n k:Nat):(by8 n k).length=k:=by simp [by8]
theorem by8_succ (n k:Nat):by8 n (k+1)=by8 n k++ [UInt8.ofNat (n / 2^(8*k) % 256)]:=by simp [by8,List.range_succ]
theorem fix8_len (f n:Nat):(fix8 f n).length≤9:=by
  unfold fix8
  split
  · simp
  · simp [by8_len]
theorem wit_len (f:Nat) (m:List UInt8) (h:m.length<18446744073709551616):(wit f m).length≤m.length+11:=by
  have:=uv_len10 m.length h;simp [wit];omega
theorem som_len (f:Nat) (m:List UInt8) (h:m.length<18446744073709551616):(som f m).length≤m.length+11:=by
  unfold som
  split
  · simp
  · exact wit_len f m h
def Fresh (w:World) (v:Value):Prop:=∀k,v.ownBlock=some k→w.heap.size≤k
def BLt (n:Nat) (x:Value) (m:List UInt8):Prop:=m=[]∨∀k,x.ownBlock=some k→k<n
theorem byt_lt {w:World} {x:Value} {m:List UInt8} (h:Byt w x m):BLt w.heap.size x m:=by
  by_cases hm:m=[]
  · exact .inl hm
  · obtain ⟨A,c,h1,h2,h3⟩:=h
    obtain ⟨g,o,cs,fr,ha,hg,hc⟩:=h3 hm;refine .inr (fun k hk=> ?_);subst h1;subst ha;have:g=k:=by simpa [Value.ownBlock] using hk
    exact this▸heap_lt hg
theorem byt_keep {σ:List Nat} {b n:Nat} {w w1:World} {x:Value} {m:List UInt8} (h:Byt w x m) (hl:BLt n x m) (e:Mv σ b w w1) (hn:n≤b):Byt w1 x m:=by
  obtain ⟨A,c,h1,h2,h3⟩:=h;refine ⟨A,c,h1,h2,fun hm=> ?_⟩;obtain ⟨g,o,cs,fr,ha,hg,hc⟩:=h3 hm;rcases hl with hl | hl
  · exact absurd hl hm
  · subst h1
    subst ha;have:=hl g (by simp [Value.ownBlock]);exact ⟨g,o,cs,fr,rfl,e.blkLt hg (by omega),hc⟩
theorem fresh_at {w0:World} {g n c:Nat} (h:w0.heap.size≤g):Fresh w0 (.slice (some ⟨g,0,none⟩) n c):=fun k hk=>by
  have:g=k:=by simpa [Value.ownBlock] using hk
  omega
theorem apart_new {base:Nat} {w w0:World} {v x:Value} {l m:List UInt8} (h:OwnB base w v l) (hx:Fresh w0 x) (hs:w.heap.size≤w0.heap.size):m=[]∨Apart v x:=by
  refine .inr ?_;unfold Apart;cases hv:v.ownBlock with
  | none=>exact .inl rfl
  | some k=>
    refine .inr (fun he=> ?_);have h1:=h.lt k hv;have h2:=hx k he;omega
theorem apart_new' {base:Nat} {w w0:World} {v x:Value} {l m:List UInt8} (h:OwnB base w v l) (hx:Fresh w0 x) (hs:w.heap.size≤w0.heap.size):m=[]∨Apart x v:=by
  refine .inr ?_;unfold Apart;cases hx':x.ownBlock with
  | none=>exact .inl rfl
  | some k=>
    refine .inr (fun he=> ?_);have h1:=h.lt k he;have h2:=hx k hx';omega
theorem apart_old {base n:Nat} {w:World} {v x:Value} {l m:List UInt8} (h:OwnB base w v l) (hx:BLt n x m) (hn:n≤base):m=[]∨Apart v x:=by
  rcases hx with hx | hx
  · exact .inl hx
  · refine .inr ?_
    unfold Apart;cases hv:v.ownBlock with
    | none=>exact .inl rfl
    | some k=>
      refine .inr (fun he=> ?_);have h1:=(World.ownsRow.lt h k hv).1;have h2:=hx k he;omega
structure Put (base:Nat) (w:World) (v:Value) (W:World) (s:Value) (l:List UInt8):Prop where
  mv:Mv [5] base w W
  gr:w.grownBy W v.ownBlock
  own:OwnB base W s l
  new:New w v s
theorem Put.start {base:Nat} {w:World} {v:Value} {l:List UInt8} (h:OwnB base w v l):Put base w v w v l:=⟨Mv.refl _ _ _,⟨rfl,rfl,rfl,Nat.le_refl _,fun _ _ _=>rfl⟩,h,New.refl _ _⟩
theorem gr_trans {w W W2:World} {v s:Value} (h:w.grownBy W v.ownBlock) (hn:New w v s) (k:W.grownBy W2 s.ownBlock):w.grownBy W2 v.ownBlock:=by
  refine ⟨k.os.trans h.os,k.tape.trans h.tape,k.output.trans h.output,Nat.le_trans h.size k.size,fun i hi hne=> ?_⟩;rw [k.block i (Nat.lt_of_lt_of_le hi h.size),h.block i hi hne];intro he;rcases hn with hn | hn
  · exact hne (by rw [he,hn])
  · have:=hn i he.symm
    omega
theorem Put.trans {base:Nat} {w W W2:World} {v s s2:Value} {l l2:List UInt8} (h:Put base w v W s l) (k:Put base W s W2 s2 l2):Put base w v W2 s2 l2:=⟨h.mv.trans k.mv,gr_trans h.gr h.new k.gr,k.own,h.new.trans k.new h.mv.size⟩
theorem Put.mv0 {base b:Nat} {w W W2:World} {v s:Value} {l:List UInt8} (h:Put base w v W s l) (e:Mv [] b W W2):Put base w v W2 s l:=by
  refine ⟨Go.Proofs.YtlnknihjccdgkaaGreatDoor.X.mv0 h.mv e,⟨e.os.trans h.gr.os,e.tape.trans h.gr.tape,e.output.trans h.gr.output,Nat.le_trans h.gr.size e.size,fun i hi hne=> ?_⟩,h.own.mv e rfl,h.new⟩;rw [← h.gr.block i hi hne];exact e.below0.block i (Nat.lt_of_lt_of_le hi h.gr.size)
theorem Put.app {base:Nat} {w W W2:World} {v s s2:Value} {l l2:List UInt8} (h:Put base w v W s l) (e:Mv [5] base W W2) (g:W.grownBy W2 s.ownBlock) (o:OwnB base W2 s2 l2) (n:New W s s2):Put base w v W2 s2 l2:=h.trans ⟨e,g,o,n⟩
theorem Put.byt {base:Nat} {w W:World} {v s x:Value} {l m:List UInt8} (h:Put base w v W s l) (hx:Byt w x m) (ha:m=[]∨Apart v x):Byt W x m:=by
  rcases ha with rfl | ha
  · obtain ⟨A,c,h1,h2,h3⟩:=hx
    exact ⟨A,c,h1,h2,fun hm=>absurd rfl hm⟩
  · exact hx.gr h.gr ha
theorem Put.made {base:Nat} {w W:World} {s:Value} {l:List UInt8} (h:Put base w (.slice none 0 0) W s l):Mv [] 0 w W∧OwnB base W s l∧Fresh w s:=by
  refine ⟨Mv.of_below ⟨h.gr.os,h.gr.tape,h.gr.output,h.gr.size,fun k hk=>h.gr.block k hk (by simp [Value.ownBlock])⟩ _ _,h.own,fun k hk=> ?_⟩;rcases h.new with hn | hn
  · rw [hn] at hk;simp [Value.ownBlock] at hk
  · exact hn k hk
def RPut (base:Nat) (w:World) (v:Value) (l:List UInt8):Value→World→Prop:=fun v1 w1=> ∃A c,v1= .slice A l.length c∧Mv [5] base w w1∧Put base w v w1 (.slice A l.length c) l
def RMk (base:Nat) (w:World) (l:List UInt8):Value→World→Prop:=fun v1 w1=> ∃A c,v1= .slice A l.length c∧Mv [] 0 w w1∧OwnB base w1 (.slice A l.length c) l∧Fresh w (.slice A l.length c)
theorem RPut.mk {base:Nat} {w:World} {l:List UInt8} {v1:Value} {w1:World} (h:RPut base w (.slice none 0 0) l v1 w1):RMk base w l v1 w1:=by
  obtain ⟨A,c,h1,_,h2⟩:=h;obtain ⟨h3,h4,h5⟩:=h2.made;exact ⟨A,c,h1,h3,h4,h5⟩
theorem RPut.of {base:Nat} {w w1:World} {v s:Value} {l:List UInt8} (h:Put base w v w1 s l):RPut base w v l s w1:=by
  obtain ⟨A,c,rfl⟩:=h.own.form;exact ⟨A,c,rfl,h.mv,h⟩
theorem RPut.eq {base:Nat} {w:World} {v v1:Value} {l l2:List UInt8} {w1:World} (h:RPut base w v l v1 w1) (e:l=l2):RPut base w v l2 v1 w1:=e▸h
theorem OwnB.fresh {w W:World} {s:Value} {l:List UInt8} (h:OwnB w.heap.size W s l):Fresh w s:=fun k hk=>(World.ownsRow.lt h k hk).1
theorem RMk.of {w w1:World} {s:Value} {l l2:List UInt8} (h:OwnB w.heap.size w1 s l) (ho:Below w.heap.size w w1) (e:l=l2):RMk w.heap.size w l2 s w1:=by
  subst e;obtain ⟨A,c,rfl⟩:=h.form;exact ⟨A,c,rfl,Mv.of_below ho _ _,h,OwnB.fresh h⟩
theorem shr8 (n i:Nat) (hi:i<8):(n:Int).fdiv (2^(min (Int.toNat ((8*i:Nat):Int)) (IntKind.bits .u64)))=((n / 2^(8*i):Nat):Int):=by
  rw [Int.toNat_natCast,show min (8*i) (IntKind.bits .u64)=8*i from Nat.min_eq_left (by simp [IntKind.bits];omega),Int.fdiv_eq_ediv_of_nonneg _ (Int.pow_nonneg (by decide))]
  norm_cast
theorem byt1 {w:World} {g m c:Nat} {fr:Nat×Nat} (hg:w.heap[g]? =some (.cells #[.int .u8 (m:Int)] 5 fr)) (hm:m<256) (hc:1≤c:=by decide):Byt w (.slice (some ⟨g,0,none⟩) 1 c) [UInt8.ofNat m]:=
  Byt.lit hg (by simp only [bcells,List.map_cons,List.map_nil];rw [bcell_of hm]) rfl hc
theorem or128: ∀b:Fin 256,bits .or .u8 ((b.val:Nat):Int) 128=((b.val % 128+128:Nat):Int):=by decide+kernel
theorem or128' {n:Nat} (h:n<256):bits .or .u8 (n:Int) 128=((n % 128+128:Nat):Int):=or128 ⟨n,h⟩
theorem or1: ∀f:Fin 16,bits .or .i64 ((f.val*8:Nat):Int) 1=((f.val*8+1:Nat):Int):=by decide+kernel
theorem or2: ∀f:Fin 16,bits .or .i64 ((f.val*8:Nat):Int) 2=((f.val*8+2:Nat):Int):=by decide+kernel
theorem or1' {f:Nat} (h:f<16):bits .or .i64 ((f*8:Nat):Int) 1=((f*8+1:Nat):Int):=or1 ⟨f,h⟩
theorem or2' {f:Nat} (h:f<16):bits .or .i64 ((f*8:Nat):Int) 2=((f*8+2:Nat):Int):=or2 ⟨f,h⟩
theorem to_u8 (n:Nat):IntKind.u8.wrap (n:Int)=((n % 256:Nat):Int):=by simp [IntKind.wrap,IntKind.bits,IntKind.signed]
theorem shl3 {f:Nat} (h:f<1000):IntKind.i64.wrap ((f:Int)*2^(min (Int.toNat 3) (IntKind.bits .i64)))=((f*8:Nat):Int):=by
  rw [show (2:Int)^(min (Int.toNat 3) (IntKind.bits .i64))=8 from rfl,wrap_i64 (by omega) (by omega)];omega
theorem shr7 (n:Nat):(n:Int).fdiv (2^(min (Int.toNat 7) (IntKind.bits .u64)))=((n / 128:Nat):Int):=by
  rw [show (2:Int)^(min (Int.toNat 7) (IntKind.bits .u64))=((128:Nat):Int) from rfl,Int.fdiv_eq_ediv_of_nonneg _ (by omega)];rfl
theorem putUvarint_c (base:Nat) (w:World) (v:Value) (xs:List UInt8) (n:Nat) (hown:OwnB base w v xs) (hbase:base≤w.heap.size) (hn:n<18446744073709551616) (hlen:xs.length+20≤140737488355328):Ret Tryz.prog 146 #[v,.int .u64 ((n:Int))] w (RPut base w v (xs++uv n)):=by
 refine en 20 Tryz.func146 fun T E=>?_;have hp:=Put.start hown;have hz:=hbase;refine go [5,1,4] ?_;intro T E;refine sk fun K1 hK1=>?_;refine wp_block ?_;refine loopM (fun mm_ a_ W=> ∃(T:Array Value) (s:Value) (m:Nat) (pre:List UInt8),a_=⟨T,[]⟩∧m=mm_∧Env T 20 [(0,s),(1,.int .u64 ((m:Int)))]∧Put base w (v) W (s) (xs++pre)∧w.heap.size≤W.heap.size∧m<18446744073709551616∧pre++uv m=uv n) (n) ?_ ?_
 ·exact ⟨_,v,n,[],rfl,rfl,E.sb,by simpa using Put.start hown,Nat.le_refl _,hn,rfl⟩
 ·rintro mm_ _ w1 ⟨T,s,m,pre,rfl,rfl,E,hp,hs,hm,hq⟩;refine sk fun K2 hK2=>?_;refine go [5,0] ?_;intro T E;refine sv E (dv_geq E rfl rfl rfl (nc_le 128 m)) fun T E=>?_;refine nq ?_;refine c_s E rfl (fun hc1=> ?_) (fun hc1=> ?_)
  ·replace hc1:=of_decide_eq_true hc1;refine wp_skip ?_;refine hK2 _ _ ?_;refine go [18,5,0,0] ?_;intro T E;refine sv E (dv_cvt (c:=((m % 256:Nat):Int)) E rfl rfl (by kernel_rfl) (by kernel_rfl) (to_u8 m)) fun T E=>?_;refine sv E (dv_bits (c:=((m % 128+128:Nat):Int)) E rfl rfl rfl rfl (by rw [or128' (Nat.mod_lt _ (by decide)),Nat.mod_mod_of_dvd _ (by decide)])) fun T E=>?_;refine sr E (rb1 (e:=5) (k:=1) E) ?_;rintro _ w2 ⟨g1_,rfl,e2,lg1_,xg1_,b2_⟩ T E;have zw2:=e2.size;have yg1_:=heap_lt b2_;replace hp:=hp.mv0 e2;refine sr E (ru_appB (base:=base) (xs:=xs++pre) (ys:=[UInt8.ofNat (m % 128+128)]) E rfl rfl rfl rfl (by kernel_rfl) (infoB_of (by kernel_rfl)) (hp.own) (byt1 b2_ (by omega)) (by have hl:=congrArg List.length hq;have h10:=uv_len10 n hn;simp only [List.length_append,List.length_cons,List.length_nil] at hl ⊢;omega) (by omega)) ?_;rintro _ w3 ⟨A3_,c4_,rfl,e3,gr5_,ow6_,nw7_⟩ T E;have zw3:=e3.size;replace hp:=Put.app hp e3 gr5_ ow6_ nw7_;refine go [1,4,21,0] ?_;intro T E;refine sv E (dv_shr (c:=((m / 128:Nat):Int)) E rfl rfl rfl (by decide) (shr7 m)) fun T E=>?_;refine sv E (da E) fun T E=>?_;refine wpList_nil ?_;have hq2:=hq;rw [uv_big (by omega)] at hq2;exact ⟨_,Nat.div_lt_self (by omega) (by decide),_,_,m / 128,_,rfl,rfl,E.sb,by have h:=hp;rwa [List.append_assoc] at h,Nat.le_trans hs (by omega),by omega,by rw [← hq2,List.append_assoc];rfl⟩
  ·replace hc1:=of_decide_eq_false hc1;refine wp_exit ?_;refine hK1 _ _ ?_;refine go [5,0,0] ?_;intro T E;refine sv E (dv_cvt (c:=((m % 256:Nat):Int)) E rfl rfl (by kernel_rfl) (by kernel_rfl) (to_u8 m)) fun T E=>?_;refine sr E (rb1 (e:=5) (k:=1) E) ?_;rintro _ w4 ⟨g8_,rfl,e4,lg8_,xg8_,b9_⟩ T E;have zw4:=e4.size;have yg8_:=heap_lt b9_;replace hp:=hp.mv0 e4;refine sr E (ru_appB (base:=base) (xs:=xs++pre) (ys:=[UInt8.ofNat (m % 256)]) E rfl rfl rfl rfl (by kernel_rfl) (infoB_of (by kernel_rfl)) (hp.own) (byt1 b9_ (by omega)) (by have hl:=congrArg List.length hq;have h10:=uv_len10 n hn;simp only [List.length_append,List.length_cons,List.length_nil] at hl ⊢;omega) (by omega)) ?_;rintro _ w5 ⟨A10_,c11_,rfl,e5,gr12_,ow13_,nw14_⟩ T E;have zw5:=e5.size;replace hp:=Put.app hp e5 gr12_ ow13_ nw14_;refine go [1,4,17] ?_;intro T E;have hq2:=hq;rw [uv_small (by omega)] at hq2;refine post1_ret E rfl rfl ?_;exact (RPut.of hp).eq (by rw [← hq2,List.append_assoc,Nat.mod_eq_of_lt (by omega)])
theorem putNumber_c (base:Nat) (w:World) (v:Value) (xs:List UInt8) (f n:Nat) (hown:OwnB base w v xs) (hbase:base≤w.heap.size) (hf:f<16) (hn:n<18446744073709551616) (hlen:xs.length+40≤140737488355328):Ret Tryz.prog 129 #[v,Iw ((f:Int)),.int .u64 ((n:Int))] w (RPut base w v (xs++num f n)):=by
 refine en 18 Tryz.func129 fun T E=>?_;have hp:=Put.start hown;have hz:=hbase;refine go [5,1,4] ?_;intro T E;refine sk fun K1 hK1=>?_;refine go [5,0] ?_;intro T E;refine sv E (dv_eql E rfl rfl rfl (nc_eq n 0)) fun T E=>?_;refine nq ?_;refine c_s E rfl (fun hc1=> ?_) (fun hc1=> ?_)
 ·replace hc1:=of_decide_eq_true hc1;refine go [5,0,1,4,17] ?_;intro T E;refine post1_ret E rfl rfl ?_;exact (RPut.of hp).eq (by rw [num,if_pos (by omega),List.append_nil])
 ·replace hc1:=of_decide_eq_false hc1;refine wp_skip ?_;refine hK1 _ _ ?_;refine go [5,0,0] ?_;intro T E;refine sv E (dv_shl (c:=((f*8:Nat):Int)) E rfl rfl rfl (by decide) (shl3 (by omega))) fun T E=>?_;refine sv E (dv_cvt (c:=((f*8 % 256:Nat):Int)) E rfl rfl (by kernel_rfl) (by kernel_rfl) (to_u8 _)) fun T E=>?_;refine sr E (rb1 (e:=5) (k:=1) E) ?_;rintro _ w1 ⟨g1_,rfl,e1,lg1_,xg1_,b2_⟩ T E;have zw1:=e1.size;have yg1_:=heap_lt b2_;replace hp:=hp.mv0 e1;refine sr E (ru_appB (base:=base) (xs:=xs) (ys:=[UInt8.ofNat (f*8 % 256)]) E rfl rfl rfl rfl (by kernel_rfl) (infoB_of (by kernel_rfl)) (hp.own) (byt1 b2_ (by omega)) (by simp only [List.length_append,List.length_cons,List.length_nil];omega) (by omega)) ?_;rintro _ w2 ⟨A3_,c4_,rfl,e2,gr5_,ow6_,nw7_⟩ T E;have zw2:=e2.size;replace hp:=Put.app hp e2 gr5_ ow6_ nw7_;refine sv E (dm E) fun T E=>?_;refine cl E Tryz.func146 (putUvarint_c (base) w2 (.slice A3_ ((xs).length+([UInt8.ofNat (f*8 % 256)]).length) c4_) (xs++ [UInt8.ofNat (f*8 % 256)]) n (hp.own) (by omega) (by omega) (by simp only [List.length_append,List.length_cons,List.length_nil];omega)) ?_;rintro _ w3 ⟨A8_,c9_,rfl,e3,hp10_⟩ T E;have zw3:=e3.size;replace hp:=hp.trans hp10_;refine go [1,4,17] ?_;intro T E;refine post1_ret E rfl rfl ?_;exact (RPut.of hp).eq (by rw [num,if_neg (by omega),List.append_assoc,Nat.mod_eq_of_lt (by omega)];rfl)
theorem putMessage_c (base:Nat) (w:World) (v:Value) (xs:List UInt8) (f:Nat) (Ax:Option Addr) (cx:Nat) (m:List UInt8) (hx:Byt w (.slice Ax m.length cx) m) (hap:m=[]∨Apart v (.slice Ax m.length cx)) (hown:OwnB base w v xs) (hbase:base≤w.heap.size) (hf:f<14) (hlen:xs.length+m.length+40≤140737488355328):Ret Tryz.prog 145 #[v,Iw ((f:Int)),.slice Ax m.length cx] w (RPut base w v (xs++wit f m)):=by
 refine en 21 Tryz.func145 fun T E=>?_;have hp:=Put.start hown;have hz:=hbase;refine go [5,1,4,5,0,0] ?_;intro T E;refine sv E (dv_shl (c:=((f*8:Nat):Int)) E rfl rfl rfl (by decide) (shl3 (by omega))) fun T E=>?_;refine sv E (dv_bits (c:=((f*8+2:Nat):Int)) E rfl rfl rfl rfl (or2' (by omega))) fun T E=>?_;refine sv E (dv_cvt (c:=(((f*8+2) % 256:Nat):Int)) E rfl rfl (by kernel_rfl) (by kernel_rfl) (to_u8 _)) fun T E=>?_;refine sr E (rb1 (e:=5) (k:=1) E) ?_;rintro _ w1 ⟨g1_,rfl,e1,lg1_,xg1_,b2_⟩ T E;have zw1:=e1.size;have yg1_:=heap_lt b2_;replace hp:=hp.mv0 e1;refine sr E (ru_appB (base:=base) (xs:=xs) (ys:=[UInt8.ofNat ((f*8+2) % 256)]) E rfl rfl rfl rfl (by kernel_rfl) (infoB_of (by kernel_rfl)) (hp.own) (byt1 b2_ (by omega)) (by have h10:=uv_len10 m.length (by omega);simp only [List.length_append,List.length_cons,List.length_nil];omega) (by omega)) ?_;rintro _ w2 ⟨A3_,c4_,rfl,e2,gr5_,ow6_,nw7_⟩ T E;have zw2:=e2.size;replace hp:=Put.app hp e2 gr5_ ow6_ nw7_;refine go [0,6] ?_;intro T E;refine sv E (dcu64 E) fun T E=>?_;refine cl E Tryz.func146 (putUvarint_c (base) w2 (.slice A3_ ((xs).length+([UInt8.ofNat ((f*8+2) % 256)]).length) c4_) (xs++ [UInt8.ofNat ((f*8+2) % 256)]) m.length (hp.own) (by omega) (by omega) (by have h10:=uv_len10 m.length (by omega);simp only [List.length_append,List.length_cons,List.length_nil];omega)) ?_;rintro _ w3 ⟨A8_,c9_,rfl,e3,hp10_⟩ T E;have zw3:=e3.size;replace hp:=hp.trans hp10_;refine go [1,4,5,0,0] ?_;intro T E;have hx_c:=hp.byt hx hap;refine sr E (ru_appB (base:=base) (xs:=xs++ [UInt8.ofNat ((f*8+2) % 256)]++uv m.length) (ys:=m) E rfl rfl rfl rfl (by kernel_rfl) (infoB_of (by kernel_rfl)) (hp.own) (hx_c) (by have h10:=uv_len10 m.length (by omega);simp only [List.length_append,List.length_cons,List.length_nil];omega) (by omega)) ?_;rintro _ w4 ⟨A11_,c12_,rfl,e4,gr13_,ow14_,nw15_⟩ T E;have zw4:=e4.size;replace hp:=Put.app hp e4 gr13_ ow14_ nw15_;refine go [1,4,17] ?_;intro T E;refine post1_ret E rfl rfl ?_;exact (RPut.of hp).eq (by simp [wit,Nat.mod_eq_of_lt (show f*8+2<256 by omega)])
theorem putText_c (base:Nat) (w:World) (v:Value) (xs:List UInt8) (f:Nat) (Ax:Option Addr) (cx:Nat) (m:List UInt8) (hx:Byt w (.slice Ax m.length cx) m) (hap:m=[]∨Apart v (.slice Ax m.length cx)) (hown:OwnB base w v xs) (hbase:base≤w.heap.size) (hf:f<14) (hlen:xs.length+m.length+40≤140737488355328):Ret Tryz.prog 128 #[v,Iw ((f:Int)),.slice Ax m.length cx] w (RPut base w v (xs++som f m)):=by
 refine en 15 Tryz.func128 fun T E=>?_;have hp:=Put.start hown;have hz:=hbase;refine go [5,1,4] ?_;intro T E;refine sk fun K1 hK1=>?_;refine go [5,0,6] ?_;intro T E;refine sv E (dv_eql E rfl rfl rfl (nc_eq m.length 0)) fun T E=>?_;refine nq ?_;refine c_s E rfl (fun hc1=> ?_) (fun hc1=> ?_)
 ·replace hc1:=of_decide_eq_true hc1;refine go [5,0,1,4,17] ?_;intro T E;refine post1_ret E rfl rfl ?_;exact (RPut.of hp).eq (by rw [som,if_pos (by omega),List.append_nil])
 ·replace hc1:=of_decide_eq_false hc1;refine wp_skip ?_;refine hK1 _ _ ?_;refine go [5,0,0,0] ?_;intro T E;refine cl E Tryz.func145 (putMessage_c (base) w v (xs) f Ax cx m hx (hap) (hp.own) (by omega) (by omega) (by omega)) ?_;rintro _ w1 ⟨A1_,c2_,rfl,e1,hp3_⟩ T E;have zw1:=e1.size;replace hp:=hp.trans hp3_;refine go [1,4,17] ?_;intro T E;refine post1_ret E rfl rfl ?_;exact (RPut.of hp).eq (by rw [som,if_neg (by omega)])
theorem delimited_c (w:World) (Ax:Option Addr) (cx:Nat) (m:List UInt8) (hx:Byt w (.slice Ax m.length cx) m) (hlen:m.length+40≤140737488355328):Ret Tryz.prog 148 #[.slice Ax m.length cx] w (RMk w.heap.size w (delim m)):=by
 refine en 9 Tryz.func148 fun T E=>?_;have ho:=Below.refl w.heap.size w;refine go [5,1,4,5,0,6] ?_;intro T E;refine sv E (dcu64 E) fun T E=>?_;refine cl E Tryz.func146 (Ret.mono (putUvarint_c (w.heap.size) w (.slice none 0 0) [] m.length (OwnB.nil _ _) (by omega) (by omega) (by simp only [List.length_nil];omega)) (fun _ _ h=>(h.eq (List.nil_append _)).mk)) ?_;rintro _ w1 ⟨A1_,c2_,rfl,e1,hp3_,fr4_⟩ T E;have zw1:=e1.size;refine sv E (dm E) fun T E=>?_;replace hx:=hx.mv e1 rfl;refine sr E (ru_appB (base:=w.heap.size) (xs:=uv m.length) (ys:=m) E rfl rfl rfl rfl (by kernel_rfl) (infoB_of (by kernel_rfl)) (hp3_) (hx) (by have h10:=uv_len10 m.length (by omega);omega) (by omega)) ?_;rintro _ w2 ⟨A5_,c6_,rfl,e2,gr7_,ow8_,nw9_⟩ T E;have zw2:=e2.size;refine go [1,4,17] ?_;intro T E;replace ho:=old1 (old0 ho e1) e2 (by omega);refine post1_ret E rfl rfl ?_;exact RMk.of ow8_ ho (rfl)
theorem putFixed_c (base:Nat) (w:World) (v:Value) (xs:List UInt8) (f n:Nat) (hown:OwnB base w v xs) (hbase:base≤w.heap.size) (hf:f<15) (hn:n<9223372036854775808) (hlen:xs.length+40≤140737488355328):Ret Tryz.prog 159 #[v,Iw ((f:Int)),Iw ((n:Int))] w (RPut base w v (xs++fix8 f n)):=by
 refine en 32 Tryz.func159 fun T E=>?_;have hp:=Put.start hown;have hz:=hbase;refine go [5,1,4] ?_;intro T E;refine sk fun K1 hK1=>?_;refine go [5,0] ?_;intro T E;refine sv E (dv_eql E rfl rfl rfl (nc_eq n 0)) fun T E=>?_;refine nq ?_;refine c_s E rfl (fun hc1=> ?_) (fun hc1=> ?_)
 ·replace hc1:=of_decide_eq_true hc1;refine go [5,0,1,4,17] ?_;intro T E;refine post1_ret E rfl rfl ?_;exact (RPut.of hp).eq (by rw [fix8,if_pos (by omega),List.append_nil])
 ·replace hc1:=of_decide_eq_false hc1;refine wp_skip ?_;refine hK1 _ _ ?_;refine go [5,0,0] ?_;intro T E;refine sv E (dv_shl (c:=((f*8:Nat):Int)) E rfl rfl rfl (by decide) (shl3 (by omega))) fun T E=>?_;refine sv E (dv_bits (c:=((f*8+1:Nat):Int)) E rfl rfl rfl rfl (or1' (by omega))) fun T E=>?_;refine sv E (dv_cvt (c:=(((f*8+1) % 256:Nat):Int)) E rfl rfl (by kernel_rfl) (by kernel_rfl) (to_u8 _)) fun T E=>?_;refine sr E (rb1 (e:=5) (k:=1) E) ?_;rintro _ w1 ⟨g1_,rfl,e1,lg1_,xg1_,b2_⟩ T E;have zw1:=e1.size;have yg1_:=heap_lt b2_;replace hp:=hp.mv0 e1;refine sr E (ru_appB (base:=base) (xs:=xs) (ys:=[UInt8.ofNat ((f*8+1) % 256)]) E rfl rfl rfl rfl (by kernel_rfl) (infoB_of (by kernel_rfl)) (hp.own) (byt1 b2_ (by omega)) (by first | (have h10:=by8_len n i;simp only [List.length_append,List.length_cons,List.length_nil];omega) | (simp only [List.length_append,List.length_cons,List.length_nil];omega)) (by omega)) ?_;rintro _ w2 ⟨A3_,c4_,rfl,e2,gr5_,ow6_,nw7_⟩ T E;have zw2:=e2.size;replace hp:=Put.app hp e2 gr5_ ow6_ nw7_;refine go [1,4] ?_;intro T E;refine sk fun K2 hK2=>?_;refine go [5,1,4,18] ?_;intro T E;refine loopM (fun mm_ a_ W=> ∃(T:Array Value) (s:Value) (i:Nat),a_=⟨T,[]⟩∧8-i=mm_∧Env T 32 [(0,s),(2,Iw ((n:Int))),(7,Iw ((i:Int)))]∧Put base w (v) W (s) (xs++(UInt8.ofNat (f*8+1)::by8 n i))∧w.heap.size≤W.heap.size∧i≤8) (8) ?_ ?_
  ·exact ⟨_,_,0,rfl,rfl,E.sb,by have h:=hp;rw [Nat.mod_eq_of_lt (by omega)] at h;exact h,by omega,by omega⟩
  ·rintro mm_ _ w3 ⟨T,s,i,rfl,rfl,E,hp,hs,hi⟩;refine sk fun K3 hK3=>?_;refine go [5,0] ?_;intro T E;refine sv E (dv_lss E rfl rfl rfl (nc_lt i 8)) fun T E=>?_;refine nq ?_;refine c_s E rfl (fun hc2=> ?_) (fun hc2=> ?_)
   ·replace hc2:=of_decide_eq_true hc2;refine wp_skip ?_;refine hK3 _ _ ?_;refine sk fun K4 hK4=>?_;refine go [18,21,0,0] ?_;intro T E;refine sv E (dcu64 E) fun T E=>?_;refine sv E (dm E) fun T E=>?_;refine sv E (dv_mul (c:=((8*i:Nat):Int)) E rfl rfl rfl (by rw [wrap_i64 (by omega) (by omega)];omega)) fun T E=>?_;refine sv E (dv_shr (c:=((n / 2^(8*i):Nat):Int)) E rfl rfl rfl (by omega) (shr8 n i (by omega))) fun T E=>?_;refine sv E (dv_cvt (c:=((n / 2^(8*i) % 256:Nat):Int)) E rfl rfl (by kernel_rfl) (by kernel_rfl) (to_u8 _)) fun T E=>?_;refine sr E (rb1 (e:=5) (k:=1) E) ?_;rintro _ w4 ⟨g8_,rfl,e4,lg8_,xg8_,b9_⟩ T E;have zw4:=e4.size;have yg8_:=heap_lt b9_;replace hp:=hp.mv0 e4;refine sr E (ru_appB (base:=base) (xs:=xs++(UInt8.ofNat (f*8+1)::by8 n i)) (ys:=[UInt8.ofNat (n / 2^(8*i) % 256)]) E rfl rfl rfl rfl (by kernel_rfl) (infoB_of (by kernel_rfl)) (hp.own) (byt1 b9_ (by omega)) (by first | (have h10:=by8_len n i;simp only [List.length_append,List.length_cons,List.length_nil];omega) | (simp only [List.length_append,List.length_cons,List.length_nil];omega)) (by omega)) ?_;rintro _ w5 ⟨A10_,c11_,rfl,e5,gr12_,ow13_,nw14_⟩ T E;have zw5:=e5.size;replace hp:=Put.app hp e5 gr12_ ow13_ nw14_;refine sv E (da E) fun T E=>?_;refine hK4 _ _ ?_;refine go [21,0] ?_;intro T E;refine sv E (dp E) fun T E=>?_;refine sv E (da E) fun T E=>?_;refine wpList_nil ?_;exact ⟨_,by omega,_,_,i+1,rfl,rfl,E.sb,by have h:=hp;rw [List.append_assoc,List.cons_append,← by8_succ] at h;exact h,by omega,by omega⟩
   ·replace hc2:=of_decide_eq_false hc2;refine wp_exit ?_;refine hK2 _ _ ?_;refine go [5,0,1,4,17] ?_;intro T E;obtain rfl:i=8:=by omega
    refine post1_ret E rfl rfl ?_;exact (RPut.of hp).eq (by rw [fix8,if_neg (by omega)])
end Go.Proofs.YtlnknihjccdgkaaGreatDoor.V
