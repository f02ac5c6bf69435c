/- Making the set of validators. Making the set of validators,  -/
import Derived.Test.YtlnknihjccdgkaaGreatDoorCm3
import Derived.Lib.BytesEntry
namespace Go.Proofs.YtlnknihjccdgkaaGreatDoor.V
open Go.RowKit Go.Proofs.YtlnknihjccdgkaaGreatDoor.X
set_option linter.unusedVariables false
set_option linter.unusedSimpArgs false
set_option maxHeartbeats 4000000
set_option maxRecDepth 100000
theorem sb_inj {a b:ByteArray} (h:sb a=sb b):a=b:=by rw [← bs_sb a,h,bs_sb]
theorem cmp_ne {a b:ByteArray} (h:a≠b):Extern.BytealgCompare.cmp a b≠0:=by
  unfold Extern.BytealgCompare.cmp;cases hf:(List.range (min a.size b.size)).find? (fun i=>a[i]! !=b[i]!) with
  | some i=>simp only;split <;> decide
  | none=>
    simp only
    split
    · decide
    · split
      · decide
      · rename_i h1 h2
        exfalso;have hs:a.size=b.size:=by omega
        refine h ?_;apply ByteArray.ext;apply Array.ext
        · exact hs
        · intro i hi hj
          have:=List.find?_eq_none.1 hf i (List.mem_range.2 (by rw [← hs,Nat.min_self];exact hi));have h3:a[i]! =b[i]! :=by simpa using this
          have hi2:i<a.size:=hi;have hj2:i<b.size:=hj;rw [getElem!_pos a i hi2,getElem!_pos b i hj2] at h3;exact h3
theorem run_bytesOf {P:Program} {w:World} {v:Value} {l:List UInt8} (h:Byt w v l):(Extern.Bytes.bytesOf v).run P w= .ok (bs l) w:=by
  have h2:=h;obtain ⟨A,c,rfl,hc,h3⟩:=h;cases A with
  | none=>
    have hy:l=[]:=by
      false_or_by_contra;rename_i hne;obtain ⟨g,o,cs,fr,ha,_⟩:=h3 hne;cases ha
    subst hy;rfl
  | some ad=>
    have h4:=Lib.run_loadBytesX (P:=P) w (l.map (fun x=>(x.toNat:Int))) ad .empty (fun j x hx=>by
      simp only [List.getElem?_map,Option.map_eq_some_iff] at hx;obtain ⟨y,hy,rfl⟩:=hx;exact h2.cells j _ (by simp [bcells,hy,bcell]))
    rw [List.length_map] at h4;unfold Extern.Bytes.bytesOf;rw [h4]
    congr 1
    simp [bs,Lib.bytesOf,Function.comp_def,ByteArray.empty,ByteArray.emptyWithCapacity];rfl
theorem run_cmp {P:Program} {w:World} {v u:Value} {l m:List UInt8} (h:Byt w v l) (k:Byt w u m):(Extern.BytealgCompare.compare #[v,u]).run P w= .ok (.int .i64 (Extern.BytealgCompare.cmp (bs l) (bs m))) w:=by
  show Sem.run P (do pure (goInt (Extern.BytealgCompare.cmp (← Extern.Bytes.bytesOf v) (← Extern.Bytes.bytesOf u)))) w=_;simp [run_bytesOf h,run_bytesOf k,goInt]
theorem compare_c (w:World) (A:Option Addr) (c:Nat) (l:List UInt8) (A2:Option Addr) (c2:Nat) (l2:List UInt8) (hx:Byt w (.slice A l.length c) l) (hy:Byt w (.slice A2 l2.length c2) l2) (hne:l≠l2):Ret Tryz.prog 144 #[.slice A l.length c,.slice A2 l2.length c2] w (fun v w1=> ∃k:Int,v= .int .i64 k∧Mv [] 0 w w1∧k≠0):=by
 refine en 8 Tryz.func144 fun T E=>?_;have ho:=Below.refl w.heap.size w;refine go [5,1,4,5,0,0] ?_;intro T E;refine sr E (ru_extern (f:=158) (args:=[.slice A l.length c,.slice A2 l2.length c2]) (R:=fun v w1=> ∃k:Int,v= .int .i64 k∧Mv [] 0 w w1∧k≠0) E rfl rfl rfl Tryz.func158 (by kernel_rfl) rfl (by kernel_rfl) (by kernel_rfl) (run_cmp hx hy) ⟨_,rfl,Mv.refl _ _ _,cmp_ne (fun e=>hne (bs_inj.1 e))⟩) ?_;rintro _ w1 ⟨k_,rfl,e1,hk⟩ T E;have zw1:=e1.size;refine go [1,4,17] ?_;intro T E;replace ho:=old0 ho e1;refine post1_ret E rfl rfl ?_;exact ⟨_,rfl,Mv.of_below ho _ _,hk⟩
theorem size_f (w:World) (c:Cf) (g:Nat) (A:Option Addr) (cap:Nat) (p0:Value) (tv:Int) (z:Bool) (bv:w.heap[g]? =some (.cells #[.slice A c.n cap,p0,.int .i64 tv,.bool z] 206 (0,0))):Ret Tryz.prog 74 #[Pt g] w (fun v w1=>v= .int .i64 (c.n:Int)∧w=w1):=by
 refine en 8 Tryz.func74 fun T E=>?_;refine go [5,1,4,5,0,2,50,3,6,1,4,17] ?_;intro T E;refine post1_ret E rfl rfl ?_;exact ⟨rfl,rfl⟩
theorem cpp_nil (w:World) (q:Nat):Ret Tryz.prog 127 #[.pointer none,Pt q] w (fun v w1=>v= .pointer (some ⟨q,0,none⟩)∧w=w1):=by
 refine en 49 Tryz.func127 fun T E=>?_;refine go [5,1,4] ?_;intro T E;refine sk fun K1 hK1=>?_;refine go [5,0,13,4,14,5,0,1,4,17] ?_;intro T E;refine post1_ret E rfl rfl ?_;exact ⟨rfl,rfl⟩
theorem cpp_c (w:World) (p q:Nat) (s t:ST) (a1:Addr) (c1:Nat) (K1:Option Addr) (k1:Nat) (a2:Addr) (c2:Nat) (K2:Option Addr) (k2:Nat) (b1:w.heap[p]? =some (.cells #[.slice (some a1) s.ad.size c1,.iface 208 (.agg #[.slice K1 s.key.size k1,.slice (some a1) s.ad.size c1,.bool false]),Iw ((s.pw:Int)),Iw 0] 212 (0,0))) (b2:w.heap[q]? =some (.cells #[.slice (some a2) t.ad.size c2,.iface 208 (.agg #[.slice K2 t.key.size k2,.slice (some a2) t.ad.size c2,.bool false]),Iw ((t.pw:Int)),Iw 0] 212 (0,0))) (h1:Byt w (.slice (some a1) s.ad.size c1) (sb s.ad)) (h2:Byt w (.slice (some a2) t.ad.size c2) (sb t.ad)) (hne:s.ad≠t.ad):Ret Tryz.prog 127 #[Pt p,Pt q] w (fun v w1=> ∃u,v=u∧Mv [] 0 w w1∧(u= .pointer (some ⟨p,0,none⟩)∨u= .pointer (some ⟨q,0,none⟩))):=by
 refine en 49 Tryz.func127 fun T E=>?_;have ho:=Below.refl w.heap.size w;refine go [5,1,4] ?_;intro T E;refine sk fun K1 hK1=>?_;refine go [5,0,11,4,15,16] ?_;intro T E;refine hK1 _ _ ?_;refine wp_block ?_;refine wp_seq ?_;refine rgG 10 (Kv2 (Kv8 [])) [([],[0]),([0],[]),([1],[]),([2],[]),([],[1]),([4],[]),([5],[]),([6],[]),([3,7],[]),([8],[])] E (by
  refine dg [0,2,53,3,0,2,53,3] ?_;refine .cons (fun _ _ _ E _=>Ru.d (dv_gtr E rfl rfl rfl rfl)) ?_;exact dz [1]
  ) fun T w1 e1 hE hN=>?_
 have zw1:=e1.size;have E:=hE [9] [] trivial (by kernel_rfl);refine gn [4,15] ?_;refine wp_seq ?_;refine rgG 10 (Kv2 (Kv8 [])) [([],[0]),([0],[]),([1],[]),([2],[]),([],[1]),([4],[]),([5],[]),([6],[]),([3,7],[]),([8],[])] E (by
  refine dg [0,2,53] ?_;refine .cons (fun _ _ e_ E _=>Ru.d (dl E (e_.blk (e1.blk b1 rfl) rfl))) ?_;refine dg [0,2,53] ?_;refine .cons (fun _ _ e_ E _=>Ru.d (dl E (e_.blk (e1.blk b2 rfl) rfl))) ?_;refine .cons (fun _ _ _ E _=>Ru.d (dv_lss E rfl rfl rfl rfl)) ?_;exact dz [1]
  ) fun T w2 e2 hE hN=>?_
 have zw2:=e2.size;have E:=hE [9] [] trivial (by kernel_rfl);refine gn [4,15] ?_;refine wp_seq ?_;refine rgG 10 (Kv8 (kp (fun v_ W=> ∃k1_,v_=Iw k1_∧k1_≠0)::kp (fun v_ W=> ∃k1_,v_=Iw k1_∧k1_≠0):: [])) [([],[0]),([0],[]),([1],[]),([2],[]),([],[1]),([4],[]),([5],[]),([6],[]),([3,7],[]),([],[])] E (by
  refine dg [0,2,50] ?_;refine .cons (fun _ _ e_ E _=>Ru.d (dl E (e_.blk (e2.blk (e1.blk b1 rfl) rfl) rfl))) ?_;refine dg [0,2,50] ?_;refine .cons (fun _ _ e_ E _=>Ru.d (dl E (e_.blk (e2.blk (e1.blk b2 rfl) rfl) rfl))) ?_;refine .cons ?_ ?_
  ·intro T w_ e_ E hN;replace h1:=((h1.mv e1 rfl).mv e2 rfl).mv e_ rfl;replace h2:=((h2.mv e1 rfl).mv e2 rfl).mv e_ rfl;refine (rr E Tryz.func144 (compare_c w_ (some a1) c1 (sb s.ad) (some a2) c2 (sb t.ad) h1 h2 (fun e=>hne (sb_inj e)))).mono ?_;rintro _ w3 ⟨k1_,rfl,e3,hk2_⟩;have zw3:=e3.size;exact ⟨e3.up rfl (Nat.zero_le _),k1_,rfl,hk2_⟩
  refine .cons ?_ ?_
  ·intro T w_ e_ E hN;obtain ⟨v_,h_,k1_,rfl,hk2_⟩:=hN 8 (by kernel_rfl);have E:=E.add h_;exact Ru.v (da E) rfl ⟨Mv.refl _ _ _,k1_,rfl,hk2_⟩
  exact .nil
  ) (hst:= .qs 8 (.cons (.p (fun _ _ _ h _=>h)) (.cons (.p (fun _ _ _ h _=>h)) .nil))) fun T w4 e4 hE hN=>?_
 have zw4:=e4.size;obtain ⟨v_,h9_,k1__9,rfl,hk2__9⟩:=hN 9 (by kernel_rfl);have E:=hE [] [(5,_)] ⟨h9_,trivial⟩ (by kernel_rfl);refine go [4,18,5,0] ?_;intro T E;refine sv E (dv_lss E rfl rfl rfl rfl) fun T E=>?_;refine go [1,4] ?_;intro T E;refine c_s E rfl (fun hc4=> ?_) (fun hc4=> ?_)
 ·replace hc4:=of_decide_eq_true hc4;refine go [5,0,1,4,17] ?_;intro T E;replace ho:=old0 (old0 (old0 ho e1) e2) e4;refine post1_ret E rfl rfl ?_;exact ⟨_,rfl,Mv.of_below ho _ _,.inl rfl⟩
 ·replace hc4:=of_decide_eq_false hc4;refine go [5,0] ?_;intro T E;refine sv E (dv_gtr E rfl rfl rfl rfl) fun T E=>?_;refine go [1,4] ?_;intro T E;refine c_t E rfl (decide_eq_true (by omega)) ?_;refine go [5,0,1,4,17] ?_;intro T E;replace ho:=old0 (old0 (old0 ho e1) e2) e4;refine post1_ret E rfl rfl ?_;exact ⟨_,rfl,Mv.of_below ho _ _,.inr rfl⟩
theorem findProposer_c (w:World) (c:Cf) (hc:c.Ok) (g:Nat) (A:Option Addr) (cap:Nat) (vp:Nat→Nat) (p0:Value) (z:Bool) (bv:w.heap[g]? =some (.cells #[.slice A c.n cap,p0,.int .i64 0,.bool z] 206 (0,0))) (rv:Row w 204 A c.n (fun i=> .pointer (some ⟨vp i,0,none⟩))) (vv: ∀i,i<c.n→RdVal w (vp i) (c.seat i)):Ret Tryz.prog 100 #[Pt g] w (fun v w1=> ∃j,j<c.n∧v= .pointer (some ⟨vp j,0,none⟩)∧Mv [] 0 w w1):=by
 refine en 34 Tryz.func100 fun T E=>?_;have hn0:=hc.n0;have hn1:=hc.n1;have ybv:=heap_lt bv;have ho:=Below.refl w.heap.size w;refine go [5,1,4,5,1,4] ?_;intro T E;refine sk fun K1 hK1=>?_;refine go [5,0,2,50,3,6,0,4,18] ?_;intro T E;refine loopM (fun mm_ a_ W=> ∃(T:Array Value) (i:Nat) (pv:Value),a_=⟨T,[]⟩∧c.n-i=mm_∧Env T 34 [(3,pv),(9,.slice A c.n cap),(10,Iw ((c.n:Int))),(11,Iw ((i:Int)))]∧Row W 204 A c.n ((fun i=> .pointer (some ⟨vp i,0,none⟩)))∧(∀i,i<c.n→RdVal W (vp i) (c.seat i))∧Below w.heap.size w W∧i≤c.n∧((i=0∧pv= .pointer none)∨(∃j,j<i∧pv= .pointer (some ⟨vp j,0,none⟩)))) (c.n) ?_ ?_
 ·exact ⟨_,0,.pointer none,rfl,rfl,E.sb,rv,vv,ho,Nat.zero_le _,.inl ⟨rfl,rfl⟩⟩
 ·rintro mm_ _ w1 ⟨T,i,pv,rfl,rfl,E,rv,vv,ho,hi,hpv⟩;refine sq ?_;refine sv E (dv_lss E rfl rfl rfl (nc_lt i c.n)) fun T E=>?_;refine nq ?_;refine sk fun K2 hK2=>?_;refine c_s E rfl (fun hc1=> ?_) (fun hc1=> ?_)
  ·replace hc1:=of_decide_eq_true hc1;refine wp_skip ?_;refine hK2 _ _ ?_;refine sk fun K3 hK3=>?_;refine gn [18,5] ?_;refine sv E (dv_indexA (A:=A) (k:=1) (i:=i) (j:=i) E rfl rfl rfl (by kernel_rfl) (by omega) (Row.sure rv (by omega)) (Nat.mul_one _)) fun T E=>?_;refine sv E (dv_load (v:=Pt ((vp i))) E rfl rfl (by kernel_rfl) (Row.cell rv (by omega))) fun T E=>?_;refine go [1,4] ?_;intro T E;refine wp_seq ?_;obtain ⟨a_i,c_i,K_i,ck_i,bb_i,ba_i,bk_i⟩:=vv i (by omega);have pw_i:=hc.pw i (by omega);have ad_i:=hc.ad i (by omega);rcases hpv with ⟨hi0,rfl⟩ | ⟨j,hj,rfl⟩
   ·refine rgG 14 (Kv2 (Kv4 (Kv8 []))) [([],[3]),([0],[]),([1],[]),([2],[]),([2],[]),([2],[]),([2],[]),([2],[]),([2],[]),([2],[]),([2],[]),([2],[]),([2],[]),([2,12],[])] E (dz [0,13,0,19,19,19,19,19,19,19,19,19,19,8]) fun T w2 e2 hE hN=>?_;have zw2:=e2.size;have E:=hE [13] [] trivial (by kernel_rfl);refine go [4,14,21,0,0] ?_;intro T E;refine cl E Tryz.func127 (cpp_nil w2 (vp i)) ?_;rintro _ _ ⟨rfl,rfl⟩ T E;refine sv E (da E) fun T E=>?_;refine hK3 _ _ ?_;refine gn [21] ?_;refine sv E (dp E) fun T E=>?_;refine sv E (dm E) fun T E=>?_;refine wpList_nil ?_;replace rv:=rv.mv e2 rfl;replace vv:=RdVal.al vv e2 rfl rfl;replace ho:=old0 ho e2;exact ⟨_,by omega,_,i+1,_,rfl,rfl,E.sb,rv,vv,ho,by omega,.inr ⟨i,by omega,rfl⟩⟩
   ·obtain ⟨a_j,c_j,K_j,ck_j,bb_j,ba_j,bk_j⟩:=vv j (by omega);have pw_j:=hc.pw j (by omega);have ad_j:=hc.ad j (by omega);refine rgG 14 (Kv2 (Kv4 (Kv8 []))) [([],[3]),([0],[]),([1],[]),([2],[5]),([2,3],[]),([2,4],[]),([2,5],[]),([2],[3]),([2,7],[]),([2,8],[]),([2,9],[]),([2,6,10],[]),([2,11],[]),([2,12],[])] E (by
     refine dg [0,11,0,30,32,100] ?_;refine .cons ?_ ?_
     ·intro T w_ e_ E hN;replace bb_i:=e_.blk bb_i rfl;exact Ru.qw (dl E bb_i) (wanted_on (b:=false) E rfl rfl rfl rfl)
     refine dg [30,32,100] ?_;refine .cons ?_ ?_
     ·intro T w_ e_ E hN;replace bb_j:=e_.blk bb_j rfl;exact Ru.qw (dl E bb_j) (wanted_on (b:=false) E rfl rfl rfl rfl)
     refine .cons ?_ ?_
     ·intro T w_ e_ E hN;have z_:=e_.size;replace ba_i:=ba_i.mv e_ rfl;replace ba_j:=ba_j.mv e_ rfl;refine (rr E Tryz.func102 (ret_b (bytesEq_c w_ (some a_i) c_i (sb (c.seat i).ad) (some a_j) c_j (sb (c.seat j).ad) ba_i ba_j) (decide_eq_false (fun e=>(fun e=>absurd (hc.apart _ _ (by omega) (by omega) e) (by omega)) (sb_inj e)))) (wanted_on (b:=false) E rfl rfl rfl rfl)).mono ?_;rintro _ _ ⟨rfl,rfl⟩;exact ⟨Mv.refl _ _ _,rfl⟩
     refine .cons (fun _ _ _ E _=>Ru.qw (dv_not (b:=false) E rfl rfl) (wanted_on (b:=false) E rfl rfl rfl rfl)) ?_;exact dz [9]
     ) fun T w3 e3 hE hN=>?_
    have zw3:=e3.size;have E:=hE [13] [] trivial (by kernel_rfl);refine go [4,14,21,0,0] ?_;intro T E;replace bb_j:=e3.blk bb_j rfl;replace ba_j:=ba_j.mv e3 rfl;replace bb_i:=e3.blk bb_i rfl;replace ba_i:=ba_i.mv e3 rfl;refine cl E Tryz.func127 (cpp_c w3 (vp j) (vp i) (c.seat j) (c.seat i) a_j c_j K_j ck_j a_i c_i K_i ck_i bb_j bb_i ba_j ba_i (fun e=>absurd (hc.apart _ _ (by omega) (by omega) e) (by omega))) ?_;rintro _ w4 ⟨u1_,rfl,e4,hu2_⟩ T E;have zw4:=e4.size;refine sv E (da E) fun T E=>?_;refine hK3 _ _ ?_;refine gn [21] ?_;refine sv E (dp E) fun T E=>?_;refine sv E (dm E) fun T E=>?_;refine wpList_nil ?_;replace rv:=(rv.mv e3 rfl).mv e4 rfl;replace vv:=RdVal.al (RdVal.al vv e3 rfl rfl) e4 rfl rfl;replace ho:=old0 (old0 ho e3) e4;exact ⟨_,by omega,_,i+1,_,rfl,rfl,E.sb,rv,vv,ho,by omega,(hu2_.elim (fun e=> .inr ⟨j,by omega,e⟩) (fun e=> .inr ⟨i,by omega,e⟩))⟩
  ·replace hc1:=of_decide_eq_false hc1;refine wp_exit ?_;refine hK1 _ _ ?_;refine go [5,0,1,4,17] ?_;intro T E;obtain ⟨_,rfl⟩ | ⟨j,hj,rfl⟩:=hpv
   ·omega
   refine post1_ret E rfl rfl ?_;exact ⟨j,by omega,rfl,Mv.of_below ho _ _⟩
theorem allSame_c (w:World) (c:Cf) (hc:c.Ok) (g:Nat) (A:Option Addr) (cap:Nat) (vp:Nat→Nat) (p0:Value) (z:Bool) (bv:w.heap[g]? =some (.cells #[.slice A c.n cap,p0,.int .i64 0,.bool z] 206 (0,0))) (rv:Row w 204 A c.n (fun i=> .pointer (some ⟨vp i,0,none⟩))) (vv: ∀i,i<c.n→RdVal w (vp i) (c.seat i)):Ret Tryz.prog 99 #[Pt g] w (fun v w1=>v= .tuple #[]∧Mv [206] g w w1∧(∀b x,w.heap[b]? =some x→b≠g→w1.heap[b]? =some x)∧w1.heap[g]? =some (.cells #[.slice A c.n cap,p0,.int .i64 0,.bool true] 206 (0,0))):=by
 refine en 46 Tryz.func99 fun T E=>?_;have hn0:=hc.n0;have hn1:=hc.n1;have ybv:=heap_lt bv;have ho:=Below.refl w.heap.size w;have ch:=Mv.refl [206] g w;have ot: ∀b x,w.heap[b]? =some x→b≠g→w.heap[b]? =some x:=fun _ _ h _=>h;refine sk fun K1 hK1=>?_;refine go [5,0] ?_;intro T E;refine cl E Tryz.func74 (size_f w c g A cap p0 0 z bv) ?_;rintro _ _ ⟨rfl,rfl⟩ T E;refine sv E (dv_eql E rfl rfl rfl (decide_eq_false (by omega))) fun T E=>?_;refine gn [4,15,16] ?_;refine hK1 _ _ ?_;refine go [5,1,4] ?_;intro T E;refine sk fun K2 hK2=>?_;refine go [5,0,2,50,3,6,0,4,18] ?_;intro T E;refine loopM (fun mm_ a_ W=> ∃(T:Array Value) (i:Nat) (ft:ByteArray),a_=⟨T,[]⟩∧c.n-i=mm_∧Env T 46 [(0,Pt g),(2,.string ft),(14,.slice A c.n cap),(15,Iw ((c.n:Int))),(16,Iw ((i:Int)))]∧W.heap[g]? =some (.cells #[.slice A c.n cap,p0,Iw 0,.bool z] 206 (0,0))∧Row W 204 A c.n ((fun i=> .pointer (some ⟨vp i,0,none⟩)))∧(∀i,i<c.n→RdVal W (vp i) (c.seat i))∧i≤c.n∧((i=0∧ft=ByteArray.empty)∨(0<i∧ft=⟨#[112,108,97,105,110]⟩))∧Mv [206] g w W∧(∀b x,w.heap[b]? =some x→b≠g→W.heap[b]? =some x)) (c.n) ?_ ?_
 ·exact ⟨_,0,ByteArray.empty,rfl,rfl,E.sb,bv,rv,vv,Nat.zero_le _,.inl ⟨rfl,rfl⟩,ch,ot⟩
 ·rintro mm_ _ w1 ⟨T,i,ft,rfl,rfl,E,bv,rv,vv,hi,hft,ch,ot⟩;refine sq ?_;refine sv E (dv_lss E rfl rfl rfl (nc_lt i c.n)) fun T E=>?_;refine nq ?_;refine sk fun K3 hK3=>?_;refine c_s E rfl (fun hc2=> ?_) (fun hc2=> ?_)
  ·replace hc2:=of_decide_eq_true hc2;refine wp_skip ?_;refine hK3 _ _ ?_;refine sk fun K4 hK4=>?_;refine gn [18,5] ?_;refine sv E (dv_indexA (A:=A) (k:=1) (i:=i) (j:=i) E rfl rfl rfl (by kernel_rfl) (by omega) (Row.sure rv (by omega)) (Nat.mul_one _)) fun T E=>?_;refine sv E (dv_load (v:=Pt ((vp i))) E rfl rfl (by kernel_rfl) (Row.cell rv (by omega))) fun T E=>?_;refine go [1,4] ?_;intro T E;refine sk fun K5 hK5=>?_;refine wp_seq ?_;obtain ⟨a_i,c_i,K_i,ck_i,bb_i,ba_i,bk_i⟩:=vv i (by omega);have pw_i:=hc.pw i (by omega);have ad_i:=hc.ad i (by omega);rcases hft with ⟨hi0,rfl⟩ | ⟨hi0,rfl⟩
   ·refine go [21,0] ?_;intro T E;refine sv E (dv_as (c:=true) (dv_streql E rfl rfl rfl) (decide_eq_true rfl)) fun T E=>?_;refine gn [4,14] ?_;refine sk fun K6 hK6=>?_;refine go [5,0,2,51,3,24,4,15,16] ?_;intro T E;refine hK6 _ _ ?_;refine go [21,0,2,51,3] ?_;intro T E;refine sr E (ru_invoke (f:=197) (t:=208) (args:=[]) E rfl rfl rfl rfl (by kernel_rfl) Tryz.func197 (by kernel_rfl) rfl (keyType_c w1 (sb (c.seat i).key) K_i ck_i a_i (sb (c.seat i).ad) c_i)) ?_;rintro _ w2 ⟨rfl,e2⟩ T E;have zw2:=e2.size;refine sv E (da E) fun T E=>?_;refine hK5 _ _ ?_;replace bb_i:=e2.blk bb_i rfl;refine go [5,0,2,51,3] ?_;intro T E;replace bk_i:=bk_i.mv e2 rfl;replace ba_i:=ba_i.mv e2 rfl;refine sr E (ru_invoke (f:=197) (t:=208) (args:=[]) E rfl rfl rfl rfl (by kernel_rfl) Tryz.func197 (by kernel_rfl) rfl (keyType_c w2 (sb (c.seat i).key) K_i ck_i a_i (sb (c.seat i).ad) c_i)) ?_;rintro _ w3 ⟨rfl,e3⟩ T E;have zw3:=e3.size;refine sv E (dm E) fun T E=>?_;refine sv E (dv_as (c:=false) (dv_strneq E rfl rfl rfl) (by decide)) fun T E=>?_;refine gn [4,15,16] ?_;refine hK4 _ _ ?_;refine gn [21] ?_;refine sv E (dp E) fun T E=>?_;refine sv E (dm E) fun T E=>?_;refine wpList_nil ?_;replace bv:=e3.blk (e2.blk bv rfl) rfl;replace rv:=(rv.mv e2 rfl).mv e3 rfl;replace vv:=RdVal.al (RdVal.al vv e2 rfl rfl) e3 rfl rfl;replace ch:=mv0 (mv0 ch e2) e3;replace ot:=ot0 (ot0 ot e2) e3;exact ⟨_,by omega,_,i+1,⟨#[112,108,97,105,110]⟩,rfl,rfl,E.sb,bv,rv,vv,by omega,.inr ⟨by omega,rfl⟩,ch,ot⟩
   ·refine go [21,0] ?_;intro T E;refine sv E (dv_as (c:=false) (dv_streql E rfl rfl rfl) (by decide)) fun T E=>?_;refine gn [4,15,16] ?_;refine hK5 _ _ ?_;refine go [5,0,2,51,3] ?_;intro T E;refine sr E (ru_invoke (f:=197) (t:=208) (args:=[]) E rfl rfl rfl rfl (by kernel_rfl) Tryz.func197 (by kernel_rfl) rfl (keyType_c w1 (sb (c.seat i).key) K_i ck_i a_i (sb (c.seat i).ad) c_i)) ?_;rintro _ w4 ⟨rfl,e4⟩ T E;have zw4:=e4.size;refine sv E (dm E) fun T E=>?_;refine sv E (dv_as (c:=false) (dv_strneq E rfl rfl rfl) (by decide)) fun T E=>?_;refine gn [4,15,16] ?_;refine hK4 _ _ ?_;refine gn [21] ?_;refine sv E (dp E) fun T E=>?_;refine sv E (dm E) fun T E=>?_;refine wpList_nil ?_;replace bv:=e4.blk bv rfl;replace rv:=rv.mv e4 rfl;replace vv:=RdVal.al vv e4 rfl rfl;replace ch:=mv0 ch e4;replace ot:=ot0 ot e4;exact ⟨_,by omega,_,i+1,⟨#[112,108,97,105,110]⟩,rfl,rfl,E.sb,bv,rv,vv,by omega,.inr ⟨by omega,rfl⟩,ch,ot⟩
  ·replace hc2:=of_decide_eq_false hc2;refine wp_exit ?_;refine hK2 _ _ ?_;refine go [21,0,2,53] ?_;intro T E;refine sst (dk1 E bv) ?_;intro w5 e5 n1_ bv;have zw5:=e5.size;refine wpList_nil ?_;replace ch:=Mv.step ch e5 rfl (by omega);replace ot:=ot1 ot n1_;refine post0_normal rfl ?_;exact ⟨rfl,ch,ot,bv⟩
theorem OwnT.row {base e:Nat} {w:World} {A:Option Addr} {m c n:Nat} {f:Nat→Value} (h:OwnT base w e 1 (.slice A m c) n (fun i=> #[f i])):Row w e A n f:=fun hn=>by
  obtain ⟨g,o,cs,fr,h1,h2,h3⟩:=h.tab hn;exact ⟨g,o,cs,fr,h1,h2,fun j hj=>by
    have h4:=h3 j hj 0 (by omega);rw [Nat.mul_one,Nat.add_zero] at h4;exact h4⟩
theorem vv_snoc {w:World} {c:Cf} {vp:Nat→Nat} {i q:Nat} (h: ∀j,j<i→RdVal w (vp j) (c.seat j)) (hq:RdVal w q (c.seat i)): ∀j,j<i+1→RdVal w (updO vp i q j) (c.seat j):=fun j hj=>by
  by_cases e:j=i
  · subst e;rw [updO_at];exact hq
  · rw [updO_ne _ _ e];exact h j (by omega)
theorem findP_ex {P:Program} {f:Nat} {args:Array Value} {w:World} {n:Nat} {vp:Nat→Nat} (h:Ret P f args w (fun v w1=> ∃j,j<n∧v= .pointer (some ⟨vp j,0,none⟩)∧Mv [] 0 w w1)):Ret P f args w (fun v w1=> ∃j,v= .pointer (some ⟨vp j,0,none⟩)∧Mv [] 0 w w1∧j<n):=h.mono (fun _ _ ⟨j,h1,h2,h3⟩=>⟨j,h2,h3,h1⟩)
theorem setOf_c (w:World) (c:Cf) (hc:c.Ok) (B:Option Addr) (cb:Nat) (aa:Nat→Addr) (ac:Nat→Nat) (ka:Nat→Option Addr) (kc:Nat→Nat) (tb:Tab w 170 B 4 c.n (fun i=> #[.slice (some (aa i)) ((c.seat i).ad.size) ((ac i)),.slice (ka i) ((c.seat i).key.size) ((kc i)),Iw (((c.seat i).pw:Int)),Iw 0])) (hb:(∀i,i<c.n→Byt w (.slice (some (aa i)) ((c.seat i).ad.size) ((ac i))) (sb (c.seat i).ad)∧Byt w (.slice (ka i) ((c.seat i).key.size) ((kc i))) (sb (c.seat i).key))):Ret Tryz.prog 75 #[.slice B c.n cb] w (fun v w1=> ∃g A cap vp pr,v= .pointer (some ⟨g,0,none⟩)∧Mv [] 0 w w1∧w.heap.size≤g∧(∃j,j<c.n∧pr=vp j)∧VRep w1 c g A cap vp pr 0):=by
 refine en 46 Tryz.func75 fun T E=>?_;have hn0:=hc.n0;have hn1:=hc.n1;have tb_l:=tb.tlt hn0;have ho:=Below.refl w.heap.size w;refine go [5,1,4,5] ?_;intro T E;refine sv E (dv_build (vs:=[]) (C:=#[.slice none 0 0,.pointer none,Iw 0,.bool false]) E rfl rfl (by kernel_rfl)) fun T E=>?_;refine sr E (rbx E) ?_;rintro _ w1 ⟨g1_,rfl,e1,lg1_,xg1_,b2_⟩ T E;have zw1:=e1.size;have yg1_:=heap_lt b2_;refine go [1,4] ?_;intro T E;refine sk fun K1 hK1=>?_;refine go [5,0,6,0,4,18] ?_;intro T E;replace tb:=tb.mv e1 rfl;replace hb:(∀i,i<c.n→Byt w1 (.slice (some (aa i)) ((c.seat i).ad.size) ((ac i))) (sb (c.seat i).ad)∧Byt w1 (.slice (ka i) ((c.seat i).key.size) ((kc i))) (sb (c.seat i).key)):=(fun i hi=>⟨(hb i hi).1.mv e1 rfl,(hb i hi).2.mv e1 rfl⟩);replace ho:=old0 ho e1;refine loopM (fun mm_ a_ W=> ∃(T:Array Value) (vp:Nat→Nat) (A:Option Addr) (cap:Nat) (i:Nat),a_=⟨T,[]⟩∧c.n-i=mm_∧Env T 46 [(3,Pt g1_),(8,.slice B c.n cb),(9,Iw ((c.n:Int))),(10,Iw ((i:Int)))]∧Tab W 170 B 4 c.n ((fun i=> #[.slice (some (aa i)) ((c.seat i).ad.size) ((ac i)),.slice (ka i) ((c.seat i).key.size) ((kc i)),Iw (((c.seat i).pw:Int)),Iw 0]))∧(∀i,i<c.n→Byt W (.slice (some (aa i)) ((c.seat i).ad.size) ((ac i))) (sb (c.seat i).ad)∧Byt W (.slice (ka i) ((c.seat i).key.size) ((kc i))) (sb (c.seat i).key))∧Below w.heap.size w W∧W.heap[g1_]? =some (.cells #[.slice A i cap,.pointer none,Iw 0,.bool false] 206 (0,0))∧OwnT w.heap.size W 204 1 (.slice A i cap) i (fun j=> #[.pointer (some ⟨vp j,0,none⟩)])∧(∀j,j<i→RdVal W (vp j) (c.seat j))∧i≤c.n∧w.heap.size≤W.heap.size) (c.n) ?_ ?_
 ·exact ⟨_,fun _=>0,none,0,0,rfl,rfl,E.sb,tb,hb,ho,b2_,OwnT.nil,(fun j hj=>by omega),Nat.zero_le _,by omega⟩
 ·rintro mm_ _ w2 ⟨T,vp,A,cap,i,rfl,rfl,E,tb,hb,ho,bg,ow,vv,hi,hsz⟩;refine sq ?_;refine sv E (dv_lss E rfl rfl rfl (nc_lt i c.n)) fun T E=>?_;refine nq ?_;refine sk fun K2 hK2=>?_;refine c_s E rfl (fun hc1=> ?_) (fun hc1=> ?_)
  ·replace hc1:=of_decide_eq_true hc1;refine wp_skip ?_;refine hK2 _ _ ?_;refine sk fun K3 hK3=>?_;refine gn [18,5] ?_;refine sv E (dI B 4 i (i*4) E tb) fun T E=>?_;refine sv E (dv_loadRow (k:=4) (vs:=#[.slice (some (aa i)) ((c.seat i).ad.size) ((ac i)),.slice (ka i) ((c.seat i).key.size) ((kc i)),Iw (((c.seat i).pw:Int)),Iw 0]) E rfl rfl (by kernel_rfl) (by kernel_rfl) rfl (Tab.sub (r:=0) tb (by omega) rfl rfl (fun j hj=>by match j,hj with | 0,_=>rfl | 1,_=>rfl | 2,_=>rfl | 3,_=>rfl))) fun T E=>?_;refine sr E (ral (.agg #[.slice none 0 0,.slice none 0 0,Iw 0,Iw 0])) ?_;rintro _ w3 ⟨g3_,rfl,e3,lg3_,xg3_,b4_⟩ T E;have zw3:=e3.size;have yg3_:=heap_lt b4_;refine sst (dS [.slice (some (aa i)) ((c.seat i).ad.size) ((ac i)),.slice (ka i) ((c.seat i).key.size) ((kc i)),Iw (((c.seat i).pw:Int)),Iw 0] E b4_) ?_;intro w4 e4 n5_ b4_;have zw4:=e4.size;refine nq ?_;replace ow:=(ow.mv e3 rfl).mv e4 rfl;have mk6_: ∀q,w4.heap.size≤q→some q≠(.slice A i cap:Value).ownBlock:=fun q hq=>OwnT.ob ow hq;refine rgX 23 20 [204] (w.heap.size) (Mkw 204 w.heap.size w4) (Kv2 (Kv8 (Kv8 (kp (fun v_ W=> ∃g7_,v_=Pt g7_∧w4.heap.size≤g7_∧W.heap[g7_]? =some (.cells #[.slice (some (aa i)) ((c.seat i).ad.size) ((ac i)),.iface 208 (.agg #[.slice (ka i) ((c.seat i).key.size) ((kc i)),.slice (some (aa i)) ((c.seat i).ad.size) ((ac i)),.bool false]),Iw (((c.seat i).pw:Int)),Iw 0] 212 (0,0)))::kp (fun v_ W=> ∃g7_,∃g9_,v_= .slice (some ⟨g9_,0,none⟩) 1 1∧w4.heap.size≤g9_∧W.heap[g9_]? =some (.cells #[Pt g7_] 204 (0,0))∧w4.heap.size≤g7_∧W.heap[g7_]? =some (.cells #[.slice (some (aa i)) ((c.seat i).ad.size) ((ac i)),.iface 208 (.agg #[.slice (ka i) ((c.seat i).key.size) ((kc i)),.slice (some (aa i)) ((c.seat i).ad.size) ((ac i)),.bool false]),Iw (((c.seat i).pw:Int)),Iw 0] 212 (0,0)))::kp (fun v_ W=> ∃g7_,∃g9_,∃A11_,∃c12_,v_= .slice A11_ (i+1) c12_∧OwnT w.heap.size W 204 1 (.slice A11_ (i+1) c12_) (i+1) (updT (fun j=> #[.pointer (some ⟨vp j,0,none⟩)]) i #[Pt g7_])∧w4.heap.size≤g7_∧W.heap[g7_]? =some (.cells #[.slice (some (aa i)) ((c.seat i).ad.size) ((ac i)),.iface 208 (.agg #[.slice (ka i) ((c.seat i).key.size) ((kc i)),.slice (some (aa i)) ((c.seat i).ad.size) ((ac i)),.bool false]),Iw (((c.seat i).pw:Int)),Iw 0] 212 (0,0))∧w4.heap.size≤g9_)::Kv2 [])))) [([],[3]),([],[3]),([1],[]),([2],[]),([3],[]),([],[5]),([5],[]),([],[5]),([7],[]),([],[5]),([9],[]),([8,10],[]),([11],[]),([],[5]),([13],[]),([],[5]),([15],[]),([6,12,14,16],[]),([17],[]),([],[]),([4],[]),([0],[]),([21],[])] E (by
    refine dg [0,0,2,50] ?_;refine .cons (fun _ _ e_ E _=>Ru.d (dl E (e_.blk (e4.blk (e3.blk bg rfl) rfl) rfl))) ?_;refine dg [50,3,51,3,50,3] ?_;refine .cons (fun _ _ _ E _=>Ru.d (dv_build (vs:=[(0,.slice (ka i) ((c.seat i).key.size) ((kc i))),(1,.slice (some (aa i)) ((c.seat i).ad.size) ((ac i)))]) (C:=#[.slice (ka i) ((c.seat i).key.size) ((kc i)),.slice (some (aa i)) ((c.seat i).ad.size) ((ac i)),.bool false]) E rfl rfl (by kernel_rfl))) ?_;refine .cons (fun _ _ _ E _=>Ru.d (dv_makeIf E rfl rfl (by kernel_rfl))) ?_;refine dg [52,3,53,3] ?_;refine .cons (fun _ _ _ E _=>Ru.d (dv_build (vs:=[(0,.slice (some (aa i)) ((c.seat i).ad.size) ((ac i))),(1,.iface 208 (.agg #[.slice (ka i) ((c.seat i).key.size) ((kc i)),.slice (some (aa i)) ((c.seat i).ad.size) ((ac i)),.bool false])),(2,Iw (((c.seat i).pw:Int))),(3,Iw 0)]) (C:=#[.slice (some (aa i)) ((c.seat i).ad.size) ((ac i)),.iface 208 (.agg #[.slice (ka i) ((c.seat i).key.size) ((kc i)),.slice (some (aa i)) ((c.seat i).ad.size) ((ac i)),.bool false]),Iw (((c.seat i).pw:Int)),Iw 0]) E rfl rfl (by kernel_rfl))) ?_;refine .cons ?_ ?_
    ·intro T w_ e_ E hN;have z_:=e_.size;refine (rbx E).mono ?_;rintro _ w5 ⟨g7_,rfl,e5,lg7_,xg7_,b8_⟩;have zw5:=e5.size;have yg7_:=heap_lt b8_;replace lg7_:w4.heap.size≤g7_:=by omega
     exact ⟨e5.up rfl (Nat.zero_le _),g7_,rfl,lg7_,b8_⟩
    refine .cons ?_ ?_
    ·intro T w_ e_ E hN;have z_:=e_.size;obtain ⟨v_,h_,g7_,rfl,lg7_,b8_⟩:=hN 18 (by kernel_rfl);have E:=E.add h_;refine (rb1 (e:=204) (k:=1) E).mono ?_;rintro _ w6 ⟨g9_,rfl,e6,lg9_,xg9_,b10_⟩;have zw6:=e6.size;have yg9_:=heap_lt b10_;replace lg9_:w4.heap.size≤g9_:=by omega
     replace lg7_:=lg7_;replace b8_:=e6.blk b8_ rfl;exact ⟨e6.up rfl (Nat.zero_le _),g7_,g9_,rfl,lg9_,b10_,lg7_,b8_⟩
    refine .cons ?_ ?_
    ·intro T w_ e_ E hN;have z_:=e_.size;obtain ⟨v_,h_,g7_,g9_,rfl,lg9_,b10_,lg7_,b8_⟩:=hN 19 (by kernel_rfl);have E:=E.add h_;replace ow:=ow.mv e_ rfl;refine (ru_appT (base:=w.heap.size) (e:=204) (k:=1) (by_:=8) (z:= .pointer none) (m:=i) (vals:=fun j=> #[.pointer (some ⟨vp j,0,none⟩)]) (cs:=#[Pt g7_]) E rfl rfl rfl rfl (by kernel_rfl) (infoB_of (by kernel_rfl)) rfl (by decide) ow b10_ rfl rfl (by omega) (by decide) (by omega)).mono ?_;rintro _ w7 ⟨A11_,c12_,rfl,e7,gr13_,ot14_⟩;have zw7:=e7.size;replace lg7_:=lg7_;replace b8_:=e7.blk b8_ rfl;replace lg9_:=lg9_;exact ⟨⟨e7,fun q o hq ho=>(gr13_.block q (heap_lt ho) (mk6_ q hq)).trans ho⟩,g7_,g9_,A11_,c12_,rfl,ot14_,lg7_,b8_,lg9_⟩
    exact dz [2,50]
    ) (hst:= .qs 18 (.cons (.p (fun _ _ _ ⟨g7_,e,lg7_,b8_⟩ m=>⟨g7_,e,lg7_,m.blk b8_ rfl⟩)) (.cons (.p (fun _ _ _ ⟨g7_,g9_,e,lg9_,b10_,lg7_,b8_⟩ m=>⟨g7_,g9_,e,lg9_,m.blk b10_ rfl,lg7_,m.blk b8_ rfl⟩)) (.cons (.p (fun _ _ _ ⟨g7_,g9_,A11_,c12_,e,ot14_,lg7_,b8_,lg9_⟩ m=>⟨g7_,g9_,A11_,c12_,e,ot14_.mv m rfl,lg7_,m.blk b8_ rfl,lg9_⟩)) (.qs 2 .nil))))) (hst1:= .qk 18 (.cons (.p (fun _ _ _ ⟨g7_,e,lg7_,b8_⟩ m=>⟨g7_,e,lg7_,m.1.blk b8_ rfl⟩)) (.cons (.p (fun _ _ _ ⟨g7_,g9_,e,lg9_,b10_,lg7_,b8_⟩ m=>⟨g7_,g9_,e,lg9_,m.2 _ _ lg9_ b10_,lg7_,m.1.blk b8_ rfl⟩)) (.cons (.inl rfl) (.qk 2 .nil))))) fun T w8 e8 hE hN=>?_
   have zw8:=e8.size;obtain ⟨v_,h20_,g7__20,g9__20,A11__20,c12__20,rfl,ot14__20,lg7__20,b8__20,lg9__20⟩:=hN 20 (by kernel_rfl);have E:=hE [22] [(34,_)] ⟨h20_,trivial⟩ (by kernel_rfl);show wpList _ _ _ (_::_) _ _;replace bg:=e8.blk (e4.blk (e3.blk bg rfl) rfl) rfl;refine sst (dk1 E bg) ?_;intro w9 e9 n15_ bg;have zw9:=e9.size;refine hK3 _ _ ?_;refine gn [21] ?_;refine sv E (dp E) fun T E=>?_;refine sv E (dm E) fun T E=>?_;refine wpList_nil ?_;replace ot14__20:=ot14__20.mv e9 rfl;replace b8__20:=e9.blk b8__20 rfl;replace vv:=RdVal.al (RdVal.al (RdVal.al (RdVal.al vv e3 rfl rfl) e4 rfl rfl) e8 rfl rfl) e9 rfl rfl;replace hb:(∀i,i<c.n→Byt w3 (.slice (some (aa i)) ((c.seat i).ad.size) ((ac i))) (sb (c.seat i).ad)∧Byt w3 (.slice (ka i) ((c.seat i).key.size) ((kc i))) (sb (c.seat i).key)):=(fun i hi=>⟨(hb i hi).1.mv e3 rfl,(hb i hi).2.mv e3 rfl⟩);replace hb:(∀i,i<c.n→Byt w4 (.slice (some (aa i)) ((c.seat i).ad.size) ((ac i))) (sb (c.seat i).ad)∧Byt w4 (.slice (ka i) ((c.seat i).key.size) ((kc i))) (sb (c.seat i).key)):=(fun i hi=>⟨(hb i hi).1.mv e4 rfl,(hb i hi).2.mv e4 rfl⟩);replace hb:(∀i,i<c.n→Byt w8 (.slice (some (aa i)) ((c.seat i).ad.size) ((ac i))) (sb (c.seat i).ad)∧Byt w8 (.slice (ka i) ((c.seat i).key.size) ((kc i))) (sb (c.seat i).key)):=(fun i hi=>⟨(hb i hi).1.mv e8 rfl,(hb i hi).2.mv e8 rfl⟩);replace hb:(∀i,i<c.n→Byt w9 (.slice (some (aa i)) ((c.seat i).ad.size) ((ac i))) (sb (c.seat i).ad)∧Byt w9 (.slice (ka i) ((c.seat i).key.size) ((kc i))) (sb (c.seat i).key)):=(fun i hi=>⟨(hb i hi).1.mv e9 rfl,(hb i hi).2.mv e9 rfl⟩);replace tb:=(((tb.mv e3 rfl).keep tb_l e4 (by omega)).mv e8 rfl).mv e9 rfl;replace ho:=old1 (old1 (old1 (old0 ho e3) e4 (by omega)) e8 (by omega)) e9 (by omega);replace hsz:=(Nat.le_trans (Nat.le_trans (Nat.le_trans (Nat.le_trans hsz e3.size) e4.size) e8.size) e9.size);exact ⟨_,by omega,_,updO vp i g7__20,A11__20,c12__20,i+1,rfl,rfl,E.sb,tb,hb,ho,bg,OwnT.congr ot14__20 (fun j hj=>by by_cases e:j=i <;> simp [updT,updO,e]),vv_snoc vv ⟨_,_,_,_,b8__20,(hb i (by omega)).1,(hb i (by omega)).2⟩,by omega,hsz⟩
  ·replace hc1:=of_decide_eq_false hc1;refine wp_exit ?_;refine hK1 _ _ ?_;obtain rfl:i=c.n:=by omega
   have rv:=OwnT.row ow;refine go [5,0] ?_;intro T E;refine cl E Tryz.func99 (allSame_c w2 c hc g1_ A cap vp (.pointer none) false bg rv vv) ?_;rintro _ w10 ⟨rfl,e10,n16_,bg⟩ T E;have zw10:=e10.size;refine go [4,5,0,0] ?_;intro T E;replace rv:=rv.mv e10 rfl;replace vv:=RdVal.al vv e10 rfl rfl;refine cl E Tryz.func100 (findP_ex (findProposer_c w10 c hc g1_ A cap vp (.pointer none) true bg rv vv)) ?_;rintro _ w11 ⟨j17_,rfl,e11,hj18_⟩ T E;have zw11:=e11.size;refine go [2,51] ?_;intro T E;replace bg:=e11.blk bg rfl;refine sst (dk1 E bg) ?_;intro w12 e12 n19_ bg;have zw12:=e12.size;refine go [4,5,0,1,4,17] ?_;intro T E;replace ho:=old1 (old0 (old1 ho e10 (by omega)) e11) e12 (by omega);replace hj18_:=hj18_;replace rv:=(rv.mv e11 rfl).mv e12 rfl;replace vv:=RdVal.al (RdVal.al vv e11 rfl rfl) e12 rfl rfl;refine post1_ret E rfl rfl ?_;exact ⟨g1_,A,cap,vp,(vp j17_),rfl,Mv.of_below ho _ _,by omega,⟨_,hj18_,rfl⟩,⟨bg,rv,vv⟩⟩
theorem hb_snoc {w:World} {c:Cf} {aa:Nat→Addr} {ac:Nat→Nat} {ka:Nat→Option Addr} {kc:Nat→Nat} {i:Nat} (h: ∀j,j<i→Byt w (.slice (some (aa j)) ((c.seat j).ad.size) ((ac j))) (sb (c.seat j).ad)∧Byt w (.slice (ka j) ((c.seat j).key.size) ((kc j))) (sb (c.seat j).key)) {a:Addr} {k:Option Addr} {n m:Nat} (h1:Byt w (.slice (some a) (c.seat i).ad.size n) (sb (c.seat i).ad)) (h2:Byt w (.slice k (c.seat i).key.size m) (sb (c.seat i).key)):
    ∀j,j<i+1→Byt w (.slice (some ((updO aa i a) j)) ((c.seat j).ad.size) ((updO ac i n) j)) (sb (c.seat j).ad)∧Byt w (.slice ((updO ka i k) j) ((c.seat j).key.size) ((updO kc i m) j)) (sb (c.seat j).key):=fun j hj=>by
  by_cases e:j=i
  · subst e;simp only [updO_at];exact ⟨h1,h2⟩
  · simp only [updO_ne _ _ e];exact h j (by omega)
theorem implSet_c (w:World) (c:Cf) (hc:c.Ok) (A0:Option Addr) (cb:Nat) (ti:Tab w 78 A0 3 c.n (fun i=> #[.string ((c.seat i).ad),.string ((c.seat i).key),Iw (((c.seat i).pw:Int))])):Ret Tryz.prog 38 #[.slice A0 c.n cb] w (fun v w1=> ∃g A cap vp pr,v= .pointer (some ⟨g,0,none⟩)∧Mv [] 0 w w1∧w.heap.size≤g∧(∃j,j<c.n∧pr=vp j)∧VRep w1 c g A cap vp pr 0):=by
 refine en 27 Tryz.func38 fun T E=>?_;have hn0:=hc.n0;have hn1:=hc.n1;have ti_l:=ti.tlt hn0;have ho:=Below.refl w.heap.size w;refine go [5,1,4,5,1,4] ?_;intro T E;refine sk fun K1 hK1=>?_;refine go [5,0,6,0,4,18] ?_;intro T E;refine loopM (fun mm_ a_ W=> ∃(T:Array Value) (aa:Nat→Addr) (ac:Nat→Nat) (ka:Nat→Option Addr) (kc:Nat→Nat) (A:Option Addr) (cap:Nat) (i:Nat),a_=⟨T,[]⟩∧c.n-i=mm_∧Env T 27 [(3,.slice A i cap),(6,.slice A0 c.n cb),(7,Iw ((c.n:Int))),(8,Iw ((i:Int)))]∧Tab W 78 A0 3 c.n ((fun i=> #[.string ((c.seat i).ad),.string ((c.seat i).key),Iw (((c.seat i).pw:Int))]))∧(∀j,j<i→Byt W (.slice (some (aa j)) ((c.seat j).ad.size) ((ac j))) (sb (c.seat j).ad)∧Byt W (.slice (ka j) ((c.seat j).key.size) ((kc j))) (sb (c.seat j).key))∧Below w.heap.size w W∧OwnT w.heap.size W 170 4 (.slice A i cap) i (fun i=> #[.slice (some (aa i)) ((c.seat i).ad.size) ((ac i)),.slice (ka i) ((c.seat i).key.size) ((kc i)),Iw (((c.seat i).pw:Int)),Iw 0])∧i≤c.n∧w.heap.size≤W.heap.size) (c.n) ?_ ?_
 ·exact ⟨_,fun _=>⟨0,0,none⟩,fun _=>0,fun _=>none,fun _=>0,none,0,0,rfl,rfl,E.sb,ti,(fun j hj=>by omega),ho,OwnT.nil,Nat.zero_le _,by omega⟩
 ·rintro mm_ _ w1 ⟨T,aa,ac,ka,kc,A,cap,i,rfl,rfl,E,ti,hb,ho,ow,hi,hsz⟩;refine sq ?_;refine sv E (dv_lss E rfl rfl rfl (nc_lt i c.n)) fun T E=>?_;refine nq ?_;refine sk fun K2 hK2=>?_;refine c_s E rfl (fun hc1=> ?_) (fun hc1=> ?_)
  ·replace hc1:=of_decide_eq_true hc1;refine wp_skip ?_;refine hK2 _ _ ?_;refine sk fun K3 hK3=>?_;refine gn [18,5] ?_;refine sv E (dI A0 3 i (i*3) E ti) fun T E=>?_;refine sv E (dv_loadRow (k:=3) (vs:=#[.string ((c.seat i).ad),.string ((c.seat i).key),Iw (((c.seat i).pw:Int))]) E rfl rfl (by kernel_rfl) (by kernel_rfl) rfl (Tab.sub (r:=0) ti (by omega) rfl rfl (fun j hj=>by match j,hj with | 0,_=>rfl | 1,_=>rfl | 2,_=>rfl))) fun T E=>?_;refine sr E (ral (.agg #[.string ByteArray.empty,.string ByteArray.empty,Iw 0])) ?_;rintro _ w2 ⟨g1_,rfl,e2,lg1_,xg1_,b2_⟩ T E;have zw2:=e2.size;have yg1_:=heap_lt b2_;refine sst (dS [.string ((c.seat i).ad),.string ((c.seat i).key),Iw (((c.seat i).pw:Int))] E b2_) ?_;intro w3 e3 n3_ b2_;have zw3:=e3.size;refine go [4,21,0,50,3] ?_;intro T E;refine sr E (ru_cvtSB E rfl rfl rfl (by kernel_rfl) (by kernel_rfl)) ?_;rintro _ w4 ⟨g4_,c5_,rfl,e4,lg4_,y6_⟩ T E;have zw4:=e4.size;replace b2_:=e4.blk b2_ rfl;refine go [51,3] ?_;intro T E;refine sr E (ru_cvtSB E rfl rfl rfl (by kernel_rfl) (by kernel_rfl)) ?_;rintro _ w5 ⟨g7_,c8_,rfl,e5,lg7_,y9_⟩ T E;have zw5:=e5.size;replace b2_:=e5.blk b2_ rfl;refine go [52,3] ?_;intro T E;refine sv E (dv_build (vs:=[(0,.slice (some ⟨g4_,0,none⟩) (((c.seat i).ad).size) c5_),(1,.slice (some ⟨g7_,0,none⟩) (((c.seat i).key).size) c8_),(2,Iw (((c.seat i).pw:Int)))]) (C:=#[.slice (some ⟨g4_,0,none⟩) (((c.seat i).ad).size) c5_,.slice (some ⟨g7_,0,none⟩) (((c.seat i).key).size) c8_,Iw (((c.seat i).pw:Int)),Iw 0]) E rfl rfl (by kernel_rfl)) fun T E=>?_;refine sr E (rb1 (e:=170) (k:=4) E) ?_;rintro _ w6 ⟨g10_,rfl,e6,lg10_,xg10_,b11_⟩ T E;have zw6:=e6.size;have yg10_:=heap_lt b11_;replace ow:=((((ow.mv e2 rfl).mv e3 rfl).mv e4 rfl).mv e5 rfl).mv e6 rfl;refine sr E (ru_appT (base:=w.heap.size) (e:=170) (k:=4) (by_:=64) (z:= .agg #[.slice none 0 0,.slice none 0 0,Iw 0,Iw 0]) (m:=i) (vals:=fun i=> #[.slice (some (aa i)) ((c.seat i).ad.size) ((ac i)),.slice (ka i) ((c.seat i).key.size) ((kc i)),Iw (((c.seat i).pw:Int)),Iw 0]) (cs:=#[.slice (some ⟨g4_,0,none⟩) (((c.seat i).ad).size) c5_,.slice (some ⟨g7_,0,none⟩) (((c.seat i).key).size) c8_,Iw (((c.seat i).pw:Int)),Iw 0]) E rfl rfl rfl rfl (by kernel_rfl) (infoB_of (by kernel_rfl)) rfl (by decide) ow b11_ rfl rfl (by omega) (by decide) (by omega)) ?_;rintro _ w7 ⟨A12_,c13_,rfl,e7,gr14_,ot15_⟩ T E;have zw7:=e7.size;refine sv E (da E) fun T E=>?_;refine hK3 _ _ ?_;refine gn [21] ?_;refine sv E (dp E) fun T E=>?_;refine sv E (dm E) fun T E=>?_;refine wpList_nil ?_;replace hb:(∀j,j<i→Byt w2 (.slice (some (aa j)) ((c.seat j).ad.size) ((ac j))) (sb (c.seat j).ad)∧Byt w2 (.slice (ka j) ((c.seat j).key.size) ((kc j))) (sb (c.seat j).key)):=(fun i hi=>⟨(hb i hi).1.mv e2 rfl,(hb i hi).2.mv e2 rfl⟩);replace hb:(∀j,j<i→Byt w3 (.slice (some (aa j)) ((c.seat j).ad.size) ((ac j))) (sb (c.seat j).ad)∧Byt w3 (.slice (ka j) ((c.seat j).key.size) ((kc j))) (sb (c.seat j).key)):=(fun i hi=>⟨(hb i hi).1.mv e3 rfl,(hb i hi).2.mv e3 rfl⟩);replace hb:(∀j,j<i→Byt w4 (.slice (some (aa j)) ((c.seat j).ad.size) ((ac j))) (sb (c.seat j).ad)∧Byt w4 (.slice (ka j) ((c.seat j).key.size) ((kc j))) (sb (c.seat j).key)):=(fun i hi=>⟨(hb i hi).1.mv e4 rfl,(hb i hi).2.mv e4 rfl⟩);replace hb:(∀j,j<i→Byt w5 (.slice (some (aa j)) ((c.seat j).ad.size) ((ac j))) (sb (c.seat j).ad)∧Byt w5 (.slice (ka j) ((c.seat j).key.size) ((kc j))) (sb (c.seat j).key)):=(fun i hi=>⟨(hb i hi).1.mv e5 rfl,(hb i hi).2.mv e5 rfl⟩);replace hb:(∀j,j<i→Byt w6 (.slice (some (aa j)) ((c.seat j).ad.size) ((ac j))) (sb (c.seat j).ad)∧Byt w6 (.slice (ka j) ((c.seat j).key.size) ((kc j))) (sb (c.seat j).key)):=(fun i hi=>⟨(hb i hi).1.mv e6 rfl,(hb i hi).2.mv e6 rfl⟩);replace hb:(∀j,j<i→Byt w7 (.slice (some (aa j)) ((c.seat j).ad.size) ((ac j))) (sb (c.seat j).ad)∧Byt w7 (.slice (ka j) ((c.seat j).key.size) ((kc j))) (sb (c.seat j).key)):=(fun i hi=>⟨(hb i hi).1.mv e7 rfl,(hb i hi).2.mv e7 rfl⟩);replace y6_:=((y6_.mv e5 rfl).mv e6 rfl).mv e7 rfl;replace y9_:=(y9_.mv e6 rfl).mv e7 rfl;replace ti:=(((((ti.mv e2 rfl).keep ti_l e3 (by omega)).mv e4 rfl).mv e5 rfl).mv e6 rfl).mv e7 rfl;replace ho:=old1 (old0 (old0 (old0 (old1 (old0 ho e2) e3 (by omega)) e4) e5) e6) e7 (by omega);replace hsz:=(Nat.le_trans (Nat.le_trans (Nat.le_trans (Nat.le_trans (Nat.le_trans (Nat.le_trans hsz e2.size) e3.size) e4.size) e5.size) e6.size) e7.size);exact ⟨_,by omega,_,updO aa i ⟨g4_,0,none⟩,updO ac i c5_,updO ka i (some ⟨g7_,0,none⟩),updO kc i c8_,A12_,c13_,i+1,rfl,rfl,E.sb,ti,hb_snoc hb y6_ y9_,ho,OwnT.congr ot15_ (fun j hj=>by by_cases e:j=i <;> simp [updT,updO,e]),by omega,hsz⟩
  ·replace hc1:=of_decide_eq_false hc1;refine wp_exit ?_;refine hK1 _ _ ?_;obtain rfl:i=c.n:=by omega
   have tb:=OwnT.tab ow;refine go [5,0] ?_;intro T E;refine cl E Tryz.func75 (setOf_c w1 c hc A cap aa ac ka kc tb hb) ?_;rintro _ w8 ⟨g16_,Aq17_,capq17_,vpq17_,prq17_,rfl,e8,lg16_,hpj,vr⟩ T E;have zw8:=e8.size;refine go [1,4,17] ?_;intro T E;replace ho:=old0 ho e8;refine post1_ret E rfl rfl ?_;exact ⟨g16_,_,_,_,_,rfl,Mv.of_below ho _ _,by omega,hpj,vr⟩
def Kp (k a b:Nat) (w W:World):Prop:=∀q o,w.heap[q]? =some o→okind o=k→q≠a→q≠b→W.heap[q]? =some o
theorem Kp.refl (k a b:Nat) (w:World):Kp k a b w w:=fun _ _ h _ _ _=>h
theorem Kp.mv {k a b:Nat} {w W W1:World} {σ:List Nat} {base:Nat} (h:Kp k a b w W) (e:Mv σ base W W1) (hs:σ.contains k=false):Kp k a b w W1:=fun q o h1 h2 h3 h4=>e.keep q o (h q o h1 h2 h3 h4) (.inr (by rw [h2];exact hs))
theorem Kp.stA {k a b:Nat} {w W W1:World} (h:Kp k a b w W) (n: ∀q x,W.heap[q]? =some x→q≠a→W1.heap[q]? =some x):Kp k a b w W1:=fun q o h1 h2 h3 h4=>n q o (h q o h1 h2 h3 h4) h3
theorem Kp.stB {k a b:Nat} {w W W1:World} (h:Kp k a b w W) (n: ∀q x,W.heap[q]? =some x→q≠b→W1.heap[q]? =some x):Kp k a b w W1:=fun q o h1 h2 h3 h4=>n q o (h q o h1 h2 h3 h4) h4
theorem Kp.kp {k a b a2 b2:Nat} {w W W1:World} (h:Kp k a b w W) (n:Kp k a2 b2 W W1) (ha:a2=a∨a2=b) (hb:b2=a∨b2=b):Kp k a b w W1:=fun q o h1 h2 h3 h4=>n q o (h q o h1 h2 h3 h4) h2 (by rcases ha with rfl | rfl <;> assumption) (by rcases hb with rfl | rfl <;> assumption)
theorem Kp.kpf {k a b a2 b2:Nat} {w W W1:World} (h:Kp k a b w W) (n:Kp k a2 b2 W W1) (ha:w.heap.size≤a2) (hb:w.heap.size≤b2):Kp k a b w W1:=fun q o h1 h2 h3 h4=>n q o (h q o h1 h2 h3 h4) h2 (by have:=heap_lt h1;omega) (by have:=heap_lt h1;omega)
theorem Kp.wide {k a b:Nat} {w W:World} (h:Kp k a a w W):Kp k a b w W:=fun q o h1 h2 h3 h4=>h q o h1 h2 h3 h3
theorem Kp.one {k a:Nat} {w W:World} (n: ∀q x,w.heap[q]? =some x→q≠a→W.heap[q]? =some x):Kp k a a w W:=fun q o h1 h2 h3 h4=>n q o h1 h3
theorem Kp.blk {k a b g:Nat} {w W:World} {cs:Array Value} {fr:Nat×Nat} (h:Kp k a b w W) (hg:w.heap[g]? =some (.cells cs k fr)) (h1:g≠a) (h2:g≠b):W.heap[g]? =some (.cells cs k fr):=h g _ hg rfl h1 h2
def ptrO:Option Nat→Value
  | none=> .pointer none
  | some p=> .pointer (some ⟨p,0,none⟩)
def RdO (w:World):Option Nat→Option Vt→Prop
  | none,none=>True
  | some p,some v=>RdVote w p v
  | _,_=>False
theorem RdO.mv {w w1:World} {σ:List Nat} {base:Nat} {p:Option Nat} {v:Option Vt} (h:RdO w p v) (e:Mv σ base w w1) (hs:σ.contains 5=false) (hs2:σ.contains 119=false):RdO w1 p v:=by
  cases p <;> cases v
  · exact h
  · exact h
  · exact h
  · exact RdVote.mv h e hs hs2
theorem RdO.al {w w1:World} {σ:List Nat} {base n:Nat} {p:Nat→Option Nat} {v:Nat→Option Vt} (h: ∀i,i<n→RdO w (p i) (v i)) (e:Mv σ base w w1) (hs:σ.contains 5=false) (hs2:σ.contains 119=false): ∀i,i<n→RdO w1 (p i) (v i):=fun i hi=>(h i hi).mv e hs hs2
theorem RdO.none {w:World} {p:Option Nat} (h:RdO w p none):p=none:=by cases p <;> first | rfl | cases h
theorem RdO.some {w:World} {p:Option Nat} {v:Vt} (h:RdO w p (some v)): ∃q,p=some q∧RdVote w q v:=by
  cases p
  · cases h
  · exact ⟨_,rfl,h⟩
structure PRow (w:World) (g n:Nat) (pv:Nat→Option Nat) (vs:Nat→Option Vt):Prop where
  row:w.heap[g]? =some (.cells (fcells n (fun i=>ptrO (pv i))) 107 (0,0))
  vs: ∀i,i<n→RdO w (pv i) (vs i)
structure TT where
  t:Tl
  gt:Nat
  gb:Nat
  ge:Nat
  gv:Nat
  x:Nat
  pv:Nat→Option Nat
structure TRep (w:World) (n:Nat) (a:TT):Prop where
  blk:w.heap[a.gt]? =some (.cells #[.bool a.t.cl,.pointer (some ⟨a.gb,0,none⟩),.slice (some ⟨a.gv,0,none⟩) n n,.int .i64 (a.t.sum:Int)] 180 (0,0))
  bits:Bits w a.gb a.ge n a.x
  bit: ∀i,i<n→a.x.testBit i=(a.t.vs i).isSome
  row:PRow w a.gv n a.pv a.t.vs
  ok:a.t.bk.Ok
theorem PRow.keep {w W:World} {σ:List Nat} {base g n a b:Nat} {pv:Nat→Option Nat} {vs:Nat→Option Vt} (h:PRow w g n pv vs) (e:Mv σ base w W) (hs:σ.contains 5=false) (hs2:σ.contains 119=false) (k:Kp 107 a b w W) (h1:g≠a) (h2:g≠b):PRow W g n pv vs:=
  ⟨k.blk h.row h1 h2,fun i hi=>(h.vs i hi).mv e hs hs2⟩
theorem Bits.keep {w W:World} {σ:List Nat} {base gb ge n x a b:Nat} (h:Bits w gb ge n x) (e:Mv σ base w W) (hs:σ.contains 202=false) (k:Kp 199 a b w W) (h1:ge≠a) (h2:ge≠b):Bits W gb ge n x:=by
  obtain ⟨c,hb⟩:=h.hb;exact ⟨⟨c,e.blk hb hs⟩,k.blk h.he h1 h2,h.hn,h.hx⟩
theorem Bits.mv {w W:World} {σ:List Nat} {base gb ge n x:Nat} (h:Bits w gb ge n x) (e:Mv σ base w W) (hs:σ.contains 202=false) (hs2:σ.contains 199=false):Bits W gb ge n x:=by
  obtain ⟨c,hb⟩:=h.hb;exact ⟨⟨c,e.blk hb hs⟩,e.blk h.he hs2,h.hn,h.hx⟩
theorem TRep.keep {w W:World} {σ:List Nat} {base n:Nat} {a:TT} (h:TRep w n a) (e:Mv σ base w W) (hs:(σ.contains 5 || σ.contains 119 || σ.contains 202)=false) {a1 a2 b1 b2 c1 c2:Nat} (k1:Kp 180 a1 a2 w W) (k2:Kp 199 b1 b2 w W) (k3:Kp 107 c1 c2 w W) (h1:a.gt≠a1∧a.gt≠a2) (h2:a.ge≠b1∧a.ge≠b2) (h3:a.gv≠c1∧a.gv≠c2):TRep W n a:=by
  simp only [Bool.or_eq_false_iff] at hs;exact ⟨k1.blk h.blk h1.1 h1.2,h.bits.keep e hs.2 k2 h2.1 h2.2,h.bit,h.row.keep e hs.1.1 hs.1.2 k3 h3.1 h3.2,h.ok⟩
theorem TRep.mv {w W:World} {σ:List Nat} {base n:Nat} {a:TT} (h:TRep w n a) (e:Mv σ base w W) (hs:(σ.contains 5 || σ.contains 119 || σ.contains 202 || σ.contains 180 || σ.contains 199 || σ.contains 107)=false):TRep W n a:=by
  simp only [Bool.or_eq_false_iff] at hs;obtain ⟨⟨⟨⟨⟨h1,h2⟩,h3⟩,h4⟩,h5⟩,h6⟩:=hs;exact ⟨e.blk h.blk h4,h.bits.mv e h3 h5,h.bit,⟨e.blk h.row.row h6,fun i hi=>(h.row.vs i hi).mv e h1 h2⟩,h.ok⟩
def TT.ent (a:TT):ByteArray×Value:=(keyB a.t.bk,.pointer (some ⟨a.gt,0,none⟩))
structure TsP (w:World) (n ge gv gm:Nat) (ts:List TT):Prop where
  rep: ∀a∈ts,TRep w n a
  uni: ∀a∈ts,∀b∈ts,a.t.bk=b.t.bk→a=b
  apart: ∀a∈ts,∀b∈ts,a.t.bk≠b.t.bk→a.gt≠b.gt∧a.ge≠b.ge∧a.gv≠b.gv
  apart0: ∀a∈ts,a.ge≠ge∧a.gv≠gv
  map:MapS w gm (ts.map TT.ent)
theorem TsP.mv {w W:World} {σ:List Nat} {base n ge gv gm:Nat} {ts:List TT} (h:TsP w n ge gv gm ts) (e:Mv σ base w W) (hs:(σ.contains 5 || σ.contains 119 || σ.contains 202 || σ.contains 180 || σ.contains 199 || σ.contains 107)=false) (hs2:σ.contains 1000001=false):TsP W n ge gv gm ts:=
  ⟨fun a ha=>(h.rep a ha).mv e hs,h.uni,h.apart,h.apart0,h.map.mv e hs2⟩
theorem TsP.keep {w W:World} {σ:List Nat} {base n ge gv gm:Nat} {ts:List TT} (h:TsP w n ge gv gm ts) (e:Mv σ base w W) (hs:(σ.contains 5 || σ.contains 119 || σ.contains 202 || σ.contains 180 || σ.contains 1000001)=false) (k2:Kp 199 ge ge w W) (k3:Kp 107 gv gv w W):TsP W n ge gv gm ts:=by
  simp only [Bool.or_eq_false_iff] at hs;refine ⟨fun a ha=>⟨e.blk (h.rep a ha).blk hs.1.2,(h.rep a ha).bits.keep e hs.1.1.2 k2 (h.apart0 a ha).1 (h.apart0 a ha).1,(h.rep a ha).bit,(h.rep a ha).row.keep e hs.1.1.1.1 hs.1.1.1.2 k3 (h.apart0 a ha).2 (h.apart0 a ha).2,(h.rep a ha).ok⟩,h.uni,h.apart,h.apart0,h.map.mv e hs.2⟩
def setTT (ts:List TT) (b:Bk) (a:TT):List TT:=ts.map (fun x=>if x.t.bk=b then a else x)
theorem TsP.upd {w W:World} {σ:List Nat} {base n ge gv gm:Nat} {ts:List TT} (h:TsP w n ge gv gm ts) (e:Mv σ base w W) (hs:(σ.contains 5 || σ.contains 119 || σ.contains 202)=false) (hm:MapS W gm (ts.map TT.ent)) {a a1:TT} (ha:a∈ts) (h1:a1.t.bk=a.t.bk) (h2:a1.gt=a.gt) (h3:a1.ge=a.ge) (h4:a1.gv=a.gv)
    (k1:Kp 180 a.gt a.gt w W) (k2:Kp 199 ge a.ge w W) (k3:Kp 107 gv a.gv w W) (hr:TRep W n a1):TsP W n ge gv gm (setTT ts a.t.bk a1):=by
  have mem: ∀x∈setTT ts a.t.bk a1,x=a1∨(x∈ts∧x.t.bk≠a.t.bk):=by
    intro x hx;simp only [setTT,List.mem_map] at hx;obtain ⟨y,hy,rfl⟩:=hx;by_cases hb:y.t.bk=a.t.bk
    · rw [if_pos hb];exact .inl rfl
    · rw [if_neg hb];exact .inr ⟨hy,hb⟩
  refine ⟨fun x hx=> ?_,fun x hx y hy hb=> ?_,fun x hx y hy hb=> ?_,fun x hx=> ?_,?_⟩
  · rcases mem x hx with rfl | ⟨hx,hb⟩
    · exact hr
    · have h5:=h.apart x hx a ha hb
      exact (h.rep x hx).keep e hs k1 k2 k3 ⟨h5.1,h5.1⟩ ⟨(h.apart0 x hx).1,h5.2.1⟩ ⟨(h.apart0 x hx).2,h5.2.2⟩
  · rcases mem x hx with rfl | ⟨hx2,hb1⟩ <;> rcases mem y hy with rfl | ⟨hy2,hb2⟩
    · rfl
    · exact absurd (hb.symm.trans h1) hb2
    · exact absurd (hb.trans h1) hb1
    · exact h.uni x hx2 y hy2 hb
  · rcases mem x hx with rfl | ⟨hx2,hb1⟩ <;> rcases mem y hy with rfl | ⟨hy2,hb2⟩
    · exact absurd rfl hb
    · rw [h2,h3,h4];exact h.apart a ha y hy2 (fun e=>hb2 e.symm)
    · rw [h2,h3,h4];exact h.apart x hx2 a ha hb1
    · exact h.apart x hx2 y hy2 hb
  · rcases mem x hx with rfl | ⟨hx,hb1⟩
    · rw [h3,h4];exact h.apart0 a ha
    · exact h.apart0 x hx
  · have:(setTT ts a.t.bk a1).map TT.ent=ts.map TT.ent:=by
      unfold setTT;rw [List.map_map];apply List.map_congr_left;intro y hy;simp only [Function.comp];by_cases hb:y.t.bk=a.t.bk
      · rw [if_pos hb,h.uni y hy a ha hb]
        unfold TT.ent;rw [h1,h2]
      · rw [if_neg hb]
    rw [this];exact hm
theorem TsP.findT {w:World} {n ge gv gm:Nat} {ts:List TT} (h:TsP w n ge gv gm ts) {a:TT} (ha:a∈ts):findT (ts.map TT.t) a.t.bk=some a.t:=by
  unfold V.findT;have h1:((ts.map TT.t).find? (fun t=>decide (t.bk=a.t.bk))).isSome=true:=by
    rw [List.find?_isSome];exact ⟨a.t,List.mem_map_of_mem ha,by simp⟩
  obtain ⟨t,ht⟩:=Option.isSome_iff_exists.1 h1;rw [ht];have h2:=List.mem_of_find?_eq_some ht;have h3:=List.find?_some ht;obtain ⟨x,hx,rfl⟩:=List.mem_map.1 h2;rw [h.uni x hx a ha (by simpa using h3)]
theorem TsP.add {w W:World} {σ:List Nat} {base n ge gv gm:Nat} {ts:List TT} (h:TsP w n ge gv gm ts) (e:Mv σ base w W) (hs:(σ.contains 5 || σ.contains 119 || σ.contains 202)=false) {a1:TT} (hn: ∀x∈ts,x.t.bk≠a1.t.bk) (h2:w.heap.size≤a1.gt) (h3:w.heap.size≤a1.ge) (h4:w.heap.size≤a1.gv) (hge:ge<w.heap.size) (hgv:gv<w.heap.size)
    (k1:Kp 180 a1.gt a1.gt w W) (k2:Kp 199 ge a1.ge w W) (k3:Kp 107 gv a1.gv w W) (hr:TRep W n a1) (hm:MapS W gm (ts.map TT.ent++ [a1.ent])):TsP W n ge gv gm (ts++ [a1]):=by
  have lt: ∀x∈ts,x.gt<w.heap.size∧x.ge<w.heap.size∧x.gv<w.heap.size:=fun x hx=>⟨heap_lt (h.rep x hx).blk,heap_lt (h.rep x hx).bits.he,heap_lt (h.rep x hx).row.row⟩;have mem: ∀x∈ts++ [a1],x=a1∨x∈ts:=fun x hx=>by
    rcases List.mem_append.1 hx with h | h
    · exact .inr h
    · exact .inl (List.mem_singleton.1 h)
  refine ⟨fun x hx=> ?_,fun x hx y hy hb=> ?_,fun x hx y hy hb=> ?_,fun x hx=> ?_,by rw [List.map_append];exact hm⟩
  · rcases mem x hx with rfl | hx
    · exact hr
    · have h5:=lt x hx
      exact (h.rep x hx).keep e hs k1 k2 k3 ⟨by omega,by omega⟩ ⟨(h.apart0 x hx).1,by omega⟩ ⟨(h.apart0 x hx).2,by omega⟩
  · rcases mem x hx with rfl | hx2 <;> rcases mem y hy with rfl | hy2
    · rfl
    · exact absurd hb.symm (hn y hy2)
    · exact absurd hb (hn x hx2)
    · exact h.uni x hx2 y hy2 hb
  · rcases mem x hx with rfl | hx2 <;> rcases mem y hy with rfl | hy2
    · exact absurd rfl hb
    · have h5:=lt y hy2
      exact ⟨by omega,by omega,by omega⟩
    · have h5:=lt x hx2
      exact ⟨by omega,by omega,by omega⟩
    · exact h.apart x hx2 y hy2 hb
  · rcases mem x hx with rfl | hx
    · exact ⟨by omega,by omega⟩
    · exact h.apart0 x hx
structure PE where
  p:ByteArray
  v1:Value
  v3:Value
  b:Bk
def PE.ent (e:PE):ByteArray×Value:=(e.p,.agg #[e.v1,.int .u32 (e.b.t:Int),e.v3])
structure IAd where
  gs:Nat
  gval:Nat
  gb:Nat
  ge:Nat
  gv:Nat
  gm:Nat
  gp:Nat
  va:Option Addr
  vcap:Nat
  vp:Nat→Nat
  vpr:Nat
  tv:Nat
  x:Nat
  pv:Nat→Option Nat
  mo:Option Nat
  ts:List TT
  ps:List PE
  lo:Nat
structure IAd.Same (B A:IAd):Prop where
  gs:B.gs=A.gs
  lo:B.lo=A.lo
  gval:B.gval=A.gval
  va:B.va=A.va
  vcap:B.vcap=A.vcap
  vp:B.vp=A.vp
  vpr:B.vpr=A.vpr
def ILo (A:IAd) (n:Nat):Prop:=(A.lo≤n∧A.lo≤A.gs∧A.lo≤A.gval∧A.lo≤A.ge∧A.lo≤A.gv∧A.lo≤A.gm∧A.lo≤A.gp)∧∀a∈A.ts,A.lo≤a.gt∧A.lo≤a.ge∧A.lo≤a.gv
theorem ILo.up {A:IAd} {n m:Nat} (h:ILo A n) (hn:n≤m):ILo A m:=⟨⟨Nat.le_trans h.1.1 hn,h.1.2⟩,h.2⟩
def RdMo (w:World):Option Nat→Option Bk→Prop
  | none,none=>True
  | some g,some b=> ∃A1 c1 A3 c3,w.heap[g]? =some (.cells #[.slice A1 b.h.length c1,.int .u32 (b.t:Int),.slice A3 b.r.length c3] 103 (0,0))∧RdBk w (.slice A1 b.h.length c1) (.int .u32 (b.t:Int)) (.slice A3 b.r.length c3) b
  | _,_=>False
theorem RdMo.mv {w w1:World} {σ:List Nat} {base:Nat} {p:Option Nat} {b:Option Bk} (h:RdMo w p b) (e:Mv σ base w w1) (hs:σ.contains 5=false) (hs2:σ.contains 103=false):RdMo w1 p b:=by
  cases p <;> cases b
  · exact h
  · exact h
  · exact h
  · obtain ⟨A1,c1,A3,c3,h1,h2⟩:=h
    exact ⟨A1,c1,A3,c3,e.blk h1 hs2,h2.mv e hs⟩
structure IRep (w:World) (c:Cf) (m:VM) (A:IAd) (N:Nat):Prop where
  set:w.heap[A.gs]? =some (.cells #[.string c.ch,.int .i64 (c.ht:Int),.int .i32 (c.rd:Int),.int .i32 (c.kd:Int),.pointer (some ⟨A.gval,0,none⟩),.bool false,.pointer (some ⟨A.gb,0,none⟩),.slice (some ⟨A.gv,0,none⟩) c.n c.n,.int .i64 (m.sum:Int),ptrO A.mo,.map (some A.gm),.map (some A.gp)] 167 (0,0))
  vrep:VRep w c A.gval A.va A.vcap A.vp A.vpr A.tv
  tv:A.tv=0∨A.tv=c.total
  bits:Bits w A.gb A.ge c.n A.x
  bit: ∀i,i<c.n→A.x.testBit i=(m.vs i).isSome
  row:PRow w A.gv c.n A.pv m.vs
  tsp:TsP w c.n A.ge A.gv A.gm A.ts
  ts:A.ts.map TT.t=m.ts
  mo:RdMo w A.mo m.most
  pmap:MapS w A.gp (A.ps.map PE.ent)
  peers:A.ps.map (fun e=>(e.p,e.b))=m.peers
  prd: ∀e∈A.ps,RdBk w e.v1 (.int .u32 (e.b.t:Int)) e.v3 e.b
  gmp:A.gm≠A.gp
  inv: ∀t∈m.ts,∀i,i<c.n→(t.vs i).isSome=true→(m.vs i).isSome=true
  bnd:m.sum≤N∧∀t∈m.ts,t.sum≤N
  lo:ILo A w.heap.size
def offI (σ:List Nat):Bool:=[5,119,202,180,199,107,1000001,167,206,204,212,103].all (fun k=> !σ.contains k)
theorem offI_not {σ:List Nat} (h:offI σ=true) {k:Nat} (hk: [5,119,202,180,199,107,1000001,167,206,204,212,103].contains k=true):σ.contains k=false:=by
  have:=List.all_eq_true.1 h k (by simpa using hk)
  simpa using this
theorem IRep.mv {w W:World} {σ:List Nat} {base:Nat} {c:Cf} {m:VM} {A:IAd} {N:Nat} (h:IRep w c m A N) (e:Mv σ base w W) (hs:offI σ=true):IRep W c m A N:=by
  have o:=fun k hk=>offI_not hs (k:=k) hk;exact ⟨e.blk h.set (o _ rfl),h.vrep.mv e (o _ rfl) (o _ rfl) (o _ rfl) (o _ rfl),h.tv,h.bits.mv e (o _ rfl) (o _ rfl),h.bit,⟨e.blk h.row.row (o _ rfl),fun i hi=>(h.row.vs i hi).mv e (o _ rfl) (o _ rfl)⟩,h.tsp.mv e (by simp only [Bool.or_eq_false_iff];exact ⟨⟨⟨⟨⟨o _ rfl,o _ rfl⟩,o _ rfl⟩,o _ rfl⟩,o _ rfl⟩,o _ rfl⟩) (o _ rfl),h.ts,h.mo.mv e (o _ rfl) (o _ rfl),h.pmap.mv e (o _ rfl),h.peers,fun x hx=>(h.prd x hx).mv e (o _ rfl),h.gmp,h.inv,h.bnd,h.lo.up e.size⟩
theorem IRep.ge {w:World} {c:Cf} {m:VM} {A:IAd} {N N2:Nat} (h:IRep w c m A N) (hN:N≤N2):IRep w c m A N2:=
  ⟨h.set,h.vrep,h.tv,h.bits,h.bit,h.row,h.tsp,h.ts,h.mo,h.pmap,h.peers,h.prd,h.gmp,h.inv,⟨by have:=h.bnd.1;omega,fun t ht=>by have:=h.bnd.2 t ht;omega⟩,h.lo⟩
theorem IRep.find {w:World} {c:Cf} {m:VM} {A:IAd} {N:Nat} (h:IRep w c m A N) {b:Bk} {t:Tl} (hf:findT m.ts b=some t): ∃a∈A.ts,a.t=t∧a.t.bk=b:=by
  obtain ⟨h1,h2⟩:=findT_mem hf;rw [← h.ts] at h1;obtain ⟨a,ha,rfl⟩:=List.mem_map.1 h1;exact ⟨a,ha,rfl,h2⟩
theorem IRep.nofind {w:World} {c:Cf} {m:VM} {A:IAd} {N:Nat} (h:IRep w c m A N) {b:Bk} (hf:findT m.ts b=none): ∀a∈A.ts,a.t.bk≠b:=fun a ha=>findT_none hf a.t (by rw [← h.ts];exact List.mem_map_of_mem ha)
theorem TsP.look {w:World} {n ge gv gm:Nat} {ts:List TT} (h:TsP w n ge gv gm ts) {a:TT} (ha:a∈ts):lookS (ts.map TT.ent) (keyB a.t.bk)=some (.pointer (some ⟨a.gt,0,none⟩)):=by
  unfold lookS;have h1:((ts.map TT.ent).find? (fun p=>decide (keyB a.t.bk=p.1))).isSome=true:=by
    rw [List.find?_isSome];exact ⟨a.ent,List.mem_map_of_mem ha,by simp [TT.ent]⟩
  obtain ⟨p,hp⟩:=Option.isSome_iff_exists.1 h1;rw [hp,Option.map_some];have h2:=List.mem_of_find?_eq_some hp;have h3:=List.find?_some hp;simp only [decide_eq_true_eq] at h3;obtain ⟨x,hx,rfl⟩:=List.mem_map.1 h2;have h4:x=a:=h.uni x hx a ha (keyB_inj (h.rep x hx).ok (h.rep a ha).ok h3.symm);subst h4;rfl
theorem TsP.nolook {w:World} {n ge gv gm:Nat} {ts:List TT} (h:TsP w n ge gv gm ts) {b:Bk} (hb:b.Ok) (hn: ∀a∈ts,a.t.bk≠b):lookS (ts.map TT.ent) (keyB b)=none:=by
  unfold lookS;rw [List.find?_eq_none.2,Option.map_none];intro p hp;obtain ⟨x,hx,rfl⟩:=List.mem_map.1 hp;simp only [decide_eq_true_eq];exact fun e=>hn x hx (keyB_inj hb (h.rep x hx).ok e).symm
theorem most_n (w:World) (c:Cf) (hc:c.Ok) (m:VM) (A:IAd) (N:Nat) (hI:IRep w c m A N) (hm:m.most=none):Ret Tryz.prog 44 #[Pt A.gs] w (fun v w1=>v= .tuple #[.agg #[.slice none 0 0,Uw 0,.slice none 0 0],.bool false]∧Mv [] 0 w w1):=by
 refine en 19 Tryz.func44 fun T E=>?_;have emo:A.mo=none:=by
  have hmo:=hI.mo
  revert hmo
  rw [hm];cases A.mo with
  | none=>intro _;rfl
  | some x=>intro h;cases h
 have iset:=hI.set;rw [emo] at iset;have ho:=Below.refl w.heap.size w;refine sq ?_;refine sr E (ral (.agg #[.slice none 0 0,Uw 0,.slice none 0 0])) ?_;rintro _ w1 ⟨g1_,rfl,e1,lg1_,xg1_,b2_⟩ T E;have zw1:=e1.size;have yg1_:=heap_lt b2_;refine go [1,4] ?_;intro T E;refine sk fun K1 hK1=>?_;refine go [5,0,11,4,15,16] ?_;intro T E;refine hK1 _ _ ?_;refine sk fun K2 hK2=>?_;replace iset:=e1.blk iset rfl;refine go [5,0,2,59,3,12,4,15,16] ?_;intro T E;refine hK2 _ _ ?_;refine sq ?_;refine sv E (dv_build (vs:=[]) (C:=#[.slice none 0 0,Uw 0,.slice none 0 0]) E rfl rfl (by kernel_rfl)) fun T E=>?_;refine sst (dS [.slice none 0 0,Uw 0,.slice none 0 0] E b2_) ?_;intro w2 e2 n3_ b2_;have zw2:=e2.size;refine go [1,4,17] ?_;intro T E;replace ho:=old1 (old0 ho e1) e2 (by omega);exact postCT_ret (k:=3) (vs:=#[.slice none 0 0,Uw 0,.slice none 0 0]) E rfl rfl rfl (by kernel_rfl) (by kernel_rfl) rfl b2_ (⟨rfl,Mv.of_below ho _ _⟩)
theorem RdMo.some {w:World} {p:Option Nat} {b:Bk} (h:RdMo w p (some b)): ∃q,p=some q∧∃A1 c1 A3 c3,w.heap[q]? =some (.cells #[.slice A1 b.h.length c1,.int .u32 (b.t:Int),.slice A3 b.r.length c3] 103 (0,0))∧RdBk w (.slice A1 b.h.length c1) (.int .u32 (b.t:Int)) (.slice A3 b.r.length c3) b:=by
  cases p with
  | none=>cases h
  | some q=>exact ⟨q,rfl,h⟩
theorem most_s (w:World) (c:Cf) (hc:c.Ok) (m:VM) (A:IAd) (N:Nat) (hI:IRep w c m A N) (b:Bk) (hm:m.most=some b):Ret Tryz.prog 44 #[Pt A.gs] w (fun v w1=> ∃A1 c1 A3 c3,v= .tuple #[.agg #[.slice A1 b.h.length c1,.int .u32 (b.t:Int),.slice A3 b.r.length c3],.bool true]∧Mv [] 0 w w1∧RdBk w1 (.slice A1 b.h.length c1) (.int .u32 (b.t:Int)) (.slice A3 b.r.length c3) b):=by
 refine en 19 Tryz.func44 fun T E=>?_;obtain ⟨q,emo,A1,c1,A3,c3,bq,rq⟩:=RdMo.some (hm▸hI.mo);have iset:=hI.set;rw [emo] at iset;have ho:=Below.refl w.heap.size w;refine sq ?_;refine sr E (ral (.agg #[.slice none 0 0,Uw 0,.slice none 0 0])) ?_;rintro _ w1 ⟨g1_,rfl,e1,lg1_,xg1_,b2_⟩ T E;have zw1:=e1.size;have yg1_:=heap_lt b2_;refine go [1,4] ?_;intro T E;refine sk fun K1 hK1=>?_;refine go [5,0,11,4,15,16] ?_;intro T E;refine hK1 _ _ ?_;refine sk fun K2 hK2=>?_;replace iset:=e1.blk iset rfl;refine go [5,0,2,59,3,10,4,14,5,0,2,59,3,2] ?_;intro T E;replace bq:=e1.blk bq rfl;refine sv E (dA E bq) fun T E=>?_;refine sst (dS [.slice A1 b.h.length c1,Uw ((b.t:Int)),.slice A3 b.r.length c3] E b2_) ?_;intro w2 e2 n3_ b2_;have zw2:=e2.size;refine go [1,4,17] ?_;intro T E;replace ho:=old1 (old0 ho e1) e2 (by omega);replace rq:=(rq.mv e1 rfl).mv e2 rfl;exact postCT_ret (k:=3) (vs:=#[.slice A1 b.h.length c1,Uw ((b.t:Int)),.slice A3 b.r.length c3]) E rfl rfl rfl (by kernel_rfl) (by kernel_rfl) rfl b2_ (⟨A1,c1,A3,c3,rfl,Mv.of_below ho _ _,rq⟩)
theorem most_c (w:World) (c:Cf) (hc:c.Ok) (m:VM) (A:IAd) (N:Nat) (hI:IRep w c m A N):Ret Tryz.prog 44 #[.pointer (some ⟨A.gs,0,none⟩)] w (fun v w1=> ∃A1 c1 A3 c3,v= .tuple #[.agg #[.slice A1 (m.most.getD Bk.none).h.length c1,.int .u32 ((m.most.getD Bk.none).t:Int),.slice A3 (m.most.getD Bk.none).r.length c3],.bool m.most.isSome]∧Mv [] 0 w w1∧RdBk w1 (.slice A1 (m.most.getD Bk.none).h.length c1) (.int .u32 ((m.most.getD Bk.none).t:Int)) (.slice A3 (m.most.getD Bk.none).r.length c3) (m.most.getD Bk.none)):=by
  cases hm:m.most with
  | none=>exact (most_n w c hc m A N hI hm).mono (fun v w1 ⟨h1,h2⟩=>⟨none,0,none,0,h1,h2,rfl,.inl ⟨rfl,rfl,rfl⟩⟩)
  | some b=>exact most_s w c hc m A N hI b hm
theorem newTally_c (w:World) (cl:Bool) (n:Nat) (hn:0<n∧n≤12):Ret Tryz.prog 79 #[.bool cl,Iw ((n:Int))] w (fun v w1=> ∃gt gb ge gv,v= .pointer (some ⟨gt,0,none⟩)∧Mv [] 0 w w1∧w.heap.size≤gt∧w.heap.size≤ge∧w.heap.size≤gv∧w1.heap[gt]? =some (.cells #[.bool cl,.pointer (some ⟨gb,0,none⟩),.slice (some ⟨gv,0,none⟩) n n,.int .i64 0] 180 (0,0))∧Bits w1 gb ge n 0∧w1.heap[gv]? =some (.cells (Array.replicate n (.pointer none)) 107 (0,0))):=by
 refine en 12 Tryz.func79 fun T E=>?_;have ho:=Below.refl w.heap.size w;refine go [5,1,4] ?_;intro T E;refine wp_seq ?_;refine rgG 8 (Kv2 (kp (fun v_ W=> ∃gb1_,∃ge2_,v_=Pt gb1_∧Bits W gb1_ ge2_ n 0∧w.heap.size≤gb1_∧w.heap.size≤ge2_)::Kv (kp (fun v_ W=> ∃g4_,v_= .slice (some ⟨g4_,0,none⟩) n n∧w.heap.size≤g4_∧W.heap[g4_]? =some (.cells (Array.replicate n (.pointer none)) 107 (0,0)))::kp (fun v_ W=> ∃gb1__2,∃ge2__2,∃g4__4,v_= .agg #[.bool cl,Pt gb1__2,.slice (some ⟨g4__4,0,none⟩) n n,Iw 0]∧Bits W gb1__2 ge2__2 n 0∧w.heap.size≤gb1__2∧w.heap.size≤g4__4∧W.heap[g4__4]? =some (.cells (Array.replicate n (.pointer none)) 107 (0,0))∧w.heap.size≤ge2__2)::kp (fun v_ W=> ∃gb1__2,∃ge2__2,∃g4__4,∃g6_,v_=Pt g6_∧w.heap.size≤g6_∧W.heap[g6_]? =some (.cells #[.bool cl,Pt gb1__2,.slice (some ⟨g4__4,0,none⟩) n n,Iw 0] 180 (0,0))∧Bits W gb1__2 ge2__2 n 0∧w.heap.size≤gb1__2∧w.heap.size≤g4__4∧W.heap[g4__4]? =some (.cells (Array.replicate n (.pointer none)) 107 (0,0))∧w.heap.size≤ge2__2)::kp (fun v_ W=> ∃gb1__2,∃ge2__2,∃g4__4,∃g6_,v_=Pt g6_∧w.heap.size≤g6_∧W.heap[g6_]? =some (.cells #[.bool cl,Pt gb1__2,.slice (some ⟨g4__4,0,none⟩) n n,Iw 0] 180 (0,0))∧Bits W gb1__2 ge2__2 n 0∧w.heap.size≤gb1__2∧w.heap.size≤g4__4∧W.heap[g4__4]? =some (.cells (Array.replicate n (.pointer none)) 107 (0,0))∧w.heap.size≤ge2__2):: []))) [([],[0]),([],[1]),([1],[]),([],[1]),([3],[]),([0],[]),([],[]),([],[])] E (by
  refine dg [0,0] ?_;refine .cons ?_ ?_
  ·intro T w_ e_ E hN;have z_:=e_.size;refine (rr E Tryz.func73 (NewBitArray_c w_ n (by omega))).mono ?_;rintro _ w1 ⟨gb1_,ge2_,rfl,e1,hB3_,lgb1_,lge2_⟩;have zw1:=e1.size;replace lgb1_:w.heap.size≤gb1_:=by omega
   replace lge2_:w.heap.size≤ge2_:=by omega
   exact ⟨e1.up rfl (Nat.zero_le _),gb1_,ge2_,rfl,hB3_,lgb1_,lge2_⟩
  refine dg [0] ?_;refine .cons ?_ ?_
  ·intro T w_ e_ E hN;have z_:=e_.size;refine (ru_make (e:=107) (m:=n) (by_:=8) (z:= .pointer none) E rfl rfl rfl rfl (by kernel_rfl) (infoB_of (by kernel_rfl)) rfl (by omega) (by omega)).mono ?_;rintro _ w2 ⟨g4_,rfl,e2,lg4_,xg4_,b5_⟩;have zw2:=e2.size;have yg4_:=heap_lt b5_;replace lg4_:w.heap.size≤g4_:=by omega
   exact ⟨e2.up rfl (Nat.zero_le _),g4_,rfl,lg4_,b5_⟩
  refine .cons ?_ ?_
  ·intro T w_ e_ E hN;obtain ⟨v_,h_,gb1__2,ge2__2,rfl,hB3__2,lgb1__2,lge2__2⟩:=hN 2 (by kernel_rfl);have E:=E.add h_;obtain ⟨v_,h_,g4__4,rfl,lg4__4,b5__4⟩:=hN 4 (by kernel_rfl);have E:=E.add h_;exact Ru.v (dv_build (vs:=[(0,.bool cl),(1,Pt gb1__2),(2,.slice (some ⟨g4__4,0,none⟩) n n),(3,Iw 0)]) (C:=#[.bool cl,Pt gb1__2,.slice (some ⟨g4__4,0,none⟩) n n,Iw 0]) E rfl rfl (by kernel_rfl)) rfl ⟨Mv.refl _ _ _,gb1__2,ge2__2,g4__4,rfl,hB3__2,lgb1__2,lg4__4,b5__4,lge2__2⟩
  refine .cons ?_ ?_
  ·intro T w_ e_ E hN;have z_:=e_.size;obtain ⟨v_,h_,gb1__2,ge2__2,g4__4,rfl,hB3__2,lgb1__2,lg4__4,b5__4,lge2__2⟩:=hN 5 (by kernel_rfl);have E:=E.add h_;refine (rbx E).mono ?_;rintro _ w3 ⟨g6_,rfl,e3,lg6_,xg6_,b7_⟩;have zw3:=e3.size;have yg6_:=heap_lt b7_;replace lg6_:w.heap.size≤g6_:=by omega
   replace hB3__2:=(Bits.mv hB3__2 e3 rfl rfl);replace lgb1__2:=lgb1__2;replace lg4__4:=lg4__4;replace b5__4:=e3.blk b5__4 rfl;replace lge2__2:=lge2__2;exact ⟨e3.up rfl (Nat.zero_le _),gb1__2,ge2__2,g4__4,g6_,rfl,lg6_,b7_,hB3__2,lgb1__2,lg4__4,b5__4,lge2__2⟩
  refine .cons ?_ ?_
  ·intro T w_ e_ E hN;obtain ⟨v_,h_,gb1__2,ge2__2,g4__4,g6_,rfl,lg6_,b7_,hB3__2,lgb1__2,lg4__4,b5__4,lge2__2⟩:=hN 6 (by kernel_rfl);have E:=E.add h_;exact Ru.v (da E) rfl ⟨Mv.refl _ _ _,gb1__2,ge2__2,g4__4,g6_,rfl,lg6_,b7_,hB3__2,lgb1__2,lg4__4,b5__4,lge2__2⟩
  exact .nil
  ) (hst:= .qs 2 (.cons (.p (fun _ _ _ ⟨gb1_,ge2_,e,hB3_,lgb1_,lge2_⟩ m=>⟨gb1_,ge2_,e,(Bits.mv hB3_ m rfl rfl),lgb1_,lge2_⟩)) (.qs 1 (.cons (.p (fun _ _ _ ⟨g4_,e,lg4_,b5_⟩ m=>⟨g4_,e,lg4_,m.blk b5_ rfl⟩)) (.cons (.p (fun _ _ _ ⟨gb1__2,ge2__2,g4__4,e,hB3__2,lgb1__2,lg4__4,b5__4,lge2__2⟩ m=>⟨gb1__2,ge2__2,g4__4,e,(Bits.mv hB3__2 m rfl rfl),lgb1__2,lg4__4,m.blk b5__4 rfl,lge2__2⟩)) (.cons (.p (fun _ _ _ ⟨gb1__2,ge2__2,g4__4,g6_,e,lg6_,b7_,hB3__2,lgb1__2,lg4__4,b5__4,lge2__2⟩ m=>⟨gb1__2,ge2__2,g4__4,g6_,e,lg6_,m.blk b7_ rfl,(Bits.mv hB3__2 m rfl rfl),lgb1__2,lg4__4,m.blk b5__4 rfl,lge2__2⟩)) (.cons (.p (fun _ _ _ ⟨gb1__2,ge2__2,g4__4,g6_,e,lg6_,b7_,hB3__2,lgb1__2,lg4__4,b5__4,lge2__2⟩ m=>⟨gb1__2,ge2__2,g4__4,g6_,e,lg6_,m.blk b7_ rfl,(Bits.mv hB3__2 m rfl rfl),lgb1__2,lg4__4,m.blk b5__4 rfl,lge2__2⟩)) .nil))))))) fun T w4 e4 hE hN=>?_
 have zw4:=e4.size;obtain ⟨v_,h7_,gb1__2_7,ge2__2_7,g4__4_7,g6__7,rfl,lg6__7,b7__7,hB3__2_7,lgb1__2_7,lg4__4_7,b5__4_7,lge2__2_7⟩:=hN 7 (by kernel_rfl);have E:=hE [] [(4,_)] ⟨h7_,trivial⟩ (by kernel_rfl);refine gn [4,17] ?_;replace ho:=old0 ho e4;refine post1_ret E rfl rfl ?_;exact ⟨g6__7,gb1__2_7,ge2__2_7,g4__4_7,rfl,Mv.of_below ho _ _,by omega,by omega,by omega,b7__7,hB3__2_7,b5__4_7⟩
def TT.new (b:Bk) (cl:Bool) (gt gb ge gv:Nat):TT:=⟨newT b cl,gt,gb,ge,gv,0,fun _=>none⟩
theorem rep_fcells (n:Nat):(Array.replicate n (Value.pointer none))=fcells n (fun i=>ptrO ((fun _=>none:Nat→Option Nat) i)):=by
  apply Array.ext
  · simp [fcells]
  · intro i h1 h2
    simp [fcells,ptrO]
theorem TRep.new {w:World} {n:Nat} {b:Bk} (hb:b.Ok) {cl:Bool} {gt gb ge gv:Nat} (h1:w.heap[gt]? =some (.cells #[.bool cl,.pointer (some ⟨gb,0,none⟩),.slice (some ⟨gv,0,none⟩) n n,.int .i64 0] 180 (0,0))) (h2:Bits w gb ge n 0) (h3:w.heap[gv]? =some (.cells (Array.replicate n (.pointer none)) 107 (0,0))):TRep w n (TT.new b cl gt gb ge gv):=
  ⟨h1,h2,fun i hi=>by simp [TT.new,newT],⟨(by have h:=h3;rw [rep_fcells] at h;exact h),fun i hi=>trivial⟩,hb⟩
theorem IRep.new {w:World} {c:Cf} (hc:c.Ok) {gs gval gb ge gv gm gp:Nat} {va:Option Addr} {vcap:Nat} {vp:Nat→Nat} {vpr:Nat} (h1:w.heap[gs]? =some (.cells #[.string c.ch,.int .i64 (c.ht:Int),.int .i32 (c.rd:Int),.int .i32 (c.kd:Int),.pointer (some ⟨gval,0,none⟩),.bool false,.pointer (some ⟨gb,0,none⟩),.slice (some ⟨gv,0,none⟩) c.n c.n,.int .i64 0,.pointer none,.map (some gm),.map (some gp)] 167 (0,0)))
    (h2:VRep w c gval va vcap vp vpr 0) (h3:Bits w gb ge c.n 0) (h4:w.heap[gv]? =some (.cells (Array.replicate c.n (.pointer none)) 107 (0,0))) (h5:MapS w gm []) (h6:MapS w gp []) (h7:gm≠gp) {lo:Nat} (hlo:lo≤w.heap.size∧lo≤gs∧lo≤gval∧lo≤ge∧lo≤gv∧lo≤gm∧lo≤gp):IRep w c VM.new ⟨gs,gval,gb,ge,gv,gm,gp,va,vcap,vp,vpr,0,0,fun _=>none,none,[],[],lo⟩ 0:=
  ⟨h1,h2,.inl rfl,h3,fun i hi=>by simp [VM.new],⟨(by have h:=h4;rw [rep_fcells] at h;exact h),fun i hi=>trivial⟩,⟨fun a ha=>(by cases ha),fun a ha=>(by cases ha),fun a ha=>(by cases ha),fun a ha=>(by cases ha),h5⟩,rfl,trivial,h6,rfl,fun e he=>(by cases he),h7,fun t ht=>(by cases ht),⟨Nat.le_refl _,fun t ht=>(by cases ht)⟩,⟨hlo,fun a ha=>(by cases ha)⟩⟩
theorem newSet_c (w:World) (c:Cf) (hc:c.Ok) (gval:Nat) (va:Option Addr) (vcap:Nat) (vp:Nat→Nat) (vpr:Nat) (vr:VRep w c gval va vcap vp vpr 0) (lo:Nat) (hlo:lo≤w.heap.size∧lo≤gval):Ret Tryz.prog 37 #[.string c.ch,Iw ((c.ht:Int)),.int .i32 ((c.rd:Int)),.int .i32 ((c.kd:Int)),Pt gval] w (fun v w1=> ∃A:IAd,v= .pointer (some ⟨A.gs,0,none⟩)∧Mv [] 0 w w1∧A.lo=lo∧(A.gval=gval∧A.va=va∧A.vcap=vcap∧A.vp=vp∧A.vpr=vpr)∧IRep w1 c VM.new A 0):=by
 refine en 31 Tryz.func37 fun T E=>?_;have hn0:=hc.n0;have hn1:=hc.n1;have hht:=hc.ht;have ho:=Below.refl w.heap.size w;refine go [5,1,4] ?_;intro T E;refine sk fun K1 hK1=>?_;refine go [5,0] ?_;intro T E;refine sv E (dv_eql E rfl rfl rfl (decide_eq_false (by omega))) fun T E=>?_;refine gn [4,15,16] ?_;refine hK1 _ _ ?_;refine wp_seq ?_;refine rg2 (fun g=> .map (some g)) 15 13 14 27 28 [fun v_ W=>v_= .string c.ch,fun v_ W=>v_=Iw ((c.ht:Int)),fun v_ W=>v_= .int .i32 ((c.rd:Int)),fun v_ W=>v_= .int .i32 ((c.kd:Int)),fun v_ W=>v_=Pt gval,fun v_ W=>v_=Pt gval,fun v_ W=>v_=Iw ((c.n:Int)),fun v_ W=> ∃gb1_,∃ge2_,v_=Pt gb1_∧Bits W gb1_ ge2_ c.n 0∧w.heap.size≤gb1_∧w.heap.size≤ge2_,fun v_ W=>v_=Pt gval,fun v_ W=>v_=Iw ((c.n:Int)),fun v_ W=> ∃g4_,v_= .slice (some ⟨g4_,0,none⟩) c.n c.n∧w.heap.size≤g4_∧W.heap[g4_]? =some (.cells (Array.replicate c.n (.pointer none)) 107 (0,0)),fun v_ W=>v_=Pt gval,fun v_ W=>v_=Iw ((c.n:Int)),fun v_ W=> ∃g6_,v_= .map (some g6_)∧w.heap.size≤g6_∧MapS W g6_ ([]),fun v_ W=> ∃g8_,v_= .map (some g8_)∧w.heap.size≤g8_∧MapS W g8_ ([])] E (by kernel_rfl) (by kernel_rfl) ⟨rfl,rfl⟩ ⟨rfl,rfl⟩ rfl (by simp) ?_ ?_ ?_
 ·exact .cons (fun _ _ _ h _=>h) (.cons (fun _ _ _ h _=>h) (.cons (fun _ _ _ h _=>h) (.cons (fun _ _ _ h _=>h) (.cons (fun _ _ _ h _=>h) (.cons (fun _ _ _ h _=>h) (.cons (fun _ _ _ h _=>h) (.cons (fun _ _ _ ⟨gb1_,ge2_,e,hB3_,lgb1_,lge2_⟩ m=>⟨gb1_,ge2_,e,(Bits.mv hB3_ m rfl rfl),lgb1_,lge2_⟩) (.cons (fun _ _ _ h _=>h) (.cons (fun _ _ _ h _=>h) (.cons (fun _ _ _ ⟨g4_,e,lg4_,b5_⟩ m=>⟨g4_,e,lg4_,m.blk b5_ rfl⟩) (.cons (fun _ _ _ h _=>h) (.cons (fun _ _ _ h _=>h) (.cons (fun _ _ _ ⟨g6_,e,lg6_,b7_⟩ m=>⟨g6_,e,lg6_,b7_.mv m rfl⟩) (.cons (fun _ _ _ ⟨g8_,e,lg8_,b9_⟩ m=>⟨g8_,e,lg8_,b9_.mv m rfl⟩) (.nil)))))))))))))))
 ·refine .cons ?_ (.cons ?_ (.cons ?_ (.cons ?_ (.cons ?_ (.cons ?_ (.cons ?_ (.cons ?_ (.cons ?_ (.cons ?_ (.cons ?_ (.cons ?_ (.cons ?_ (.cons ?_ (.cons ?_ (.nil)))))))))))))))
  ·intro T w_ HM hT hO hN;have e_:Mv [] (0) w w_:=mvD HM;have z_:=e_.size;have E_0:=Env.nil hT;have E_1:=E_0.add ((hO 0 (by kernel_rfl)).trans (E.get rfl));exact Ru.v (dv_move E_1 rfl rfl) rfl ⟨⟨Mv.refl _ _ _,trivial⟩,rfl⟩
  ·intro T w_ HM hT hO hN;have e_:Mv [] (0) w w_:=mvD HM;have z_:=e_.size;have E_0:=Env.nil hT;have E_1:=E_0.add ((hO 1 (by kernel_rfl)).trans (E.get rfl));exact Ru.v (dv_move E_1 rfl rfl) rfl ⟨⟨Mv.refl _ _ _,trivial⟩,rfl⟩
  ·intro T w_ HM hT hO hN;have e_:Mv [] (0) w w_:=mvD HM;have z_:=e_.size;have E_0:=Env.nil hT;have E_1:=E_0.add ((hO 2 (by kernel_rfl)).trans (E.get rfl));exact Ru.v (dv_move E_1 rfl rfl) rfl ⟨⟨Mv.refl _ _ _,trivial⟩,rfl⟩
  ·intro T w_ HM hT hO hN;have e_:Mv [] (0) w w_:=mvD HM;have z_:=e_.size;have E_0:=Env.nil hT;have E_1:=E_0.add ((hO 3 (by kernel_rfl)).trans (E.get rfl));exact Ru.v (dv_move E_1 rfl rfl) rfl ⟨⟨Mv.refl _ _ _,trivial⟩,rfl⟩
  ·intro T w_ HM hT hO hN;have e_:Mv [] (0) w w_:=mvD HM;have z_:=e_.size;have E_0:=Env.nil hT;have E_1:=E_0.add ((hO 4 (by kernel_rfl)).trans (E.get rfl));exact Ru.v (dv_move E_1 rfl rfl) rfl ⟨⟨Mv.refl _ _ _,trivial⟩,rfl⟩
  ·intro T w_ HM hT hO hN;have e_:Mv [] (0) w w_:=mvD HM;have z_:=e_.size;have E_0:=Env.nil hT;have E_1:=E_0.add ((hO 4 (by kernel_rfl)).trans (E.get rfl));exact Ru.v (dv_move E_1 rfl rfl) rfl ⟨⟨Mv.refl _ _ _,trivial⟩,rfl⟩
  ·intro T w_ HM hT hO hN;have e_:Mv [] (0) w w_:=mvD HM;have z_:=e_.size;have E_0:=Env.nil hT;obtain ⟨v_,h_,rfl⟩:=hN 5 (by kernel_rfl);have E_1:=E_0.add h_;replace vr:=(vr.mv e_ rfl rfl rfl rfl);refine (rr E_1 Tryz.func74 (size_c w_ c hc gval va vcap vp vpr 0 vr)).mono ?_;rintro _ _ ⟨rfl,rfl⟩;exact ⟨⟨Mv.refl _ _ _,trivial⟩,rfl⟩
  ·intro T w_ HM hT hO hN;have e_:Mv [] (0) w w_:=mvD HM;have z_:=e_.size;have E_0:=Env.nil hT;obtain ⟨v_,h_,rfl⟩:=hN 6 (by kernel_rfl);have E_1:=E_0.add h_;refine (rr E_1 Tryz.func73 (NewBitArray_c w_ c.n (by omega))).mono ?_;rintro _ w1 ⟨gb1_,ge2_,rfl,e1,hB3_,lgb1_,lge2_⟩;have zw1:=e1.size;replace lgb1_:w.heap.size≤gb1_:=by omega
   replace lge2_:w.heap.size≤ge2_:=by omega
   exact ⟨⟨e1.up rfl (Nat.zero_le _),trivial⟩,gb1_,ge2_,rfl,hB3_,lgb1_,lge2_⟩
  ·intro T w_ HM hT hO hN;have e_:Mv [] (0) w w_:=mvD HM;have z_:=e_.size;have E_0:=Env.nil hT;have E_1:=E_0.add ((hO 4 (by kernel_rfl)).trans (E.get rfl));exact Ru.v (dv_move E_1 rfl rfl) rfl ⟨⟨Mv.refl _ _ _,trivial⟩,rfl⟩
  ·intro T w_ HM hT hO hN;have e_:Mv [] (0) w w_:=mvD HM;have z_:=e_.size;have E_0:=Env.nil hT;obtain ⟨v_,h_,rfl⟩:=hN 8 (by kernel_rfl);have E_1:=E_0.add h_;replace vr:=(vr.mv e_ rfl rfl rfl rfl);refine (rr E_1 Tryz.func74 (size_c w_ c hc gval va vcap vp vpr 0 vr)).mono ?_;rintro _ _ ⟨rfl,rfl⟩;exact ⟨⟨Mv.refl _ _ _,trivial⟩,rfl⟩
  ·intro T w_ HM hT hO hN;have e_:Mv [] (0) w w_:=mvD HM;have z_:=e_.size;have E_0:=Env.nil hT;obtain ⟨v_,h_,rfl⟩:=hN 9 (by kernel_rfl);have E_1:=E_0.add h_;refine (ru_make (e:=107) (m:=c.n) (by_:=8) (z:= .pointer none) E_1 rfl rfl rfl rfl (by kernel_rfl) (infoB_of (by kernel_rfl)) rfl (by omega) (by omega)).mono ?_;rintro _ w2 ⟨g4_,rfl,e2,lg4_,xg4_,b5_⟩;have zw2:=e2.size;have yg4_:=heap_lt b5_;replace lg4_:w.heap.size≤g4_:=by omega
   exact ⟨⟨e2.up rfl (Nat.zero_le _),trivial⟩,g4_,rfl,lg4_,b5_⟩
  ·intro T w_ HM hT hO hN;have e_:Mv [] (0) w w_:=mvD HM;have z_:=e_.size;have E_0:=Env.nil hT;have E_1:=E_0.add ((hO 4 (by kernel_rfl)).trans (E.get rfl));exact Ru.v (dv_move E_1 rfl rfl) rfl ⟨⟨Mv.refl _ _ _,trivial⟩,rfl⟩
  ·intro T w_ HM hT hO hN;have e_:Mv [] (0) w w_:=mvD HM;have z_:=e_.size;have E_0:=Env.nil hT;obtain ⟨v_,h_,rfl⟩:=hN 11 (by kernel_rfl);have E_1:=E_0.add h_;replace vr:=(vr.mv e_ rfl rfl rfl rfl);refine (rr E_1 Tryz.func74 (size_c w_ c hc gval va vcap vp vpr 0 vr)).mono ?_;rintro _ _ ⟨rfl,rfl⟩;exact ⟨⟨Mv.refl _ _ _,trivial⟩,rfl⟩
  ·intro T w_ HM hT hO hN;have e_:Mv [] (0) w w_:=mvD HM;have z_:=e_.size;have E_0:=Env.nil hT;obtain ⟨v_,h_,rfl⟩:=hN 12 (by kernel_rfl);have E_1:=E_0.add h_;refine (ru_makeMap E_1 rfl rfl (fun x hx=>by cases hx;exact ⟨by kernel_rfl,_,_,rfl⟩)).mono ?_;rintro _ w3 ⟨g6_,rfl,e3,lg6_,xg6_,b7_⟩;have zw3:=e3.size;have yg6_:=MapS.lt b7_;replace lg6_:w.heap.size≤g6_:=by omega
   exact ⟨⟨e3,g6_,rfl,by omega,by omega⟩,g6_,rfl,lg6_,b7_⟩
  ·intro T w_ HM hT hO hN;have e_:Mv [] (0) w w_:=mvD HM;have z_:=e_.size;have E_0:=Env.nil hT;refine (ru_makeMap E_0 rfl rfl (fun x hx=>by cases hx)).mono ?_;rintro _ w4 ⟨g8_,rfl,e4,lg8_,xg8_,b9_⟩;have zw4:=e4.size;have yg8_:=MapS.lt b9_;replace lg8_:w.heap.size≤g8_:=by omega
   exact ⟨⟨e4,g8_,rfl,by omega,by omega⟩,g8_,rfl,lg8_,b9_⟩
 ·intro T w5 HM hT hO hN hP;have e5:=mvD HM;have zw5:=e5.size;have E_0:=Env.nil hT;have E_1:=E_0.add ((hO 1 (by kernel_rfl)).trans (E.get rfl));have E_2:=E_1.add ((hO 10 (by kernel_rfl)).trans (E.get rfl));have E_3:=E_2.add ((hO 11 (by kernel_rfl)).trans (E.get rfl));have E_4:=E_3.add ((hO 12 (by kernel_rfl)).trans (E.get rfl));obtain ⟨v_,h_,rfl⟩:=hN 0 (by kernel_rfl);have E_5:=E_4.add h_;obtain ⟨v_,h_,rfl⟩:=hN 1 (by kernel_rfl);have E_6:=E_5.add h_;obtain ⟨v_,h_,rfl⟩:=hN 2 (by kernel_rfl);have E_7:=E_6.add h_;obtain ⟨v_,h_,rfl⟩:=hN 3 (by kernel_rfl);have E_8:=E_7.add h_;obtain ⟨v_,h_,rfl⟩:=hN 4 (by kernel_rfl);have E_9:=E_8.add h_;obtain ⟨v_,h_,gb1__7,ge2__7,rfl,hB3__7,lgb1__7,lge2__7⟩:=hN 7 (by kernel_rfl);have E_10:=E_9.add h_;obtain ⟨v_,h_,g4__10,rfl,lg4__10,b5__10⟩:=hN 10 (by kernel_rfl);have E_11:=E_10.add h_;obtain ⟨v_,h_,g6__13,rfl,lg6__13,b7__13⟩:=hN 13 (by kernel_rfl);have E_12:=E_11.add h_;have hp13_:=h_;obtain ⟨v_,h_,g8__14,rfl,lg8__14,b9__14⟩:=hN 14 (by kernel_rfl);have E_13:=E_12.add h_;have hp14_:=h_;have hpair_:g6__13≠g8__14:=fun e=>hP (by rw [hp13_,hp14_,e]);have E:=E_13;refine sv E (dv_build (vs:=[(0,.string c.ch),(1,Iw ((c.ht:Int))),(2,.int .i32 ((c.rd:Int))),(3,.int .i32 ((c.kd:Int))),(4,Pt gval),(6,Pt gb1__7),(7,.slice (some ⟨g4__10,0,none⟩) c.n c.n),(8,Iw 0),(9,.pointer none),(10,.map (some g6__13)),(11,.map (some g8__14))]) (C:=#[.string c.ch,Iw ((c.ht:Int)),.int .i32 ((c.rd:Int)),.int .i32 ((c.kd:Int)),Pt gval,.bool false,Pt gb1__7,.slice (some ⟨g4__10,0,none⟩) c.n c.n,Iw 0,.pointer none,.map (some g6__13),.map (some g8__14)]) E rfl rfl (by kernel_rfl)) fun T E=>?_;refine sr E (rbx E) ?_;rintro _ w6 ⟨g10_,rfl,e6,lg10_,xg10_,b11_⟩ T E;have zw6:=e6.size;have yg10_:=heap_lt b11_;refine go [1,4,17] ?_;intro T E;replace hB3__7:=(Bits.mv hB3__7 e6 rfl rfl);replace ho:=old0 (old0 ho e5) e6;replace vr:=(((vr.mv e5 rfl rfl rfl rfl)).mv e6 rfl rfl rfl rfl);replace b5__10:=e6.blk b5__10 rfl;replace b7__13:=b7__13.mv e6 rfl;replace b9__14:=b9__14.mv e6 rfl;refine post1_ret E rfl rfl ?_;exact ⟨⟨g10_,gval,gb1__7,ge2__7,g4__10,g6__13,g8__14,va,vcap,vp,vpr,0,0,fun _=>none,none,[],[],lo⟩,rfl,Mv.of_below ho _ _,rfl,⟨rfl,rfl,rfl,rfl,rfl⟩,IRep.new hc b11_ vr hB3__7 b5__10 b7__13 b9__14 hpair_ (by omega)⟩
theorem tallyGet_n (w:World) (i:Nat):Ret Tryz.prog 131 #[.pointer none,.int .i32 ((i:Int))] w (fun v w1=>v= .pointer none∧w=w1):=by
 refine en 14 Tryz.func131 fun T E=>?_;refine go [5,1,4] ?_;intro T E;refine sk fun K1 hK1=>?_;refine go [5,0,13,4,14,5,1,4,17] ?_;intro T E;refine post1_ret E rfl rfl ?_;exact ⟨rfl,rfl⟩
theorem tallyGet_c (w:World) (n:Nat) (a:TT) (ht:TRep w n a) (i:Nat) (hi:i<n):Ret Tryz.prog 131 #[Pt a.gt,.int .i32 ((i:Int))] w (fun v w1=>v=ptrO (a.pv i)∧w=w1):=by
 refine en 14 Tryz.func131 fun T E=>?_;have tb:=ht.blk;have tr:=ht.row.row;refine go [5,1,4] ?_;intro T E;refine sk fun K1 hK1=>?_;refine go [5,0,11,4,15,16] ?_;intro T E;refine hK1 _ _ ?_;refine go [5,0,2,52,3,0] ?_;intro T E;refine sv E (dJ ⟨a.gv,i,none⟩ 1 i E) fun T E=>?_;refine sv E (dv_load (v:=(ptrO (a.pv i))) E rfl rfl (by kernel_rfl) (cell_of tr (fcells_get (by omega)))) fun T E=>?_;refine go [1,4,17] ?_;intro T E;refine post1_ret E rfl rfl ?_;exact ⟨rfl,rfl⟩
theorem getVote_same (w:World) (c:Cf) (hc:c.Ok) (m:VM) (A:IAd) (N:Nat) (hI:IRep w c m A N) (b:Bk) (hbo:b.Ok) (i:Nat) (hi:i<c.n) (o:Vt) (hm:m.vs i=some o) (heq:o.bk=b):Ret Tryz.prog 105 #[Pt A.gs,.int .i32 ((i:Int)),.string (keyB b)] w (fun v w1=> ∃q,v= .tuple #[.pointer (some ⟨q,0,none⟩),.bool true]∧Mv [] 0 w w1∧RdVote w q o):=by
 refine en 40 Tryz.func105 fun T E=>?_;have iset:=hI.set;have yset:=heap_lt iset;obtain ⟨q,hp,hq⟩:=RdO.some (hm▸hI.row.vs i hi);have hq0:=hq;have irow:=hI.row.row;obtain ⟨A1q,c1q,A3q,c3q,Vq,cvq,Sq,csq,vbq,vrq,vaq,vsq,voq⟩:=hq;have yvq:=heap_lt vbq;have ho:=Below.refl w.heap.size w;refine go [5,1,1,4] ?_;intro T E;refine sk fun K1 hK1=>?_;refine go [5,0,2,57,3,0] ?_;intro T E;refine sv E (dJ ⟨A.gv,i,none⟩ 1 i E) fun T E=>?_;refine sv E (dv_load (v:=Pt q) E rfl rfl (by kernel_rfl) (cell_of irow ((fcells_get (by omega)).trans (congrArg some (congrArg ptrO hp))))) fun T E=>?_;refine go [1,4,5,0,10,0,30,32,103] ?_;intro T E;refine seq_von (b:=true) E (dR 3 [.slice A1q o.bk.h.length c1q,Uw ((o.bk.t:Int)),.slice A3q o.bk.r.length c3q] E vbq) rfl rfl rfl rfl rfl rfl (fun T E=> ?_);refine sr E (rr E Tryz.func76 (key_r w o.bk (.slice A1q o.bk.h.length c1q) (Uw ((o.bk.t:Int))) (.slice A3q o.bk.r.length c3q) vrq) (wanted_on (b:=true) E rfl rfl rfl rfl)) ?_;rintro _ w1 ⟨rfl,e1⟩ T E;have zw1:=e1.size;refine go [30] ?_;intro T E;refine seq_von (b:=true) E (dv_as (c:=true) (dv_streql E rfl rfl rfl) (decide_eq_true (by rw [heq]))) rfl rfl rfl rfl rfl rfl (fun T E=> ?_);refine go [8,4,14,5,0,1,1,4,17] ?_;intro T E;replace ho:=old0 ho e1;refine post2_ret E rfl rfl rfl ?_;exact ⟨q,rfl,Mv.of_below ho _ _,hq0⟩
theorem getVote_Nn (w:World) (c:Cf) (hc:c.Ok) (m:VM) (A:IAd) (N:Nat) (hI:IRep w c m A N) (b:Bk) (hbo:b.Ok) (i:Nat) (hi:i<c.n) (hm:m.vs i=none) (hno: ∀a∈A.ts,a.t.bk≠b):Ret Tryz.prog 105 #[Pt A.gs,.int .i32 ((i:Int)),.string (keyB b)] w (fun v w1=>v= .tuple #[.pointer none,.bool false]∧Mv [] 0 w w1):=by
 refine en 40 Tryz.func105 fun T E=>?_;have iset:=hI.set;have yset:=heap_lt iset;have imap:=hI.tsp.map;have ymap:=MapS.lt imap;have hp:A.pv i=none:=RdO.none (hm▸hI.row.vs i hi);have irow:=hI.row.row;have ho:=Below.refl w.heap.size w;refine go [5,1,1,4] ?_;intro T E;refine sk fun K1 hK1=>?_;refine go [5,0,2,57,3,0] ?_;intro T E;refine sv E (dJ ⟨A.gv,i,none⟩ 1 i E) fun T E=>?_;refine sv E (dv_load (v:= .pointer none) E rfl rfl (by kernel_rfl) (cell_of irow ((fcells_get (by omega)).trans (congrArg some (congrArg ptrO hp))))) fun T E=>?_;refine go [1,4,5,0,12,0,20,20,20,20,20,20,20,9,4,15,16] ?_;intro T E;refine hK1 _ _ ?_;refine sk fun K2 hK2=>?_;refine go [5,0,2,60,3,0] ?_;intro T E;refine sv E (dv_look1N (k:=9) (e:=177) (z:= .pointer none) E rfl rfl rfl (by kernel_rfl) (by kernel_rfl) (by kernel_rfl) imap (hI.tsp.nolook hbo hno)) fun T E=>?_;refine sv E (dm E) fun T E=>?_;refine cl E Tryz.func131 (tallyGet_n w i) ?_;rintro _ _ ⟨rfl,rfl⟩ T E;refine go [1,4,5,0,12,4,15,16] ?_;intro T E;refine hK2 _ _ ?_;refine go [5,1,1,4,17] ?_;intro T E;refine post2_ret E rfl rfl rfl ?_;exact ⟨rfl,Mv.of_below ho _ _⟩
theorem getVote_Ne (w:World) (c:Cf) (hc:c.Ok) (m:VM) (A:IAd) (N:Nat) (hI:IRep w c m A N) (b:Bk) (hbo:b.Ok) (i:Nat) (hi:i<c.n) (hm:m.vs i=none) (a:TT) (ha:a∈A.ts) (hab:a.t.bk=b) (hta:a.t.vs i=none):Ret Tryz.prog 105 #[Pt A.gs,.int .i32 ((i:Int)),.string (keyB b)] w (fun v w1=>v= .tuple #[.pointer none,.bool false]∧Mv [] 0 w w1):=by
 refine en 40 Tryz.func105 fun T E=>?_;have iset:=hI.set;have yset:=heap_lt iset;have imap:=hI.tsp.map;have ymap:=MapS.lt imap;have hp:A.pv i=none:=RdO.none (hm▸hI.row.vs i hi);have irow:=hI.row.row;have ta:=hI.tsp.rep a ha;have hpa:ptrO (a.pv i)= .pointer none:=congrArg ptrO (RdO.none (hta▸ta.row.vs i hi));have ho:=Below.refl w.heap.size w;refine go [5,1,1,4] ?_;intro T E;refine sk fun K1 hK1=>?_;refine go [5,0,2,57,3,0] ?_;intro T E;refine sv E (dJ ⟨A.gv,i,none⟩ 1 i E) fun T E=>?_;refine sv E (dv_load (v:= .pointer none) E rfl rfl (by kernel_rfl) (cell_of irow ((fcells_get (by omega)).trans (congrArg some (congrArg ptrO hp))))) fun T E=>?_;refine go [1,4,5,0,12,0,20,20,20,20,20,20,20,9,4,15,16] ?_;intro T E;refine hK1 _ _ ?_;refine sk fun K2 hK2=>?_;refine go [5,0,2,60,3,0] ?_;intro T E;refine sv E (dv_look1S (k:=9) (e:=177) (u:=Pt a.gt) E rfl rfl rfl (by kernel_rfl) (by kernel_rfl) imap (by rw [← hab];exact hI.tsp.look ha)) fun T E=>?_;refine sv E (dm E) fun T E=>?_;refine cl E Tryz.func131 (ret_v (tallyGet_c w c.n a ta i hi) hpa) ?_;rintro _ _ ⟨rfl,rfl⟩ T E;refine go [1,4,5,0,12,4,15,16] ?_;intro T E;refine hK2 _ _ ?_;refine go [5,1,1,4,17] ?_;intro T E;refine post2_ret E rfl rfl rfl ?_;exact ⟨rfl,Mv.of_below ho _ _⟩
theorem getVote_Ns (w:World) (c:Cf) (hc:c.Ok) (m:VM) (A:IAd) (N:Nat) (hI:IRep w c m A N) (b:Bk) (hbo:b.Ok) (i:Nat) (hi:i<c.n) (hm:m.vs i=none) (a:TT) (ha:a∈A.ts) (hab:a.t.bk=b) (o2:Vt) (hta:a.t.vs i=some o2):Ret Tryz.prog 105 #[Pt A.gs,.int .i32 ((i:Int)),.string (keyB b)] w (fun v w1=> ∃q,v= .tuple #[.pointer (some ⟨q,0,none⟩),.bool true]∧Mv [] 0 w w1∧RdVote w q o2):=by
 refine en 40 Tryz.func105 fun T E=>?_;have iset:=hI.set;have yset:=heap_lt iset;have imap:=hI.tsp.map;have ymap:=MapS.lt imap;have hp:A.pv i=none:=RdO.none (hm▸hI.row.vs i hi);have irow:=hI.row.row;have ta:=hI.tsp.rep a ha;obtain ⟨r,hr1,hr⟩:=RdO.some (hta▸ta.row.vs i hi);have hpa:ptrO (a.pv i)= .pointer (some ⟨r,0,none⟩):=congrArg ptrO hr1;have ho:=Below.refl w.heap.size w;refine go [5,1,1,4] ?_;intro T E;refine sk fun K1 hK1=>?_;refine go [5,0,2,57,3,0] ?_;intro T E;refine sv E (dJ ⟨A.gv,i,none⟩ 1 i E) fun T E=>?_;refine sv E (dv_load (v:= .pointer none) E rfl rfl (by kernel_rfl) (cell_of irow ((fcells_get (by omega)).trans (congrArg some (congrArg ptrO hp))))) fun T E=>?_;refine go [1,4,5,0,12,0,20,20,20,20,20,20,20,9,4,15,16] ?_;intro T E;refine hK1 _ _ ?_;refine sk fun K2 hK2=>?_;refine go [5,0,2,60,3,0] ?_;intro T E;refine sv E (dv_look1S (k:=9) (e:=177) (u:=Pt a.gt) E rfl rfl rfl (by kernel_rfl) (by kernel_rfl) imap (by rw [← hab];exact hI.tsp.look ha)) fun T E=>?_;refine sv E (dm E) fun T E=>?_;refine cl E Tryz.func131 (ret_v (tallyGet_c w c.n a ta i hi) hpa) ?_;rintro _ _ ⟨rfl,rfl⟩ T E;refine go [1,4,5,0,10,4,14,5,0,1,1,4,17] ?_;intro T E;refine post2_ret E rfl rfl rfl ?_;exact ⟨r,rfl,Mv.of_below ho _ _,hr⟩
theorem getVote_On (w:World) (c:Cf) (hc:c.Ok) (m:VM) (A:IAd) (N:Nat) (hI:IRep w c m A N) (b:Bk) (hbo:b.Ok) (i:Nat) (hi:i<c.n) (o:Vt) (hm:m.vs i=some o) (hne:o.bk≠b) (hno: ∀a∈A.ts,a.t.bk≠b):Ret Tryz.prog 105 #[Pt A.gs,.int .i32 ((i:Int)),.string (keyB b)] w (fun v w1=>v= .tuple #[.pointer none,.bool false]∧Mv [] 0 w w1):=by
 refine en 40 Tryz.func105 fun T E=>?_;have iset:=hI.set;have yset:=heap_lt iset;have imap:=hI.tsp.map;have ymap:=MapS.lt imap;obtain ⟨q,hp,hq⟩:=RdO.some (hm▸hI.row.vs i hi);have hq0:=hq;have irow:=hI.row.row;obtain ⟨A1q,c1q,A3q,c3q,Vq,cvq,Sq,csq,vbq,vrq,vaq,vsq,voq⟩:=hq;have yvq:=heap_lt vbq;have ho:=Below.refl w.heap.size w;refine go [5,1,1,4] ?_;intro T E;refine sk fun K1 hK1=>?_;refine go [5,0,2,57,3,0] ?_;intro T E;refine sv E (dJ ⟨A.gv,i,none⟩ 1 i E) fun T E=>?_;refine sv E (dv_load (v:=Pt q) E rfl rfl (by kernel_rfl) (cell_of irow ((fcells_get (by omega)).trans (congrArg some (congrArg ptrO hp))))) fun T E=>?_;refine go [1,4,5,0,10,0,30,32,103] ?_;intro T E;refine seq_von (b:=true) E (dR 3 [.slice A1q o.bk.h.length c1q,Uw ((o.bk.t:Int)),.slice A3q o.bk.r.length c3q] E vbq) rfl rfl rfl rfl rfl rfl (fun T E=> ?_);refine sr E (rr E Tryz.func76 (key_r w o.bk (.slice A1q o.bk.h.length c1q) (Uw ((o.bk.t:Int))) (.slice A3q o.bk.r.length c3q) vrq) (wanted_on (b:=true) E rfl rfl rfl rfl)) ?_;rintro _ w1 ⟨rfl,e1⟩ T E;have zw1:=e1.size;refine go [30] ?_;intro T E;refine seq_von (b:=true) E (dv_as (c:=false) (dv_streql E rfl rfl rfl) (decide_eq_false (fun e=>hne (keyB_inj vrq.ok hbo e)))) rfl rfl rfl rfl rfl rfl (fun T E=> ?_);refine go [8,4,15,16] ?_;intro T E;refine hK1 _ _ ?_;refine sk fun K2 hK2=>?_;replace iset:=e1.blk iset rfl;refine go [5,0,2,60,3,0] ?_;intro T E;replace imap:=imap.mv e1 rfl;refine sv E (dv_look1N (k:=9) (e:=177) (z:= .pointer none) E rfl rfl rfl (by kernel_rfl) (by kernel_rfl) (by kernel_rfl) imap (hI.tsp.nolook hbo hno)) fun T E=>?_;refine sv E (dm E) fun T E=>?_;refine cl E Tryz.func131 (tallyGet_n w1 i) ?_;rintro _ _ ⟨rfl,rfl⟩ T E;refine go [1,4,5,0,12,4,15,16] ?_;intro T E;refine hK2 _ _ ?_;refine go [5,1,1,4,17] ?_;intro T E;replace ho:=old0 ho e1;refine post2_ret E rfl rfl rfl ?_;exact ⟨rfl,Mv.of_below ho _ _⟩
theorem getVote_Oe (w:World) (c:Cf) (hc:c.Ok) (m:VM) (A:IAd) (N:Nat) (hI:IRep w c m A N) (b:Bk) (hbo:b.Ok) (i:Nat) (hi:i<c.n) (o:Vt) (hm:m.vs i=some o) (hne:o.bk≠b) (a:TT) (ha:a∈A.ts) (hab:a.t.bk=b) (hta:a.t.vs i=none):Ret Tryz.prog 105 #[Pt A.gs,.int .i32 ((i:Int)),.string (keyB b)] w (fun v w1=>v= .tuple #[.pointer none,.bool false]∧Mv [] 0 w w1):=by
 refine en 40 Tryz.func105 fun T E=>?_;have iset:=hI.set;have yset:=heap_lt iset;have imap:=hI.tsp.map;have ymap:=MapS.lt imap;obtain ⟨q,hp,hq⟩:=RdO.some (hm▸hI.row.vs i hi);have hq0:=hq;have irow:=hI.row.row;obtain ⟨A1q,c1q,A3q,c3q,Vq,cvq,Sq,csq,vbq,vrq,vaq,vsq,voq⟩:=hq;have yvq:=heap_lt vbq;have ta:=hI.tsp.rep a ha;have hpa:ptrO (a.pv i)= .pointer none:=congrArg ptrO (RdO.none (hta▸ta.row.vs i hi));have ho:=Below.refl w.heap.size w;refine go [5,1,1,4] ?_;intro T E;refine sk fun K1 hK1=>?_;refine go [5,0,2,57,3,0] ?_;intro T E;refine sv E (dJ ⟨A.gv,i,none⟩ 1 i E) fun T E=>?_;refine sv E (dv_load (v:=Pt q) E rfl rfl (by kernel_rfl) (cell_of irow ((fcells_get (by omega)).trans (congrArg some (congrArg ptrO hp))))) fun T E=>?_;refine go [1,4,5,0,10,0,30,32,103] ?_;intro T E;refine seq_von (b:=true) E (dR 3 [.slice A1q o.bk.h.length c1q,Uw ((o.bk.t:Int)),.slice A3q o.bk.r.length c3q] E vbq) rfl rfl rfl rfl rfl rfl (fun T E=> ?_);refine sr E (rr E Tryz.func76 (key_r w o.bk (.slice A1q o.bk.h.length c1q) (Uw ((o.bk.t:Int))) (.slice A3q o.bk.r.length c3q) vrq) (wanted_on (b:=true) E rfl rfl rfl rfl)) ?_;rintro _ w1 ⟨rfl,e1⟩ T E;have zw1:=e1.size;refine go [30] ?_;intro T E;refine seq_von (b:=true) E (dv_as (c:=false) (dv_streql E rfl rfl rfl) (decide_eq_false (fun e=>hne (keyB_inj vrq.ok hbo e)))) rfl rfl rfl rfl rfl rfl (fun T E=> ?_);refine go [8,4,15,16] ?_;intro T E;refine hK1 _ _ ?_;refine sk fun K2 hK2=>?_;replace iset:=e1.blk iset rfl;refine go [5,0,2,60,3,0] ?_;intro T E;replace imap:=imap.mv e1 rfl;refine sv E (dv_look1S (k:=9) (e:=177) (u:=Pt a.gt) E rfl rfl rfl (by kernel_rfl) (by kernel_rfl) imap (by rw [← hab];exact hI.tsp.look ha)) fun T E=>?_;refine sv E (dm E) fun T E=>?_;replace ta:=(ta.mv e1 rfl);refine cl E Tryz.func131 (ret_v (tallyGet_c w1 c.n a ta i hi) hpa) ?_;rintro _ _ ⟨rfl,rfl⟩ T E;refine go [1,4,5,0,12,4,15,16] ?_;intro T E;refine hK2 _ _ ?_;refine go [5,1,1,4,17] ?_;intro T E;replace ho:=old0 ho e1;refine post2_ret E rfl rfl rfl ?_;exact ⟨rfl,Mv.of_below ho _ _⟩
theorem getVote_Os (w:World) (c:Cf) (hc:c.Ok) (m:VM) (A:IAd) (N:Nat) (hI:IRep w c m A N) (b:Bk) (hbo:b.Ok) (i:Nat) (hi:i<c.n) (o:Vt) (hm:m.vs i=some o) (hne:o.bk≠b) (a:TT) (ha:a∈A.ts) (hab:a.t.bk=b) (o2:Vt) (hta:a.t.vs i=some o2):Ret Tryz.prog 105 #[Pt A.gs,.int .i32 ((i:Int)),.string (keyB b)] w (fun v w1=> ∃q,v= .tuple #[.pointer (some ⟨q,0,none⟩),.bool true]∧Mv [] 0 w w1∧RdVote w q o2):=by
 refine en 40 Tryz.func105 fun T E=>?_;have iset:=hI.set;have yset:=heap_lt iset;have imap:=hI.tsp.map;have ymap:=MapS.lt imap;obtain ⟨q,hp,hq⟩:=RdO.some (hm▸hI.row.vs i hi);have hq0:=hq;have irow:=hI.row.row;obtain ⟨A1q,c1q,A3q,c3q,Vq,cvq,Sq,csq,vbq,vrq,vaq,vsq,voq⟩:=hq;have yvq:=heap_lt vbq;have ta:=hI.tsp.rep a ha;obtain ⟨r,hr1,hr⟩:=RdO.some (hta▸ta.row.vs i hi);have hpa:ptrO (a.pv i)= .pointer (some ⟨r,0,none⟩):=congrArg ptrO hr1;have ho:=Below.refl w.heap.size w;refine go [5,1,1,4] ?_;intro T E;refine sk fun K1 hK1=>?_;refine go [5,0,2,57,3,0] ?_;intro T E;refine sv E (dJ ⟨A.gv,i,none⟩ 1 i E) fun T E=>?_;refine sv E (dv_load (v:=Pt q) E rfl rfl (by kernel_rfl) (cell_of irow ((fcells_get (by omega)).trans (congrArg some (congrArg ptrO hp))))) fun T E=>?_;refine go [1,4,5,0,10,0,30,32,103] ?_;intro T E;refine seq_von (b:=true) E (dR 3 [.slice A1q o.bk.h.length c1q,Uw ((o.bk.t:Int)),.slice A3q o.bk.r.length c3q] E vbq) rfl rfl rfl rfl rfl rfl (fun T E=> ?_);refine sr E (rr E Tryz.func76 (key_r w o.bk (.slice A1q o.bk.h.length c1q) (Uw ((o.bk.t:Int))) (.slice A3q o.bk.r.length c3q) vrq) (wanted_on (b:=true) E rfl rfl rfl rfl)) ?_;rintro _ w1 ⟨rfl,e1⟩ T E;have zw1:=e1.size;refine go [30] ?_;intro T E;refine seq_von (b:=true) E (dv_as (c:=false) (dv_streql E rfl rfl rfl) (decide_eq_false (fun e=>hne (keyB_inj vrq.ok hbo e)))) rfl rfl rfl rfl rfl rfl (fun T E=> ?_);refine go [8,4,15,16] ?_;intro T E;refine hK1 _ _ ?_;refine sk fun K2 hK2=>?_;replace iset:=e1.blk iset rfl;refine go [5,0,2,60,3,0] ?_;intro T E;replace imap:=imap.mv e1 rfl;refine sv E (dv_look1S (k:=9) (e:=177) (u:=Pt a.gt) E rfl rfl rfl (by kernel_rfl) (by kernel_rfl) imap (by rw [← hab];exact hI.tsp.look ha)) fun T E=>?_;refine sv E (dm E) fun T E=>?_;replace ta:=(ta.mv e1 rfl);refine cl E Tryz.func131 (ret_v (tallyGet_c w1 c.n a ta i hi) hpa) ?_;rintro _ _ ⟨rfl,rfl⟩ T E;refine go [1,4,5,0,10,4,14,5,0,1,1,4,17] ?_;intro T E;replace ho:=old0 ho e1;refine post2_ret E rfl rfl rfl ?_;exact ⟨r,rfl,Mv.of_below ho _ _,hr⟩
theorem getVote_s (w:World) (c:Cf) (hc:c.Ok) (m:VM) (A:IAd) (N:Nat) (hI:IRep w c m A N) (b:Bk) (hbo:b.Ok) (i:Nat) (hi:i<c.n) (v:Vt) (o:Vt) (hv:v.bk=b) (hs:sameM m v i=some o):Ret Tryz.prog 105 #[.pointer (some ⟨A.gs,0,none⟩),.int .i32 (i:Int),.string (keyB b)] w (fun u w1=> ∃q,u= .tuple #[.pointer (some ⟨q,0,none⟩),.bool true]∧Mv [] 0 w w1∧RdVote w q o):=by
  subst hv;have tl:(findT m.ts v.bk).bind (fun t=>t.vs i)=some o→∃a∈A.ts,a.t.bk=v.bk∧a.t.vs i=some o:=fun h=>by
    cases hf:findT m.ts v.bk with
    | none=>rw [hf] at h;cases h
    | some t=>
      rw [hf] at h;obtain ⟨a,ha,rfl,h2⟩:=hI.find hf;exact ⟨a,ha,h2,h⟩
  unfold sameM at hs;cases hm:m.vs i with
  | none=>
    rw [hm] at hs;obtain ⟨a,ha,h1,h2⟩:=tl hs;exact getVote_Ns w c hc m A N hI v.bk hbo i hi hm a ha h1 o h2
  | some o1=>
    rw [hm] at hs;simp only at hs;by_cases he:o1.bk=v.bk
    · rw [if_pos he] at hs
      obtain rfl:=Option.some.inj hs;exact getVote_same w c hc m A N hI v.bk hbo i hi o1 hm he
    · rw [if_neg he] at hs
      obtain ⟨a,ha,h1,h2⟩:=tl hs;exact getVote_Os w c hc m A N hI v.bk hbo i hi o1 hm he a ha h1 o h2
theorem getVote_n (w:World) (c:Cf) (hc:c.Ok) (m:VM) (A:IAd) (N:Nat) (hI:IRep w c m A N) (b:Bk) (hbo:b.Ok) (i:Nat) (hi:i<c.n) (v:Vt) (hv:v.bk=b) (hs:sameM m v i=none):Ret Tryz.prog 105 #[.pointer (some ⟨A.gs,0,none⟩),.int .i32 (i:Int),.string (keyB b)] w (fun u w1=>u= .tuple #[.pointer none,.bool false]∧Mv [] 0 w w1):=by
  subst hv;have tl:(findT m.ts v.bk).bind (fun t=>t.vs i)=none→(∀a∈A.ts,a.t.bk≠v.bk)∨∃a∈A.ts,a.t.bk=v.bk∧a.t.vs i=none:=fun h=>by
    cases hf:findT m.ts v.bk with
    | none=>exact .inl (hI.nofind hf)
    | some t=>
      rw [hf] at h;obtain ⟨a,ha,rfl,h2⟩:=hI.find hf;exact .inr ⟨a,ha,h2,h⟩
  unfold sameM at hs;cases hm:m.vs i with
  | none=>
    rw [hm] at hs;rcases tl hs with h | ⟨a,ha,h1,h2⟩
    · exact getVote_Nn w c hc m A N hI v.bk hbo i hi hm h
    · exact getVote_Ne w c hc m A N hI v.bk hbo i hi hm a ha h1 h2
  | some o1=>
    rw [hm] at hs;simp only at hs;by_cases he:o1.bk=v.bk
    · rw [if_pos he] at hs;cases hs
    · rw [if_neg he] at hs
      rcases tl hs with h | ⟨a,ha,h1,h2⟩
      · exact getVote_On w c hc m A N hI v.bk hbo i hi o1 hm he h
      · exact getVote_Oe w c hc m A N hI v.bk hbo i hi o1 hm he a ha h1 h2
def TT.put (a:TT) (i p:Nat) (v:Vt) (pw:Nat):TT:={a with t:={a.t with vs:=updO a.t.vs i (some v),sum:=a.t.sum+pw},x:=a.x ||| 2^i,pv:=updO a.pv i (some p)}
theorem bit_put {x i j:Nat} {vs:Nat→Option Vt} {v:Vt} (h:x.testBit j=(vs j).isSome):(x ||| 2^i).testBit j=((updO vs i (some v)) j).isSome:=by
  rw [Nat.testBit_or,Nat.testBit_two_pow];by_cases e:j=i
  · subst e;simp [updO_at]
  · rw [updO_ne _ _ e,h]
    simp [Ne.symm e]
theorem PRow.put {w W:World} {σ:List Nat} {base g n i p:Nat} {pv:Nat→Option Nat} {vs:Nat→Option Vt} {v:Vt} (h:PRow w g n pv vs) (e:Mv σ base w W) (hs:σ.contains 5=false) (hs2:σ.contains 119=false) (hb:W.heap[g]? =some (.cells (fcells n (fun j=>ptrO (updO pv i (some p) j))) 107 (0,0))) (hv:RdVote W p v):PRow W g n (updO pv i (some p)) (updO vs i (some v)):=
  ⟨hb,fun j hj=>by
    by_cases ej:j=i
    · subst ej;rw [updO_at,updO_at];exact hv
    · rw [updO_ne _ _ ej,updO_ne _ _ ej];exact (h.vs j hj).mv e hs hs2⟩
theorem TRep.put {w W:World} {σ:List Nat} {base n i p pw:Nat} {a:TT} {v:Vt} (h:TRep w n a) (e:Mv σ base w W) (hs:σ.contains 5=false) (hs2:σ.contains 119=false) (b1:W.heap[a.gt]? =some (.cells #[.bool a.t.cl,.pointer (some ⟨a.gb,0,none⟩),.slice (some ⟨a.gv,0,none⟩) n n,.int .i64 ((a.t.sum+pw:Nat):Int)] 180 (0,0))) (b2:Bits W a.gb a.ge n (a.x ||| 2^i)) (b3:W.heap[a.gv]? =some (.cells (fcells n (fun j=>ptrO (updO a.pv i (some p) j))) 107 (0,0))) (hv:RdVote W p v):TRep W n (a.put i p v pw):=
  ⟨b1,b2,fun j hj=>bit_put (h.bit j hj),h.row.put e hs hs2 b3 hv,h.ok⟩
theorem tallyPut_c (w:World) (n:Nat) (hn:n≤12) (a:TT) (ht:TRep w n a) (p:Nat) (v:Vt) (hv:RdVote w p v) (i:Nat) (hi:i<n) (hpl:v.pl=(i:Int)) (pw:Nat) (hpw:pw≤1000000) (hsm:a.t.sum≤1000000000000) (hp:a.pv i=none) (lo:Nat) (hlo:lo≤a.gt∧lo≤a.ge∧lo≤a.gv):Ret Tryz.prog 135 #[Pt a.gt,Pt p,Iw ((pw:Int))] w (fun u w1=>u= .tuple #[]∧Mv [180,107,199] lo w w1∧Kp 180 a.gt a.gt w w1∧Kp 199 a.ge a.ge w w1∧Kp 107 a.gv a.gv w w1∧TRep w1 n (a.put i p v pw)):=by
 refine en 43 Tryz.func135 fun T E=>?_;have hv0:=hv;obtain ⟨A1v,c1v,A3v,c3v,Vv,cvv,Sv,csv,vbv,vrv,vav,vsv,vov⟩:=hv;have yvv:=heap_lt vbv;rw [hpl] at vbv;have tb:=ht.blk;have tbits:=ht.bits;have tr:=ht.row.row;have ytb:=heap_lt tb;have ytr:=heap_lt tr;have yte:=heap_lt tbits.he;have ch:=Mv.refl [180,107,199] lo w;have k1:=Kp.refl 180 a.gt a.gt w;have k2:=Kp.refl 199 a.ge a.ge w;have k3:=Kp.refl 107 a.gv a.gv w;refine go [5,0,2,59,3,1,4,5,0,2,52,3,0] ?_;intro T E;refine sv E (dJ ⟨a.gv,i,none⟩ 1 i E) fun T E=>?_;refine sv E (dv_load (v:= .pointer none) E rfl rfl (by kernel_rfl) (cell_of tr ((fcells_get (by omega)).trans (congrArg some (congrArg ptrO hp))))) fun T E=>?_;refine go [1,4,5,0,13,4,14,5,0,2,51,3,0] ?_;intro T E;refine sv E (dci64 E) fun T E=>?_;refine cl E Tryz.func134 (SetIndex_c w a.gb a.ge n a.x i tbits (by omega)) ?_;rintro _ w1 ⟨rfl,e1,n1_,tbits⟩ T E;have zw1:=e1.size;replace tb:=e1.blk tb rfl;refine go [4,5,0,2,52,3,0,0] ?_;intro T E;refine sv E (dJ ⟨a.gv,i,none⟩ 1 i E) fun T E=>?_;replace tr:=e1.blk tr rfl;refine sst (dk_store E rfl rfl rfl rfl (by kernel_rfl) tr (fcells_blt (by omega))) ?_;intro w2 e2 n2_ tr;have zw2:=e2.size;rw [fcells_set (f:=fun q_=>ptrO (a.pv q_)) (f2:=fun q_=>ptrO ((updO a.pv i (some p)) q_)) (v:=Pt p) (by omega) (congrArg ptrO (updO_at _ i _)) (fun j hj=>congrArg ptrO (updO_ne (i:=i) _ _ hj))] at tr;replace tb:=e2.blk tb rfl;refine go [4,21,0,2,53,3,0] ?_;intro T E;refine sv E (dq a.t.sum pw E) fun T E=>?_;refine go [2,53] ?_;intro T E;refine sst (dk1 E tb) ?_;intro w3 e3 n3_ tb;have zw3:=e3.size;refine wpList_nil ?_;replace ch:=Mv.step (Mv.step (Mv.step ch e1 rfl (by omega)) e2 rfl (by omega)) e3 rfl (by omega);replace k1:=Kp.stA ((k1.mv e1 rfl).mv e2 rfl) n3_;replace k2:=((Kp.stA k2 n1_).mv e2 rfl).mv e3 rfl;replace k3:=(Kp.stA (k3.mv e1 rfl) n2_).mv e3 rfl;replace tbits:=(Bits.mv ((Bits.mv tbits e2 rfl rfl)) e3 rfl rfl);replace tr:=e3.blk tr rfl;refine post0_normal rfl ?_;exact ⟨rfl,ch,k1,k2,k3,ht.put ch rfl rfl tb tbits tr (hv0.mv ch rfl rfl)⟩
theorem conflict_c (w:World) (p q:Nat):Ret Tryz.prog 109 #[Pt p,Pt q] w (fun v w1=> ∃g,v= .pointer (some ⟨g,0,none⟩)∧Mv [] 0 w w1∧w.heap.size≤g∧w1.heap[g]? =some (.cells #[.pointer (some ⟨p,0,none⟩),.pointer (some ⟨q,0,none⟩)] 258 (0,0))):=by
 refine en 9 Tryz.func109 fun T E=>?_;have ho:=Below.refl w.heap.size w;refine go [5,1,4,5,0,0] ?_;intro T E;refine sv E (dv_build (vs:=[(0,Pt p),(1,Pt q)]) (C:=#[Pt p,Pt q]) E rfl rfl (by kernel_rfl)) fun T E=>?_;refine sr E (rbx E) ?_;rintro _ w1 ⟨g1_,rfl,e1,lg1_,xg1_,b2_⟩ T E;have zw1:=e1.size;have yg1_:=heap_lt b2_;refine go [1,4,17] ?_;intro T E;replace ho:=old0 ho e1;refine post1_ret E rfl rfl ?_;exact ⟨g1_,rfl,Mv.of_below ho _ _,by omega,b2_⟩
theorem IRep.close {w W:World} {c:Cf} {m:VM} {A:IAd} {N N2:Nat} (hI:IRep w c m A N) (e:Mv [167,206,180,107,199,1000001] A.lo w W) (km:Kp 1000001 A.gm A.gm w W) {vs:Nat→Option Vt} {sum:Nat} {tsm:List Tl} {most:Option Bk} {x:Nat} {pv:Nat→Option Nat} {mo:Option Nat} {ts:List TT} {tv:Nat}
    (bset:W.heap[A.gs]? =some (.cells #[.string c.ch,.int .i64 (c.ht:Int),.int .i32 (c.rd:Int),.int .i32 (c.kd:Int),.pointer (some ⟨A.gval,0,none⟩),.bool false,.pointer (some ⟨A.gb,0,none⟩),.slice (some ⟨A.gv,0,none⟩) c.n c.n,.int .i64 (sum:Int),ptrO mo,.map (some A.gm),.map (some A.gp)] 167 (0,0)))
    (bval:W.heap[A.gval]? =some (.cells #[.slice A.va c.n A.vcap,.pointer (some ⟨A.vpr,0,none⟩),.int .i64 (tv:Int),.bool true] 206 (0,0))) (htv:tv=0∨tv=c.total) (bits:Bits W A.gb A.ge c.n x) (bit: ∀i,i<c.n→x.testBit i=(vs i).isSome) (row:PRow W A.gv c.n pv vs) (tsp:TsP W c.n A.ge A.gv A.gm ts) (hts:ts.map TT.t=tsm) (hmo:RdMo W mo most)
    (inv: ∀t∈tsm,∀i,i<c.n→(t.vs i).isSome=true→(vs i).isSome=true) (bnd:sum≤N2∧∀t∈tsm,t.sum≤N2) (htl: ∀a∈ts,A.lo≤a.gt∧A.lo≤a.ge∧A.lo≤a.gv):IRep W c ⟨vs,sum,tsm,most,m.peers⟩ {A with tv:=tv,x:=x,pv:=pv,mo:=mo,ts:=ts} N2:=
  ⟨bset,⟨bval,hI.vrep.row.mv e rfl,fun i hi=>(hI.vrep.vals i hi).mv e rfl rfl⟩,htv,bits,bit,row,tsp,hts,hmo,hI.pmap.oth (fun o ho=>by
    obtain ⟨es,cl,h1,_⟩:=hI.pmap;have:o= .map es cl:=Option.some.inj (ho.symm.trans h1);exact km A.gp o ho (by rw [this];rfl) (Ne.symm hI.gmp) (Ne.symm hI.gmp)),hI.peers,fun x hx=>(hI.prd x hx).mv e rfl,hI.gmp,inv,bnd,⟨⟨Nat.le_trans hI.lo.1.1 e.size,hI.lo.1.2⟩,htl⟩⟩
theorem lo_upd {lo:Nat} {ts:List TT} {b:Bk} {a1:TT} (h: ∀a∈ts,lo≤a.gt∧lo≤a.ge∧lo≤a.gv) (h1:lo≤a1.gt∧lo≤a1.ge∧lo≤a1.gv): ∀a∈setTT ts b a1,lo≤a.gt∧lo≤a.ge∧lo≤a.gv:=fun a ha=>by
  obtain ⟨y,hy,rfl⟩:=List.mem_map.1 ha
  split
  · exact h1
  · exact h y hy
theorem lo_add {lo:Nat} {ts:List TT} {a1:TT} (h: ∀a∈ts,lo≤a.gt∧lo≤a.ge∧lo≤a.gv) (h1:lo≤a1.gt∧lo≤a1.ge∧lo≤a1.gv): ∀a∈ts++ [a1],lo≤a.gt∧lo≤a.ge∧lo≤a.gv:=fun a ha=>(List.mem_append.1 ha).elim (h a) (fun e=>by obtain rfl:=List.mem_singleton.1 e;exact h1)
theorem Kp.any {k g:Nat} {w W:World} {o:Obj} (h:Kp k g g w W) (hg:w.heap[g]? =some o) (hk:okind o≠k) (a b:Nat):Kp k a b w W:=fun q x h1 h2 _ _=>by
  have:q≠g:=fun e=>by subst e;rw [hg] at h1;obtain rfl:=Option.some.inj h1;exact hk h2
  exact h q x h1 h2 this this
theorem map_setTT {ts:List TT} {b:Bk} {a:TT} {t:Tl} (h:a.t=t):(setTT ts b a).map TT.t=setT (ts.map TT.t) b (fun _=>t):=by
  unfold setTT setT;rw [List.map_map,List.map_map];apply List.map_congr_left;intro x _;simp only [Function.comp]
  split <;> simp_all
theorem setT_none {ts:List Tl} {b:Bk} {f:Tl→Tl} (h: ∀t∈ts,t.bk≠b):setT ts b f=ts:=by
  unfold setT
  conv=>rhs;rw [← List.map_id ts]
  apply List.map_congr_left;intro t ht;rw [if_neg (h t ht)];rfl
theorem setT_snoc {ts:List Tl} {t:Tl} {f:Tl→Tl} (h: ∀x∈ts,x.bk≠t.bk):setT (ts++ [t]) t.bk f=ts++ [f t]:=by
  have:=setT_none (f:=f) h;unfold setT at this ⊢;rw [List.map_append,this];simp
theorem setT_new {ts:List Tl} {b:Bk} {t t2:Tl} (hb:t.bk=b) (h: ∀x∈ts,x.bk≠b):ts++ [t2]=setT (ts++ [t]) b (fun _=>t2):=by
  subst hb;exact (setT_snoc (f:=fun _=>t2) h).symm
theorem mem_setT {ts:List Tl} {b:Bk} {t0 t:Tl} (h:t∈setT ts b (fun _=>t0)):t=t0∨t∈ts:=by
  unfold setT at h;obtain ⟨x,hx,rfl⟩:=List.mem_map.1 h
  split
  · exact .inl rfl
  · exact .inr hx
def mergeO {α:Type} (f g:Nat→Option α) (k:Nat):Nat→Option α:=fun x=>if x<k then (g x).or (f x) else f x
theorem merge_zero {α:Type} (f g:Nat→Option α):mergeO f g 0=f:=by funext x;simp [mergeO]
theorem merge_some {α:Type} {f g:Nat→Option α} {k:Nat} {r:α} (h:g k=some r):updO (mergeO f g k) k (some r)=mergeO f g (k+1):=by
  funext x
  unfold updO mergeO;by_cases e:x=k
  · subst e;simp [h]
  · rw [if_neg e]
    by_cases h1:x<k
    · rw [if_pos h1,if_pos (by omega)]
    · rw [if_neg h1,if_neg (by omega)]
theorem merge_none {α:Type} {f g:Nat→Option α} {k:Nat} (h:g k=none):mergeO f g k=mergeO f g (k+1):=by
  funext x
  unfold mergeO;by_cases e:x=k
  · subst e;simp [h]
  · by_cases h1:x<k
    · rw [if_pos h1,if_pos (by omega)]
    · rw [if_neg h1,if_neg (by omega)]
theorem fcells_congr {n:Nat} {f g:Nat→Value} (h: ∀i,i<n→f i=g i):fcells n f=fcells n g:=by
  unfold fcells
  congr 1
  exact List.map_congr_left (fun i hi=>h i (List.mem_range.1 hi))
theorem PRow.merge {W:World} {g n:Nat} {pv pa:Nat→Option Nat} {vs va:Nat→Option Vt} (hb:W.heap[g]? =some (.cells (fcells n (fun j=>ptrO (mergeO pv pa n j))) 107 (0,0))) (h1: ∀i,i<n→RdO W (pv i) (vs i)) (h2: ∀i,i<n→RdO W (pa i) (va i)):PRow W g n (fun j=>(pa j).or (pv j)) (fun j=>(va j).or (vs j)):=by
  refine ⟨?_,fun i hi=> ?_⟩
  · rw [hb,fcells_congr (g:=fun j=>ptrO ((pa j).or (pv j))) (fun i hi=>by simp [mergeO,hi])]
  · have h3:=h2 i hi
    cases hp:pa i with
    | none=>
      rw [hp] at h3;cases hv:va i with
      | none=>simpa [hp,hv] using h1 i hi
      | some v=>rw [hv] at h3;cases h3
    | some p=>
      rw [hp] at h3;cases hv:va i with
      | none=>rw [hv] at h3;cases h3
      | some v=>rw [hv] at h3;simpa [hp,hv] using h3
end Go.Proofs.YtlnknihjccdgkaaGreatDoor.V
