/- SHA-256, as the reference has it: that it is a function of t -/
import Derived.Test.YtlnknihjccdgkaaGreatDoorCm7
namespace Go.Proofs.YtlnknihjccdgkaaGreatDoor.V
open Go.RowKit Go.Proofs.YtlnknihjccdgkaaGreatDoor.X
set_option linter.unusedVariables false
set_option linter.unusedSimpArgs false
set_option maxHeartbeats 4000000
set_option maxRecDepth 100000
def hcf (H:Nat→Int):Nat→Value:=fun j=> .int .u32 (H j)
theorem hcf_ne {W:Nat→Int} {i:Nat} {v:Int} (j:Nat) (hj:j≠i):hcf (upd W i v) j=hcf W j:=by simp only [hcf,upd_ne W v hj]
theorem hcf_at {W:Nat→Int} {i:Nat} {v:Int}:hcf (upd W i v) i= .int .u32 v:=by simp only [hcf,upd_at]
def ivS2:Nat→Int:=fun j=>match j with | 0=>1779033703 | 1=>3144134277 | 2=>1013904242 | 3=>2773480762 | 4=>1359893119 | 5=>2600822924 | 6=>528734635 | _=>1541459225
def padZ (n:Nat):Nat:=(119-n % 64) % 64
def padA (l:List UInt8) (j:Nat):List UInt8:=l++ [UInt8.ofNat 128]++List.replicate j (UInt8.ofNat 0)
def lenB (n k:Nat):List UInt8:=(List.range k).map fun i=>UInt8.ofNat (n*8 / 2^(56-8*i) % 256)
def padS (l:List UInt8):List UInt8:=padA l (padZ l.length)++lenB l.length 8
theorem padA_len (l:List UInt8) (j:Nat):(padA l j).length=l.length+1+j:=by simp [padA];omega
theorem padA_succ (l:List UInt8) (j:Nat):padA l (j+1)=padA l j++ [UInt8.ofNat 0]:=by simp [padA,List.replicate_succ']
theorem lenB_succ (n k:Nat):lenB n (k+1)=lenB n k++ [UInt8.ofNat (n*8 / 2^(56-8*k) % 256)]:=by simp [lenB,List.range_succ]
theorem lenB_len (n k:Nat):(lenB n k).length=k:=by simp [lenB]
theorem padS_len (l:List UInt8):(padS l).length=l.length+1+padZ l.length+8:=by rw [padS,List.length_append,padA_len,lenB_len]
theorem padS_mod (l:List UInt8):(padS l).length % 64=0:=by
  rw [padS_len];unfold padZ;omega
theorem shrN (n a:Nat) (ha:a<64):(n:Int).fdiv (2^(min (Int.toNat ((a:Nat):Int)) (IntKind.bits .i64)))=((n / 2^a:Nat):Int):=by
  rw [Int.toNat_natCast,show min a (IntKind.bits .i64)=a from Nat.min_eq_left (by simp [IntKind.bits];omega),Int.fdiv_eq_ediv_of_nonneg _ (Int.pow_nonneg (by decide))]
  norm_cast
theorem tab_blk {w:World} {g t n:Nat} {f:Nat→Value} (hb:w.heap[g]? =some (.cells (fcells n f) t (0,0))):Tab w t (some ⟨g,0,none⟩) 1 n (fun j=> #[f j]):=fun _=>⟨g,0,_,_,rfl,hb,fun i hi j hj=>by
  obtain rfl:j=0:=by omega
  rw [show 0+(i*1+0)=i by omega,fcells_get hi];rfl⟩
theorem tab8 {w:World} {g:Nat} {f:Nat→Int} (hb:w.heap[g]? =some (.cells #[.int .u32 (f 0),.int .u32 (f 1),.int .u32 (f 2),.int .u32 (f 3),.int .u32 (f 4),.int .u32 (f 5),.int .u32 (f 6),.int .u32 (f 7)] 99 (0,0))):Tab w 99 (some ⟨g,0,none⟩) 1 8 (fun j=> #[.int .u32 (f j)]):=fun _=>⟨g,0,_,_,rfl,hb,fun i hi j hj=>by
  obtain rfl:j=0:=by omega
  match i,hi with
  | 0,_=>rfl
  | 1,_=>rfl
  | 2,_=>rfl
  | 3,_=>rfl
  | 4,_=>rfl
  | 5,_=>rfl
  | 6,_=>rfl
  | 7,_=>rfl⟩
theorem byt4 {w:World} {g a b c d:Nat} {fr:Nat×Nat} (hg:w.heap[g]? =some (.cells #[.int .u8 (a:Int),.int .u8 (b:Int),.int .u8 (c:Int),.int .u8 (d:Int)] 5 fr)) (ha:a<256) (hb:b<256) (hc:c<256) (hd:d<256):Byt w (.slice (some ⟨g,0,none⟩) 4 4) [UInt8.ofNat a,UInt8.ofNat b,UInt8.ofNat c,UInt8.ofNat d]:=
  Byt.lit hg (by simp only [bcells,List.map_cons,List.map_nil];rw [bcell_of ha,bcell_of hb,bcell_of hc,bcell_of hd]) rfl (by decide)
theorem byte_nat (x:Int):IntKind.u8.wrap x=(((IntKind.u8.wrap x).toNat:Nat):Int):=(Int.toNat_of_nonneg (wrap_nonneg .u8 rfl x)).symm
theorem byte_lt (x:Int):(IntKind.u8.wrap x).toNat<256:=by
  have h:IntKind.u8.wrap x<256:=by simp only [IntKind.wrap,IntKind.signed,IntKind.bits];simp;exact Int.emod_lt_of_pos _ (by decide)
  omega
def rotS (x:Int) (k:Nat):Int:=bits .or .u32 (Int.fdiv x (2^(min (Int.toNat ((k:Int))) (IntKind.bits .u32)))) (IntKind.u32.wrap (x*2^(min (Int.toNat (((32-k:Nat):Int))) (IntKind.bits .u32))))
theorem rotS_c (w:World) (x:Int) (k:Nat) (hk:k≤32):Ret Tryz.prog 62 #[Uw x,Iw ((k:Int))] w (fun v w1=>v= .int .u32 (rotS x k)∧Mv [] 0 w w1):=by
 refine en 13 Tryz.func62 fun T E=>?_;have ho:=Below.refl w.heap.size w;refine go [5,1,4] ?_;intro T E;refine wp_seq ?_;refine rgG 9 (Kv (Kv8 [])) [([],[0]),([],[1]),([0,1],[]),([],[0]),([],[1]),([4],[]),([3,5],[]),([2,6],[]),([7],[])] E (by
  refine dg [0,0] ?_;refine .cons (fun _ _ _ E _=>Ru.d (dv_shr (c:=Int.fdiv x (2^(min (Int.toNat ((k:Int))) (IntKind.bits .u32)))) E rfl rfl rfl (by omega) (rfl))) ?_;refine dg [0,0] ?_;refine .cons (fun _ _ _ E _=>Ru.d (dv_sub (c:=((32-k:Nat):Int)) E rfl rfl rfl (nk_sub (a:=32) (b:=k) (by omega) (by omega)))) ?_;refine .cons (fun _ _ _ E _=>Ru.d (dv_shl (c:=IntKind.u32.wrap (x*2^(min (Int.toNat (((32-k:Nat):Int))) (IntKind.bits .u32)))) E rfl rfl rfl (by omega) (rfl))) ?_;refine .cons (fun _ _ _ E _=>Ru.d (dv_bits (c:=bits .or .u32 (Int.fdiv x (2^(min (Int.toNat ((k:Int))) (IntKind.bits .u32)))) (IntKind.u32.wrap (x*2^(min (Int.toNat (((32-k:Nat):Int))) (IntKind.bits .u32))))) E rfl rfl rfl rfl (rfl))) ?_;exact dz [1]
  ) fun T w1 e1 hE hN=>?_
 have zw1:=e1.size;have E:=hE [8] [] trivial (by kernel_rfl);refine gn [4,17] ?_;replace ho:=old0 ho e1;refine post1_ret E rfl rfl ?_;exact ⟨rfl,Mv.of_below ho _ _⟩
theorem begin_c (w:World):Ret Tryz.prog 60 #[] w (fun v w1=>v= .agg (fcells 8 (hcf ivS2))∧Mv [] 0 w w1):=by
 refine en 2 Tryz.func60 fun T E=>?_;have ho:=Below.refl w.heap.size w;refine sq ?_;refine sr E (ral (.agg (Array.replicate 8 (Uw 0)))) ?_;rintro _ w1 ⟨g1_,rfl,e1,lg1_,xg1_,b2_⟩ T E;have zw1:=e1.size;have yg1_:=heap_lt b2_;refine gn [4,5] ?_;refine sv E (dv_build (vs:=[(0,Uw 1779033703),(1,Uw 3144134277),(2,Uw 1013904242),(3,Uw 2773480762),(4,Uw 1359893119),(5,Uw 2600822924),(6,Uw 528734635),(7,Uw 1541459225)]) (C:=#[Uw 1779033703,Uw 3144134277,Uw 1013904242,Uw 2773480762,Uw 1359893119,Uw 2600822924,Uw 528734635,Uw 1541459225]) E rfl rfl (by kernel_rfl)) fun T E=>?_;refine sst (dS [Uw 1779033703,Uw 3144134277,Uw 1013904242,Uw 2773480762,Uw 1359893119,Uw 2600822924,Uw 528734635,Uw 1541459225] E b2_) ?_;intro w2 e2 n3_ b2_;have zw2:=e2.size;refine gn [4,17] ?_;replace ho:=old1 (old0 ho e1) e2 (by omega);exact postC_ret (k:=8) (vs:=#[Uw 1779033703,Uw 3144134277,Uw 1013904242,Uw 2773480762,Uw 1359893119,Uw 2600822924,Uw 528734635,Uw 1541459225]) E rfl rfl (by kernel_rfl) (by kernel_rfl) rfl b2_ (⟨rfl,Mv.of_below ho _ _⟩)
theorem rounds_c (w:World):Ret Tryz.prog 61 #[] w (fun v w1=>v= .agg (fcells 64 (wcf kF))∧Mv [] 0 w w1):=by
 refine en 2 Tryz.func61 fun T E=>?_;have ho:=Below.refl w.heap.size w;refine sq ?_;refine sr E (ral (.agg (Array.replicate 64 (Uw 0)))) ?_;rintro _ w1 ⟨g1_,rfl,e1,lg1_,xg1_,b2_⟩ T E;have zw1:=e1.size;have yg1_:=heap_lt b2_;refine gn [4,5] ?_;refine sv E (dv_build (vs:=[(0,Uw 1116352408),(1,Uw 1899447441),(2,Uw 3049323471),(3,Uw 3921009573),(4,Uw 961987163),(5,Uw 1508970993),(6,Uw 2453635748),(7,Uw 2870763221),(8,Uw 3624381080),(9,Uw 310598401),(10,Uw 607225278),(11,Uw 1426881987),(12,Uw 1925078388),(13,Uw 2162078206),(14,Uw 2614888103),(15,Uw 3248222580),(16,Uw 3835390401),(17,Uw 4022224774),(18,Uw 264347078),(19,Uw 604807628),(20,Uw 770255983),(21,Uw 1249150122),(22,Uw 1555081692),(23,Uw 1996064986),(24,Uw 2554220882),(25,Uw 2821834349),(26,Uw 2952996808),(27,Uw 3210313671),(28,Uw 3336571891),(29,Uw 3584528711),(30,Uw 113926993),(31,Uw 338241895),(32,Uw 666307205),(33,Uw 773529912),(34,Uw 1294757372),(35,Uw 1396182291),(36,Uw 1695183700),(37,Uw 1986661051),(38,Uw 2177026350),(39,Uw 2456956037),(40,Uw 2730485921),(41,Uw 2820302411),(42,Uw 3259730800),(43,Uw 3345764771),(44,Uw 3516065817),(45,Uw 3600352804),(46,Uw 4094571909),(47,Uw 275423344),(48,Uw 430227734),(49,Uw 506948616),(50,Uw 659060556),(51,Uw 883997877),(52,Uw 958139571),(53,Uw 1322822218),(54,Uw 1537002063),(55,Uw 1747873779),(56,Uw 1955562222),(57,Uw 2024104815),(58,Uw 2227730452),(59,Uw 2361852424),(60,Uw 2428436474),(61,Uw 2756734187),(62,Uw 3204031479),(63,Uw 3329325298)]) (C:=#[Uw 1116352408,Uw 1899447441,Uw 3049323471,Uw 3921009573,Uw 961987163,Uw 1508970993,Uw 2453635748,Uw 2870763221,Uw 3624381080,Uw 310598401,Uw 607225278,Uw 1426881987,Uw 1925078388,Uw 2162078206,Uw 2614888103,Uw 3248222580,Uw 3835390401,Uw 4022224774,Uw 264347078,Uw 604807628,Uw 770255983,Uw 1249150122,Uw 1555081692,Uw 1996064986,Uw 2554220882,Uw 2821834349,Uw 2952996808,Uw 3210313671,Uw 3336571891,Uw 3584528711,Uw 113926993,Uw 338241895,Uw 666307205,Uw 773529912,Uw 1294757372,Uw 1396182291,Uw 1695183700,Uw 1986661051,Uw 2177026350,Uw 2456956037,Uw 2730485921,Uw 2820302411,Uw 3259730800,Uw 3345764771,Uw 3516065817,Uw 3600352804,Uw 4094571909,Uw 275423344,Uw 430227734,Uw 506948616,Uw 659060556,Uw 883997877,Uw 958139571,Uw 1322822218,Uw 1537002063,Uw 1747873779,Uw 1955562222,Uw 2024104815,Uw 2227730452,Uw 2361852424,Uw 2428436474,Uw 2756734187,Uw 3204031479,Uw 3329325298]) E rfl rfl (by kernel_rfl)) fun T E=>?_;refine sst (dS [Uw 1116352408,Uw 1899447441,Uw 3049323471,Uw 3921009573,Uw 961987163,Uw 1508970993,Uw 2453635748,Uw 2870763221,Uw 3624381080,Uw 310598401,Uw 607225278,Uw 1426881987,Uw 1925078388,Uw 2162078206,Uw 2614888103,Uw 3248222580,Uw 3835390401,Uw 4022224774,Uw 264347078,Uw 604807628,Uw 770255983,Uw 1249150122,Uw 1555081692,Uw 1996064986,Uw 2554220882,Uw 2821834349,Uw 2952996808,Uw 3210313671,Uw 3336571891,Uw 3584528711,Uw 113926993,Uw 338241895,Uw 666307205,Uw 773529912,Uw 1294757372,Uw 1396182291,Uw 1695183700,Uw 1986661051,Uw 2177026350,Uw 2456956037,Uw 2730485921,Uw 2820302411,Uw 3259730800,Uw 3345764771,Uw 3516065817,Uw 3600352804,Uw 4094571909,Uw 275423344,Uw 430227734,Uw 506948616,Uw 659060556,Uw 883997877,Uw 958139571,Uw 1322822218,Uw 1537002063,Uw 1747873779,Uw 1955562222,Uw 2024104815,Uw 2227730452,Uw 2361852424,Uw 2428436474,Uw 2756734187,Uw 3204031479,Uw 3329325298] E b2_) ?_;intro w2 e2 n3_ b2_;have zw2:=e2.size;refine gn [4,17] ?_;replace ho:=old1 (old0 ho e1) e2 (by omega);exact postC_ret (k:=64) (vs:=#[Uw 1116352408,Uw 1899447441,Uw 3049323471,Uw 3921009573,Uw 961987163,Uw 1508970993,Uw 2453635748,Uw 2870763221,Uw 3624381080,Uw 310598401,Uw 607225278,Uw 1426881987,Uw 1925078388,Uw 2162078206,Uw 2614888103,Uw 3248222580,Uw 3835390401,Uw 4022224774,Uw 264347078,Uw 604807628,Uw 770255983,Uw 1249150122,Uw 1555081692,Uw 1996064986,Uw 2554220882,Uw 2821834349,Uw 2952996808,Uw 3210313671,Uw 3336571891,Uw 3584528711,Uw 113926993,Uw 338241895,Uw 666307205,Uw 773529912,Uw 1294757372,Uw 1396182291,Uw 1695183700,Uw 1986661051,Uw 2177026350,Uw 2456956037,Uw 2730485921,Uw 2820302411,Uw 3259730800,Uw 3345764771,Uw 3516065817,Uw 3600352804,Uw 4094571909,Uw 275423344,Uw 430227734,Uw 506948616,Uw 659060556,Uw 883997877,Uw 958139571,Uw 1322822218,Uw 1537002063,Uw 1747873779,Uw 1955562222,Uw 2024104815,Uw 2227730452,Uw 2361852424,Uw 2428436474,Uw 2756734187,Uw 3204031479,Uw 3329325298]) E rfl rfl (by kernel_rfl) (by kernel_rfl) rfl b2_ (⟨rfl,Mv.of_below ho _ _⟩)
def ldS (p:Nat→Int) (a i4 c5:Nat) (W2:Nat→Int):Nat→Int:=upd W2 i4 (bits .or .u32 (IntKind.u32.wrap ((W2 i4)*2^(min (Int.toNat 8) (IntKind.bits .u32)))) (IntKind.u32.wrap ((p) (a+4*i4+c5))))
def ldC (p:Nat→Int) (a i:Nat):Nat→(Nat→Int)→(Nat→Int)
  | 0,W=>W
  | c+1,W=>ldS p a i c (ldC p a i c W)
def ldN (p:Nat→Int) (a:Nat):Nat→(Nat→Int)
  | 0=>fun _=>0
  | i+1=>ldC p a i 4 (ldN p a i)
def exS (k6:Nat) (W3:Nat→Int):Nat→Int:=upd W3 (16+k6) (IntKind.u32.wrap ((IntKind.u32.wrap ((IntKind.u32.wrap ((W3 ((16+k6)-16))+(bits .xor .u32 (bits .xor .u32 (rotS (W3 ((16+k6)-15)) 7) (rotS (W3 ((16+k6)-15)) 18)) (Int.fdiv (W3 ((16+k6)-15)) (2^(min (Int.toNat 3) (IntKind.bits .u32)))))))+(W3 ((16+k6)-7))))+(bits .xor .u32 (bits .xor .u32 (rotS (W3 ((16+k6)-2)) 17) (rotS (W3 ((16+k6)-2)) 19)) (Int.fdiv (W3 ((16+k6)-2)) (2^(min (Int.toNat 10) (IntKind.bits .u32)))))))
def exN:Nat→(Nat→Int)→(Nat→Int)
  | 0,W=>W
  | k+1,W=>exS k (exN k W)
def rdS (R:Nat→Int) (k w:Int):Nat→Int:=fun j=>match j with | 0=>IntKind.u32.wrap ((IntKind.u32.wrap ((IntKind.u32.wrap ((IntKind.u32.wrap ((IntKind.u32.wrap ((IntKind.u32.wrap ((R 7)+(bits .xor .u32 (bits .xor .u32 (rotS (R 4) 6) (rotS (R 4) 11)) (rotS (R 4) 25))))+(bits .xor .u32 (bits .and .u32 (R 4) (R 5)) (bits .and .u32 (flip .u32 (R 4)) (R 6)))))+(k)))+w))+(bits .xor .u32 (bits .xor .u32 (rotS (R 0) 2) (rotS (R 0) 13)) (rotS (R 0) 22))))+(bits .xor .u32 (bits .xor .u32 (bits .and .u32 (R 0) (R 1)) (bits .and .u32 (R 0) (R 2))) (bits .and .u32 (R 1) (R 2)))) | 1=>R 0 | 2=>R 1 | 3=>R 2 | 4=>IntKind.u32.wrap ((R 3)+(IntKind.u32.wrap ((IntKind.u32.wrap ((IntKind.u32.wrap ((IntKind.u32.wrap ((R 7)+(bits .xor .u32 (bits .xor .u32 (rotS (R 4) 6) (rotS (R 4) 11)) (rotS (R 4) 25))))+(bits .xor .u32 (bits .and .u32 (R 4) (R 5)) (bits .and .u32 (flip .u32 (R 4)) (R 6)))))+(k)))+w))) | 5=>R 4 | 6=>R 5 | _=>R 6
def rdN (W:Nat→Int):Nat→(Nat→Int)→(Nat→Int)
  | 0,R=>R
  | i+1,R=>rdS (rdN W i R) (kF i) (W i)
def adS (H2 R:Nat→Int) (i8:Nat):Nat→Int:=upd H2 i8 (IntKind.u32.wrap ((H2 i8)+(R i8)))
def adN (H R:Nat→Int):Nat→(Nat→Int)
  | 0=>H
  | i+1=>adS (adN H R i) R i
def hashN (M:List UInt8):Nat→(Nat→Int)
  | 0=>ivS2
  | q+1=>adN (hashN M q) (rdN (exN 48 (ldN (bf M) (64*q) 16)) 64 (hashN M q)) 8
def outN (H:Nat→Int):Nat→List UInt8
  | 0=> []
  | i9+1=>outN H i9++ [UInt8.ofNat ((IntKind.u8.wrap (Int.fdiv (H i9) (2^(min (Int.toNat 24) (IntKind.bits .u32))))).toNat),UInt8.ofNat ((IntKind.u8.wrap (Int.fdiv (H i9) (2^(min (Int.toNat 16) (IntKind.bits .u32))))).toNat),UInt8.ofNat ((IntKind.u8.wrap (Int.fdiv (H i9) (2^(min (Int.toNat 8) (IntKind.bits .u32))))).toNat),UInt8.ofNat ((IntKind.u8.wrap (H i9)).toNat)]
def sumS0 (l:List UInt8):List UInt8:=outN (hashN (padS l) ((padS l).length / 64)) 8
noncomputable def sumS:List UInt8→List UInt8:=Classical.choose (⟨sumS0,rfl⟩: ∃f:List UInt8→List UInt8,f=sumS0)
theorem sumS_eq:sumS=sumS0:=Classical.choose_spec (⟨sumS0,rfl⟩: ∃f:List UInt8→List UInt8,f=sumS0)
theorem outN_len (H:Nat→Int) (n:Nat):(outN H n).length=4*n:=by
  induction n with
  | zero=>rfl
  | succ n ih=>rw [outN,List.length_append,ih];rfl
theorem sumS_len (l:List UInt8):(sumS l).length=32:=by rw [sumS_eq];exact outN_len _ 8
theorem sum_c (w:World) (Ax:Option Addr) (cx:Nat) (l:List UInt8) (hx:Byt w (.slice Ax l.length cx) l) (hl:l.length<3000000000):Ret Tryz.prog 31 #[.slice Ax l.length cx] w (RMk w.heap.size w (sumS l)):=by
 refine en 300 Tryz.func31 fun T E=>?_;have hx_l:=byt_lt hx;have ho:=Below.refl w.heap.size w;refine go [5,1,4,5] ?_;intro T E;refine cl E Tryz.func60 (begin_c w) ?_;rintro _ w1 ⟨rfl,e1⟩ T E;have zw1:=e1.size;refine sr E (ral (.agg (Array.replicate 8 (Uw 0)))) ?_;rintro _ w2 ⟨g1_,rfl,e2,lg1_,xg1_,b2_⟩ T E;have zw2:=e2.size;have yg1_:=heap_lt b2_;refine sst (dk_storeF E rfl rfl rfl (fun _=>rfl) (by kernel_rfl) b2_ rfl) ?_;intro w3 e3 n3_ b2_;have zw3:=e3.size;refine gn [4,5] ?_;refine cl E Tryz.func61 (rounds_c w3) ?_;rintro _ w4 ⟨rfl,e4⟩ T E;have zw4:=e4.size;refine sr E (ral (.agg (Array.replicate 64 (Uw 0)))) ?_;rintro _ w5 ⟨g4_,rfl,e5,lg4_,xg4_,b5_⟩ T E;have zw5:=e5.size;have yg4_:=heap_lt b5_;refine sst (dk_storeF E rfl rfl rfl (fun _=>rfl) (by kernel_rfl) b5_ rfl) ?_;intro w6 e6 n6_ b5_;have zw6:=e6.size;refine go [4,5,0,6,1,4,5,0] ?_;intro T E;replace hx:=(((((hx.mv e1 rfl).mv e2 rfl).mv e3 rfl).mv e4 rfl).mv e5 rfl).mv e6 rfl;refine sr E (ru_appB (base:=w.heap.size) (xs:=[]) (ys:=l) E rfl rfl rfl rfl (by kernel_rfl) (infoB_of (by kernel_rfl)) (OwnB.nil w.heap.size _) (hx) (by first | omega | (simp only [List.length_append,padA_len,lenB_len,List.length_cons,List.length_nil];omega)) (by omega)) ?_;rintro _ w7 ⟨A7_,c8_,rfl,e7,gr9_,ow10_,nw11_⟩ T E;have zw7:=e7.size;refine sr E (rb1 (e:=5) (k:=1) E) ?_;rintro _ w8 ⟨g12_,rfl,e8,lg12_,xg12_,b13_⟩ T E;have zw8:=e8.size;have yg12_:=heap_lt b13_;replace ow10_:=ow10_.mv e8 rfl;refine sr E (ru_appB (base:=w.heap.size) (xs:=[]++l) (ys:=[UInt8.ofNat 128]) E rfl rfl rfl rfl (by kernel_rfl) (infoB_of (by kernel_rfl)) (ow10_) (byt1 b13_ (by omega)) (by first | omega | (simp only [List.length_append,padA_len,lenB_len,List.length_cons,List.length_nil];omega)) (by omega)) ?_;rintro _ w9 ⟨A14_,c15_,rfl,e9,gr16_,ow17_,nw18_⟩ T E;have zw9:=e9.size;refine go [1,4] ?_;intro T E;refine sk fun K1 hK1=>?_;refine wp_block ?_;replace b2_:=e9.blk (e8.blk (e7.blk (e6.blk (e5.blk (e4.blk b2_ rfl) rfl) rfl) rfl) rfl) rfl;have hh:=b2_;replace b5_:=e9.blk (e8.blk (e7.blk b5_ rfl) rfl) rfl;have kb:=b5_;replace ho:=old1 (old0 (old1 (old1 (old0 (old0 (old1 (old0 (old0 ho e1) e2) e3 (by omega)) e4) e5) e6 (by omega)) e7 (by omega)) e8) e9 (by omega);refine loopM (fun mm_ a_ W=> ∃(T:Array Value) (s:Value) (j:Nat),a_=⟨T,[]⟩∧padZ l.length-j=mm_∧Env T 300 [(3,Pt g1_),(4,Pt g4_),(5,Iw ((l.length:Int))),(6,s)]∧OwnB w.heap.size W (s) (padA l j)∧Below w.heap.size w W∧w.heap.size≤W.heap.size∧W.heap[g1_]? =some (.cells (fcells 8 (hcf ivS2)) 146 (0,0))∧W.heap[g4_]? =some (.cells (fcells 64 (wcf kF)) 148 (0,0))∧j≤padZ l.length) (padZ l.length) ?_ ?_
 ·exact ⟨_,.slice A14_ (([]++l).length+([UInt8.ofNat 128]).length) c15_,0,rfl,rfl,E.sb,by have h:=ow17_;rw [padA,List.replicate,List.append_nil];exact h,ho,by omega,hh,kb,Nat.zero_le _⟩
 ·rintro mm_ _ w10 ⟨T,s,j,rfl,rfl,E,hp,ho,hz,hh,kb,hj⟩
  as_aux_lemma=>
  refine sk fun K2 hK2=>?_;obtain ⟨A,c_,rfl⟩:=hp.form;have hL:=padA_len l j;have hz9:padZ l.length=(119-l.length % 64) % 64:=rfl;refine go [5,0,6] ?_;intro T E;refine sv E (dv_rem (c:=(((padA l j).length:Int)) % 64) E rfl rfl rfl (by decide) (rem_i64 (by omega) (by omega))) fun T E=>?_;refine sv E (dv_neq E rfl rfl rfl rfl) fun T E=>?_;refine nq ?_;refine c_s E rfl (fun hc1=> ?_) (fun hc1=> ?_)
  ·replace hc1:=of_decide_eq_true hc1;refine wp_skip ?_;refine hK2 _ _ ?_;refine go [18,21,0] ?_;intro T E;refine sr E (rb1 (e:=5) (k:=1) E) ?_;rintro _ w11 ⟨g19_,rfl,e11,lg19_,xg19_,b20_⟩ T E;have zw11:=e11.size;have yg19_:=heap_lt b20_;replace hp:=hp.mv e11 rfl;refine sr E (ru_appB (base:=w.heap.size) (xs:=padA l j) (ys:=[UInt8.ofNat 0]) E rfl rfl rfl rfl (by kernel_rfl) (infoB_of (by kernel_rfl)) (hp) (byt1 b20_ (by omega)) (by first | omega | (simp only [List.length_append,padA_len,lenB_len,List.length_cons,List.length_nil];omega)) (by omega)) ?_;rintro _ w12 ⟨A21_,c22_,rfl,e12,gr23_,ow24_,nw25_⟩ T E;have zw12:=e12.size;refine sv E (da E) fun T E=>?_;refine wpList_nil ?_;replace ho:=old1 (old0 ho e11) e12 (by omega);replace hh:=e12.blk (e11.blk hh rfl) rfl;replace kb:=e12.blk (e11.blk kb rfl) rfl;exact ⟨_,by omega,_,.slice A21_ ((padA l j).length+([UInt8.ofNat 0]).length) c22_,j+1,rfl,rfl,E.sb,by rw [padA_succ];exact ow24_,ho,by omega,hh,kb,by omega⟩
  ·replace hc1:=of_decide_eq_false hc1;refine wp_exit ?_;refine hK1 _ _ ?_;refine sk fun K3 hK3=>?_;refine go [5,0,4,18] ?_;intro T E;have hz9:padZ l.length=(119-l.length % 64) % 64:=rfl;have hj9:j=padZ l.length:=by omega
   subst hj9;refine loopM (fun mm_ a_ W=> ∃(T:Array Value) (s:Value) (i:Nat),a_=⟨T,[]⟩∧8-i=mm_∧Env T 300 [(3,Pt g1_),(4,Pt g4_),(5,Iw ((l.length:Int))),(6,s),(42,Iw ((i:Int)))]∧OwnB w.heap.size W (s) (padA l (padZ l.length)++lenB l.length i)∧Below w.heap.size w W∧w.heap.size≤W.heap.size∧W.heap[g1_]? =some (.cells (fcells 8 (hcf ivS2)) 146 (0,0))∧W.heap[g4_]? =some (.cells (fcells 64 (wcf kF)) 148 (0,0))∧i≤8) (8) ?_ ?_
   ·exact ⟨_,_,0,rfl,rfl,E.sb,by rw [show lenB l.length 0=[] from rfl,List.append_nil];exact hp,ho,by omega,hh,kb,by omega⟩
   ·rintro mm_ _ w13 ⟨T,s,i,rfl,rfl,E,hp,ho,hz,hh,kb,hi⟩
    as_aux_lemma=>
    refine sq ?_;refine sv E (dv_lss E rfl rfl rfl (nc_lt i 8)) fun T E=>?_;refine nq ?_;refine sk fun K4 hK4=>?_;refine c_s E rfl (fun hc2=> ?_) (fun hc2=> ?_)
    ·replace hc2:=of_decide_eq_true hc2;refine wp_skip ?_;refine hK4 _ _ ?_;refine sk fun K5 hK5=>?_;refine go [18,5,0,1,4,21,0,0] ?_;intro T E;refine sv E (dv_mul (c:=((l.length*8:Nat):Int)) E rfl rfl rfl (nk_mul (a:=l.length) (b:=8) (by omega))) fun T E=>?_;refine sv E (dm E) fun T E=>?_;refine sv E (dv_mul (c:=((8*i:Nat):Int)) E rfl rfl rfl (nk_mul (a:=8) (b:=i) (by omega))) fun T E=>?_;refine sv E (dv_sub (c:=((56-(8*i):Nat):Int)) E rfl rfl rfl (nk_sub (a:=56) (b:=8*i) (by omega) (by omega))) fun T E=>?_;refine sv E (dv_shr (c:=((l.length*8 / 2^(56-8*i):Nat):Int)) E rfl rfl rfl (by omega) (shrN _ _ (by omega))) fun T E=>?_;refine sv E (dv_cvt (c:=((l.length*8 / 2^(56-8*i) % 256:Nat):Int)) E rfl rfl (by kernel_rfl) (by kernel_rfl) (to_u8 _)) fun T E=>?_;refine sr E (rb1 (e:=5) (k:=1) E) ?_;rintro _ w14 ⟨g26_,rfl,e14,lg26_,xg26_,b27_⟩ T E;have zw14:=e14.size;have yg26_:=heap_lt b27_;replace hp:=hp.mv e14 rfl;refine sr E (ru_appB (base:=w.heap.size) (xs:=padA l (padZ l.length)++lenB l.length i) (ys:=[UInt8.ofNat (l.length*8 / 2^(56-8*i) % 256)]) E rfl rfl rfl rfl (by kernel_rfl) (infoB_of (by kernel_rfl)) (hp) (byt1 b27_ (by omega)) (by first | omega | (simp only [List.length_append,padA_len,lenB_len,List.length_cons,List.length_nil];omega)) (by omega)) ?_;rintro _ w15 ⟨A28_,c29_,rfl,e15,gr30_,ow31_,nw32_⟩ T E;have zw15:=e15.size;refine sv E (da E) fun T E=>?_;refine hK5 _ _ ?_;refine gn [21] ?_;refine sv E (dq i 1 E) fun T E=>?_;refine sv E (dm E) fun T E=>?_;refine wpList_nil ?_;replace ho:=old1 (old0 ho e14) e15 (by omega);replace hh:=e15.blk (e14.blk hh rfl) rfl;replace kb:=e15.blk (e14.blk kb rfl) rfl;exact ⟨_,by omega,_,.slice A28_ ((padA l (padZ l.length)++lenB l.length i).length+([UInt8.ofNat (l.length*8 / 2^(56-8*i) % 256)]).length) c29_,i+1,rfl,rfl,E.sb,by rw [lenB_succ,← List.append_assoc];exact ow31_,ho,by omega,hh,kb,by omega⟩
    ·replace hc2:=of_decide_eq_false hc2;refine wp_exit ?_;refine hK3 _ _ ?_;refine go [5,1,4] ?_;intro T E;refine sk fun K6 hK6=>?_;obtain rfl:i=8:=by omega
     obtain ⟨M,hM⟩: ∃M,M=padS l:=⟨_,rfl⟩;have hp9:OwnB w.heap.size w13 s M:=by rw [hM];exact hp
     have hM64:M.length % 64=0:=by rw [hM];exact padS_mod l
     have hMl:M.length<3100000000:=by rw [hM,padS_len];omega
     obtain ⟨A,c_,rfl⟩:=hp9.form;have rm:=row_bf hp9.byt;refine go [5,1,4,18] ?_;intro T E;refine loopM (fun mm_ a_ W=> ∃(T:Array Value) (H:Nat→Int) (q:Nat),a_=⟨T,[]⟩∧M.length-64*q=mm_∧Env T 300 [(3,Pt g1_),(4,Pt g4_),(6,.slice A M.length c_),(8,.func (.func 62) #[] #[]),(9,Iw (((64*q:Nat):Int)))]∧Below w.heap.size w W∧W.heap[g4_]? =some (.cells (fcells 64 (wcf kF)) 148 (0,0))∧Row W 5 A M.length ((pcf ((bf M))))∧W.heap[g1_]? =some (.cells (fcells 8 (hcf H)) 146 (0,0))∧H=hashN M q∧64*q≤M.length∧w.heap.size≤W.heap.size) (M.length) ?_ ?_
     ·exact ⟨_,ivS2,0,rfl,rfl,E.sb,ho,kb,rm,hh,rfl,by omega,by omega⟩
     ·rintro mm_ _ w16 ⟨T,H,q,rfl,rfl,E,ho,kb,rm,hh,hH,hq,hz⟩
      as_aux_lemma=>
      refine sk fun K7 hK7=>?_;refine go [5,0,0,6] ?_;intro T E;refine sv E (dv_lss E rfl rfl rfl (nc_lt (64*q) M.length)) fun T E=>?_;refine nq ?_;refine c_s E rfl (fun hc3=> ?_) (fun hc3=> ?_)
      ·replace hc3:=of_decide_eq_true hc3;refine wp_skip ?_;refine hK7 _ _ ?_;refine sk fun K8 hK8=>?_;have ykb:=heap_lt kb;refine gn [18,5] ?_;refine sr E (ral (.agg (Array.replicate 64 (Uw 0)))) ?_;rintro _ w17 ⟨g33_,rfl,e17,lg33_,xg33_,b34_⟩ T E;have zw17:=e17.size;have yg33_:=heap_lt b34_;refine nq ?_;refine sk fun K9 hK9=>?_;refine go [5,0,4,18] ?_;intro T E;have wbk:w17.heap[g33_]? =some (.cells (fcells 64 (wcf (fun _=>0))) 148 (0,0)):=by rw [show (fcells 64 (wcf fun _=>0))=_ from rfl];exact b34_
       have hne4:g4_≠g33_:=by omega
       replace ho:=old0 ho e17;replace kb:=e17.blk kb rfl;replace hh:=e17.blk hh rfl;replace rm:=rm.mv e17 rfl;refine loopM (fun mm_ a_ W=> ∃(T:Array Value) (V0:Nat→Int) (i4:Nat),a_=⟨T,[]⟩∧16-i4=mm_∧Env T 300 [(3,Pt g1_),(4,Pt g4_),(6,.slice A M.length c_),(8,.func (.func 62) #[] #[]),(9,Iw (((64*q:Nat):Int))),(10,Pt g33_),(62,Iw ((i4:Int)))]∧Below w.heap.size w W∧W.heap[g4_]? =some (.cells (fcells 64 (wcf kF)) 148 (0,0))∧W.heap[g1_]? =some (.cells (fcells 8 (hcf H)) 146 (0,0))∧Row W 5 A M.length ((pcf ((bf M))))∧W.heap[g33_]? =some (.cells (fcells 64 (wcf V0)) 148 (0,0))∧V0=ldN (bf M) (64*q) i4∧i4≤16∧w.heap.size≤W.heap.size) (16) ?_ ?_
       ·exact ⟨_,fun _=>0,0,rfl,rfl,E.sb,ho,kb,hh,rm,wbk,rfl,by omega,by omega⟩
       ·rintro mm_ _ w18 ⟨T,V0,i4,rfl,rfl,E,ho,kb,hh,rm,wbk,hW,hi4,hz⟩
        as_aux_lemma=>
        refine sq ?_;refine sv E (dv_lss E rfl rfl rfl (nc_lt i4 16)) fun T E=>?_;refine nq ?_;refine sk fun K10 hK10=>?_;refine c_s E rfl (fun hc4=> ?_) (fun hc4=> ?_)
        ·replace hc4:=of_decide_eq_true hc4;refine wp_skip ?_;refine hK10 _ _ ?_;refine sk fun K11 hK11=>?_;refine go [18,5,0,1,4,5,0,4,18] ?_;intro T E;have hi9:i4<16:=by omega
         have hq9:64*q<M.length:=by omega
         refine loopM (fun mm_ a_ W=> ∃(T:Array Value) (W2:Nat→Int) (c5:Nat),a_=⟨T,[]⟩∧4-c5=mm_∧Env T 300 [(3,Pt g1_),(4,Pt g4_),(6,.slice A M.length c_),(8,.func (.func 62) #[] #[]),(9,Iw (((64*q:Nat):Int))),(10,Pt g33_),(11,Iw ((i4:Int))),(62,Iw ((i4:Int))),(65,Iw ((c5:Int)))]∧Below w.heap.size w W∧W.heap[g4_]? =some (.cells (fcells 64 (wcf kF)) 148 (0,0))∧W.heap[g1_]? =some (.cells (fcells 8 (hcf H)) 146 (0,0))∧Row W 5 A M.length ((pcf ((bf M))))∧W.heap[g33_]? =some (.cells (fcells 64 (wcf W2)) 148 (0,0))∧W2=ldC (bf M) (64*q) i4 c5 V0∧c5≤4∧w.heap.size≤W.heap.size) (4) ?_ ?_
         ·exact ⟨_,V0,0,rfl,rfl,E.sb,ho,kb,hh,rm,wbk,rfl,by omega,by omega⟩
         ·rintro mm_ _ w19 ⟨T,W2,c5,rfl,rfl,E,ho,kb,hh,rm,wbk,hW2,hc5,hz⟩
          as_aux_lemma=>
          refine sq ?_;refine sv E (dv_lss E rfl rfl rfl (nc_lt c5 4)) fun T E=>?_;refine nq ?_;refine sk fun K12 hK12=>?_;refine c_s E rfl (fun hc5=> ?_) (fun hc5=> ?_)
          ·replace hc5:=of_decide_eq_true hc5;refine wp_skip ?_;refine hK12 _ _ ?_;refine sk fun K13 hK13=>?_;refine go [18,5,0,1,4] ?_;intro T E;refine rgG 17 (Kv (Kv8 (Kv8 []))) [([],[11]),([],[11]),([1],[10]),([2],[]),([3],[]),([],[6]),([],[9]),([],[11]),([7],[]),([6,8],[]),([],[12]),([9,10],[]),([5,11],[]),([12],[]),([13],[]),([4,14],[]),([0],[10])] E (by
            refine dg [0,0] ?_;refine .cons (fun _ _ _ E _=>Ru.d (dv_indexArr (m:=64) (b:=⟨g33_,i4,none⟩) (k:=1) (i:=i4) E rfl rfl rfl (by kernel_rfl) (by omega) (add_at (by omega)))) ?_;refine .cons ?_ ?_
            ·intro T w_ e_ E hN;have z_:=e_.size;replace wbk:=e_.blk wbk rfl;exact Ru.q (dv_load (v:=Uw (W2 i4)) E rfl rfl (by kernel_rfl) (cell_of wbk ((fcells_get (by omega)).trans (congrArg some (rfl))))) rfl
            refine .cons (fun _ _ _ E _=>Ru.d (dv_shl (c:=IntKind.u32.wrap ((W2 i4)*2^(min (Int.toNat 8) (IntKind.bits .u32)))) E rfl rfl rfl (by decide) (rfl))) ?_;refine dg [0,0,0] ?_;refine .cons (fun _ _ _ E _=>Ru.d (dv_mul (c:=((4*i4:Nat):Int)) E rfl rfl rfl (nk_mul (a:=4) (b:=i4) (by omega)))) ?_;refine .cons (fun _ _ _ E _=>Ru.d (dq (64*q) (4*i4) E)) ?_;refine dg [0] ?_;refine .cons (fun _ _ _ E _=>Ru.d (dq (64*q+4*i4) c5 E)) ?_;refine .cons ?_ ?_
            ·intro T w_ e_ E hN;have z_:=e_.size;replace rm:=rm.mv e_ rfl;exact Ru.q (dv_indexA (A:=A) (k:=1) (i:=64*q+4*i4+c5) (j:=64*q+4*i4+c5) E rfl rfl rfl (by kernel_rfl) (by omega) (Row.sure rm (by omega)) (Nat.mul_one _)) rfl
            refine .cons ?_ ?_
            ·intro T w_ e_ E hN;have z_:=e_.size;replace rm:=rm.mv e_ rfl;exact Ru.q (dv_load (v:= .int .u8 (((bf M)) (64*q+4*i4+c5))) E rfl rfl (by kernel_rfl) (Row.cell rm (by omega))) rfl
            refine .cons (fun _ _ _ E _=>Ru.d (dv_cvt (c:=IntKind.u32.wrap (((bf M)) (64*q+4*i4+c5))) E rfl rfl (by kernel_rfl) (by kernel_rfl) rfl)) ?_;refine .cons (fun _ _ _ E _=>Ru.d (dv_bits (c:=bits .or .u32 (IntKind.u32.wrap ((W2 i4)*2^(min (Int.toNat 8) (IntKind.bits .u32)))) (IntKind.u32.wrap (((bf M)) (64*q+4*i4+c5)))) E rfl rfl rfl rfl (rfl))) ?_;refine .cons (fun _ _ _ E _=>Ru.d (dv_indexArr (m:=64) (b:=⟨g33_,i4,none⟩) (k:=1) (i:=i4) E rfl rfl rfl (by kernel_rfl) (by omega) (add_at (by omega)))) ?_;exact .nil
            ) fun T w20 e20 hE hN=>?_
           have zw20:=e20.size;have E:=hE [15,16] [] trivial (by kernel_rfl);show wpList _ _ _ (_::_) _ _;replace wbk:=e20.blk wbk rfl;refine sst (dk_store E rfl rfl rfl rfl (by kernel_rfl) wbk (fcells_blt (by omega))) ?_;intro w21 e21 n35_ wbk;have zw21:=e21.size;rw [fcells_set (f:=wcf W2) (f2:=wcf (upd W2 i4 (bits .or .u32 (IntKind.u32.wrap ((W2 i4)*2^(min (Int.toNat 8) (IntKind.bits .u32)))) (IntKind.u32.wrap (((bf M)) (64*q+4*i4+c5)))))) (v:=Uw (bits .or .u32 (IntKind.u32.wrap ((W2 i4)*2^(min (Int.toNat 8) (IntKind.bits .u32)))) (IntKind.u32.wrap (((bf M)) (64*q+4*i4+c5))))) (by omega) (wcf_at) (wcf_ne)] at wbk;refine hK13 _ _ ?_;refine gn [21] ?_;refine sv E (dq c5 1 E) fun T E=>?_;refine sv E (dm E) fun T E=>?_;refine wpList_nil ?_;replace ho:=old1 (old0 ho e20) e21 (by omega);replace kb:=n35_ _ _ (e20.blk kb rfl) (by omega);replace hh:=e21.blk (e20.blk hh rfl) rfl;replace rm:=(rm.mv e20 rfl).mv e21 rfl;exact ⟨_,by omega,_,upd W2 i4 (bits .or .u32 (IntKind.u32.wrap ((W2 i4)*2^(min (Int.toNat 8) (IntKind.bits .u32)))) (IntKind.u32.wrap (((bf M)) (64*q+4*i4+c5)))),c5+1,rfl,rfl,E.sb,ho,kb,hh,rm,wbk,by rw [ldC,← hW2];rfl,by omega,by omega⟩
          ·replace hc5:=of_decide_eq_false hc5;refine wp_exit ?_;refine hK11 _ _ ?_;refine gn [21] ?_;refine sv E (dq i4 1 E) fun T E=>?_;refine sv E (dm E) fun T E=>?_;refine wpList_nil ?_;obtain rfl:c5=4:=by omega
           exact ⟨_,by omega,_,W2,i4+1,rfl,rfl,E.sb,ho,kb,hh,rm,wbk,by rw [ldN,← hW];exact hW2,by omega,by omega⟩
        ·replace hc4:=of_decide_eq_false hc4;refine wp_exit ?_;refine hK9 _ _ ?_;refine sk fun K14 hK14=>?_;refine go [5,1,4,18] ?_;intro T E;obtain rfl:i4=16:=by omega
         refine loopM (fun mm_ a_ W=> ∃(T:Array Value) (W3:Nat→Int) (k6:Nat),a_=⟨T,[]⟩∧48-k6=mm_∧Env T 300 [(3,Pt g1_),(4,Pt g4_),(6,.slice A M.length c_),(8,.func (.func 62) #[] #[]),(9,Iw (((64*q:Nat):Int))),(10,Pt g33_),(13,Iw (((16+k6:Nat):Int)))]∧Below w.heap.size w W∧W.heap[g4_]? =some (.cells (fcells 64 (wcf kF)) 148 (0,0))∧W.heap[g1_]? =some (.cells (fcells 8 (hcf H)) 146 (0,0))∧Row W 5 A M.length ((pcf ((bf M))))∧W.heap[g33_]? =some (.cells (fcells 64 (wcf W3)) 148 (0,0))∧W3=exN k6 (ldN (bf M) (64*q) 16)∧k6≤48∧w.heap.size≤W.heap.size) (48) ?_ ?_
         ·exact ⟨_,V0,0,rfl,rfl,E.sb,ho,kb,hh,rm,wbk,hW,by omega,by omega⟩
         ·rintro mm_ _ w22 ⟨T,W3,k6,rfl,rfl,E,ho,kb,hh,rm,wbk,hW3,hk6,hz⟩
          as_aux_lemma=>
          refine sk fun K15 hK15=>?_;refine go [5,0] ?_;intro T E;refine sv E (dv_lss E rfl rfl rfl (nc_lt (16+k6) 64)) fun T E=>?_;refine nq ?_;refine c_s E rfl (fun hc6=> ?_) (fun hc6=> ?_)
          ·replace hc6:=of_decide_eq_true hc6;refine wp_skip ?_;refine hK15 _ _ ?_;refine sk fun K16 hK16=>?_;refine wp_block ?_;refine wp_seq ?_;refine rgG 20 (Kv4 (Kv8 (Kv8 []))) [([],[8]),([],[13]),([1],[]),([2],[10]),([3],[]),([0,4],[]),([],[8]),([],[13]),([7],[]),([8],[10]),([9],[]),([6,10],[]),([5,11],[]),([],[13]),([13],[]),([14],[10]),([15],[]),([16],[]),([12,17],[]),([18],[])] E (by
            refine dg [0,0] ?_;refine .cons (fun _ _ _ E _=>Ru.d (dv_sub (c:=(((16+k6)-15:Nat):Int)) E rfl rfl rfl (nk_sub (a:=16+k6) (b:=15) (by omega) (by omega)))) ?_;refine .cons (fun _ _ _ E _=>Ru.d (dv_indexArr (m:=64) (b:=⟨g33_,(16+k6)-15,none⟩) (k:=1) (i:=(16+k6)-15) E rfl rfl rfl (by kernel_rfl) (by omega) (add_at (by omega)))) ?_;refine .cons ?_ ?_
            ·intro T w_ e_ E hN;have z_:=e_.size;replace wbk:=e_.blk wbk rfl;exact Ru.q (dv_load (v:=Uw (W3 ((16+k6)-15))) E rfl rfl (by kernel_rfl) (cell_of wbk ((fcells_get (by omega)).trans (congrArg some (rfl))))) rfl
            refine .cons ?_ ?_
            ·intro T w_ e_ E hN;refine (ru_callFn (f:=62) (args:=[Uw (W3 ((16+k6)-15)),Iw 7]) (caps:=[]) E rfl rfl rfl rfl Tryz.func62 (by kernel_rfl) rfl (rotS_c w_ (W3 ((16+k6)-15)) 7 (by decide))).mono ?_;rintro _ w23 ⟨rfl,e23⟩;have zw23:=e23.size;exact ⟨e23.up rfl (Nat.zero_le _),rfl⟩
            refine dg [0,0] ?_;refine .cons (fun _ _ _ E _=>Ru.d (dv_sub (c:=(((16+k6)-15:Nat):Int)) E rfl rfl rfl (nk_sub (a:=16+k6) (b:=15) (by omega) (by omega)))) ?_;refine .cons (fun _ _ _ E _=>Ru.d (dv_indexArr (m:=64) (b:=⟨g33_,(16+k6)-15,none⟩) (k:=1) (i:=(16+k6)-15) E rfl rfl rfl (by kernel_rfl) (by omega) (add_at (by omega)))) ?_;refine .cons ?_ ?_
            ·intro T w_ e_ E hN;have z_:=e_.size;replace wbk:=e_.blk wbk rfl;exact Ru.q (dv_load (v:=Uw (W3 ((16+k6)-15))) E rfl rfl (by kernel_rfl) (cell_of wbk ((fcells_get (by omega)).trans (congrArg some (rfl))))) rfl
            refine .cons ?_ ?_
            ·intro T w_ e_ E hN;refine (ru_callFn (f:=62) (args:=[Uw (W3 ((16+k6)-15)),Iw 18]) (caps:=[]) E rfl rfl rfl rfl Tryz.func62 (by kernel_rfl) rfl (rotS_c w_ (W3 ((16+k6)-15)) 18 (by decide))).mono ?_;rintro _ w24 ⟨rfl,e24⟩;have zw24:=e24.size;exact ⟨e24.up rfl (Nat.zero_le _),rfl⟩
            refine .cons (fun _ _ _ E _=>Ru.d (dv_bits (c:=bits .xor .u32 (rotS (W3 ((16+k6)-15)) 7) (rotS (W3 ((16+k6)-15)) 18)) E rfl rfl rfl rfl (rfl))) ?_;refine dg [0] ?_;refine .cons (fun _ _ _ E _=>Ru.d (dv_sub (c:=(((16+k6)-15:Nat):Int)) E rfl rfl rfl (nk_sub (a:=16+k6) (b:=15) (by omega) (by omega)))) ?_;refine .cons (fun _ _ _ E _=>Ru.d (dv_indexArr (m:=64) (b:=⟨g33_,(16+k6)-15,none⟩) (k:=1) (i:=(16+k6)-15) E rfl rfl rfl (by kernel_rfl) (by omega) (add_at (by omega)))) ?_;refine .cons ?_ ?_
            ·intro T w_ e_ E hN;have z_:=e_.size;replace wbk:=e_.blk wbk rfl;exact Ru.q (dv_load (v:=Uw (W3 ((16+k6)-15))) E rfl rfl (by kernel_rfl) (cell_of wbk ((fcells_get (by omega)).trans (congrArg some (rfl))))) rfl
            refine .cons (fun _ _ _ E _=>Ru.d (dv_shr (c:=Int.fdiv (W3 ((16+k6)-15)) (2^(min (Int.toNat 3) (IntKind.bits .u32)))) E rfl rfl rfl (by decide) (rfl))) ?_;refine .cons (fun _ _ _ E _=>Ru.d (dv_bits (c:=bits .xor .u32 (bits .xor .u32 (rotS (W3 ((16+k6)-15)) 7) (rotS (W3 ((16+k6)-15)) 18)) (Int.fdiv (W3 ((16+k6)-15)) (2^(min (Int.toNat 3) (IntKind.bits .u32))))) E rfl rfl rfl rfl (rfl))) ?_;exact dz [1]
            ) fun T w25 e25 hE hN=>?_
           have zw25:=e25.size;have E:=hE [19] [] trivial (by kernel_rfl);refine nq ?_;refine wp_seq ?_;refine rgG 20 (Kv4 (Kv8 (Kv8 []))) [([],[8]),([],[13]),([1],[]),([2],[10]),([3],[]),([0,4],[]),([],[8]),([],[13]),([7],[]),([8],[10]),([9],[]),([6,10],[]),([5,11],[]),([],[13]),([13],[]),([14],[10]),([15],[]),([16],[]),([12,17],[]),([18],[])] E (by
            refine dg [0,0] ?_;refine .cons (fun _ _ _ E _=>Ru.d (dv_sub (c:=(((16+k6)-2:Nat):Int)) E rfl rfl rfl (nk_sub (a:=16+k6) (b:=2) (by omega) (by omega)))) ?_;refine .cons (fun _ _ _ E _=>Ru.d (dv_indexArr (m:=64) (b:=⟨g33_,(16+k6)-2,none⟩) (k:=1) (i:=(16+k6)-2) E rfl rfl rfl (by kernel_rfl) (by omega) (add_at (by omega)))) ?_;refine .cons ?_ ?_
            ·intro T w_ e_ E hN;have z_:=e_.size;replace wbk:=e_.blk (e25.blk wbk rfl) rfl;exact Ru.q (dv_load (v:=Uw (W3 ((16+k6)-2))) E rfl rfl (by kernel_rfl) (cell_of wbk ((fcells_get (by omega)).trans (congrArg some (rfl))))) rfl
            refine .cons ?_ ?_
            ·intro T w_ e_ E hN;refine (ru_callFn (f:=62) (args:=[Uw (W3 ((16+k6)-2)),Iw 17]) (caps:=[]) E rfl rfl rfl rfl Tryz.func62 (by kernel_rfl) rfl (rotS_c w_ (W3 ((16+k6)-2)) 17 (by decide))).mono ?_;rintro _ w26 ⟨rfl,e26⟩;have zw26:=e26.size;exact ⟨e26.up rfl (Nat.zero_le _),rfl⟩
            refine dg [0,0] ?_;refine .cons (fun _ _ _ E _=>Ru.d (dv_sub (c:=(((16+k6)-2:Nat):Int)) E rfl rfl rfl (nk_sub (a:=16+k6) (b:=2) (by omega) (by omega)))) ?_;refine .cons (fun _ _ _ E _=>Ru.d (dv_indexArr (m:=64) (b:=⟨g33_,(16+k6)-2,none⟩) (k:=1) (i:=(16+k6)-2) E rfl rfl rfl (by kernel_rfl) (by omega) (add_at (by omega)))) ?_;refine .cons ?_ ?_
            ·intro T w_ e_ E hN;have z_:=e_.size;replace wbk:=e_.blk (e25.blk wbk rfl) rfl;exact Ru.q (dv_load (v:=Uw (W3 ((16+k6)-2))) E rfl rfl (by kernel_rfl) (cell_of wbk ((fcells_get (by omega)).trans (congrArg some (rfl))))) rfl
            refine .cons ?_ ?_
            ·intro T w_ e_ E hN;refine (ru_callFn (f:=62) (args:=[Uw (W3 ((16+k6)-2)),Iw 19]) (caps:=[]) E rfl rfl rfl rfl Tryz.func62 (by kernel_rfl) rfl (rotS_c w_ (W3 ((16+k6)-2)) 19 (by decide))).mono ?_;rintro _ w27 ⟨rfl,e27⟩;have zw27:=e27.size;exact ⟨e27.up rfl (Nat.zero_le _),rfl⟩
            refine .cons (fun _ _ _ E _=>Ru.d (dv_bits (c:=bits .xor .u32 (rotS (W3 ((16+k6)-2)) 17) (rotS (W3 ((16+k6)-2)) 19)) E rfl rfl rfl rfl (rfl))) ?_;refine dg [0] ?_;refine .cons (fun _ _ _ E _=>Ru.d (dv_sub (c:=(((16+k6)-2:Nat):Int)) E rfl rfl rfl (nk_sub (a:=16+k6) (b:=2) (by omega) (by omega)))) ?_;refine .cons (fun _ _ _ E _=>Ru.d (dv_indexArr (m:=64) (b:=⟨g33_,(16+k6)-2,none⟩) (k:=1) (i:=(16+k6)-2) E rfl rfl rfl (by kernel_rfl) (by omega) (add_at (by omega)))) ?_;refine .cons ?_ ?_
            ·intro T w_ e_ E hN;have z_:=e_.size;replace wbk:=e_.blk (e25.blk wbk rfl) rfl;exact Ru.q (dv_load (v:=Uw (W3 ((16+k6)-2))) E rfl rfl (by kernel_rfl) (cell_of wbk ((fcells_get (by omega)).trans (congrArg some (rfl))))) rfl
            refine .cons (fun _ _ _ E _=>Ru.d (dv_shr (c:=Int.fdiv (W3 ((16+k6)-2)) (2^(min (Int.toNat 10) (IntKind.bits .u32)))) E rfl rfl rfl (by decide) (rfl))) ?_;refine .cons (fun _ _ _ E _=>Ru.d (dv_bits (c:=bits .xor .u32 (bits .xor .u32 (rotS (W3 ((16+k6)-2)) 17) (rotS (W3 ((16+k6)-2)) 19)) (Int.fdiv (W3 ((16+k6)-2)) (2^(min (Int.toNat 10) (IntKind.bits .u32))))) E rfl rfl rfl rfl (rfl))) ?_;exact dz [1]
            ) fun T w28 e28 hE hN=>?_
           have zw28:=e28.size;have E:=hE [19] [] trivial (by kernel_rfl);refine nq ?_;refine rgG 15 (Kv (Kv2 (Kv4 (Kv8 [])))) [([],[13]),([],[13]),([1],[]),([2],[10]),([3],[]),([],[14]),([4,5],[]),([],[13]),([7],[]),([8],[10]),([9],[]),([6,10],[]),([],[15]),([11,12],[]),([0],[10])] E (by
            refine dg [0,0] ?_;refine .cons (fun _ _ _ E _=>Ru.d (dv_sub (c:=(((16+k6)-16:Nat):Int)) E rfl rfl rfl (nk_sub (a:=16+k6) (b:=16) (by omega) (by omega)))) ?_;refine .cons (fun _ _ _ E _=>Ru.d (dv_indexArr (m:=64) (b:=⟨g33_,(16+k6)-16,none⟩) (k:=1) (i:=(16+k6)-16) E rfl rfl rfl (by kernel_rfl) (by omega) (add_at (by omega)))) ?_;refine .cons ?_ ?_
            ·intro T w_ e_ E hN;have z_:=e_.size;replace wbk:=e_.blk (e28.blk (e25.blk wbk rfl) rfl) rfl;exact Ru.q (dv_load (v:=Uw (W3 ((16+k6)-16))) E rfl rfl (by kernel_rfl) (cell_of wbk ((fcells_get (by omega)).trans (congrArg some (rfl))))) rfl
            refine dg [0] ?_;refine .cons (fun _ _ _ E _=>Ru.d (dv_add (c:=IntKind.u32.wrap ((W3 ((16+k6)-16))+(bits .xor .u32 (bits .xor .u32 (rotS (W3 ((16+k6)-15)) 7) (rotS (W3 ((16+k6)-15)) 18)) (Int.fdiv (W3 ((16+k6)-15)) (2^(min (Int.toNat 3) (IntKind.bits .u32))))))) E rfl rfl rfl rfl)) ?_;refine dg [0] ?_;refine .cons (fun _ _ _ E _=>Ru.d (dv_sub (c:=(((16+k6)-7:Nat):Int)) E rfl rfl rfl (nk_sub (a:=16+k6) (b:=7) (by omega) (by omega)))) ?_;refine .cons (fun _ _ _ E _=>Ru.d (dv_indexArr (m:=64) (b:=⟨g33_,(16+k6)-7,none⟩) (k:=1) (i:=(16+k6)-7) E rfl rfl rfl (by kernel_rfl) (by omega) (add_at (by omega)))) ?_;refine .cons ?_ ?_
            ·intro T w_ e_ E hN;have z_:=e_.size;replace wbk:=e_.blk (e28.blk (e25.blk wbk rfl) rfl) rfl;exact Ru.q (dv_load (v:=Uw (W3 ((16+k6)-7))) E rfl rfl (by kernel_rfl) (cell_of wbk ((fcells_get (by omega)).trans (congrArg some (rfl))))) rfl
            refine .cons (fun _ _ _ E _=>Ru.d (dv_add (c:=IntKind.u32.wrap ((IntKind.u32.wrap ((W3 ((16+k6)-16))+(bits .xor .u32 (bits .xor .u32 (rotS (W3 ((16+k6)-15)) 7) (rotS (W3 ((16+k6)-15)) 18)) (Int.fdiv (W3 ((16+k6)-15)) (2^(min (Int.toNat 3) (IntKind.bits .u32)))))))+(W3 ((16+k6)-7)))) E rfl rfl rfl rfl)) ?_;refine dg [0] ?_;refine .cons (fun _ _ _ E _=>Ru.d (dv_add (c:=IntKind.u32.wrap ((IntKind.u32.wrap ((IntKind.u32.wrap ((W3 ((16+k6)-16))+(bits .xor .u32 (bits .xor .u32 (rotS (W3 ((16+k6)-15)) 7) (rotS (W3 ((16+k6)-15)) 18)) (Int.fdiv (W3 ((16+k6)-15)) (2^(min (Int.toNat 3) (IntKind.bits .u32)))))))+(W3 ((16+k6)-7))))+(bits .xor .u32 (bits .xor .u32 (rotS (W3 ((16+k6)-2)) 17) (rotS (W3 ((16+k6)-2)) 19)) (Int.fdiv (W3 ((16+k6)-2)) (2^(min (Int.toNat 10) (IntKind.bits .u32))))))) E rfl rfl rfl rfl)) ?_;refine .cons (fun _ _ _ E _=>Ru.d (dv_indexArr (m:=64) (b:=⟨g33_,16+k6,none⟩) (k:=1) (i:=16+k6) E rfl rfl rfl (by kernel_rfl) (by omega) (add_at (by omega)))) ?_;exact .nil
            ) fun T w29 e29 hE hN=>?_
           have zw29:=e29.size;have E:=hE [13,14] [] trivial (by kernel_rfl);show wpList _ _ _ (_::_) _ _;replace wbk:=e29.blk (e28.blk (e25.blk wbk rfl) rfl) rfl;refine sst (dk_store E rfl rfl rfl rfl (by kernel_rfl) wbk (fcells_blt (by omega))) ?_;intro w30 e30 n36_ wbk;have zw30:=e30.size;rw [fcells_set (f:=wcf W3) (f2:=wcf (upd W3 (16+k6) (IntKind.u32.wrap ((IntKind.u32.wrap ((IntKind.u32.wrap ((W3 ((16+k6)-16))+(bits .xor .u32 (bits .xor .u32 (rotS (W3 ((16+k6)-15)) 7) (rotS (W3 ((16+k6)-15)) 18)) (Int.fdiv (W3 ((16+k6)-15)) (2^(min (Int.toNat 3) (IntKind.bits .u32)))))))+(W3 ((16+k6)-7))))+(bits .xor .u32 (bits .xor .u32 (rotS (W3 ((16+k6)-2)) 17) (rotS (W3 ((16+k6)-2)) 19)) (Int.fdiv (W3 ((16+k6)-2)) (2^(min (Int.toNat 10) (IntKind.bits .u32))))))))) (v:=Uw (IntKind.u32.wrap ((IntKind.u32.wrap ((IntKind.u32.wrap ((W3 ((16+k6)-16))+(bits .xor .u32 (bits .xor .u32 (rotS (W3 ((16+k6)-15)) 7) (rotS (W3 ((16+k6)-15)) 18)) (Int.fdiv (W3 ((16+k6)-15)) (2^(min (Int.toNat 3) (IntKind.bits .u32)))))))+(W3 ((16+k6)-7))))+(bits .xor .u32 (bits .xor .u32 (rotS (W3 ((16+k6)-2)) 17) (rotS (W3 ((16+k6)-2)) 19)) (Int.fdiv (W3 ((16+k6)-2)) (2^(min (Int.toNat 10) (IntKind.bits .u32)))))))) (by omega) (wcf_at) (wcf_ne)] at wbk;refine hK16 _ _ ?_;refine go [21,0] ?_;intro T E;refine sv E (dq (16+k6) 1 E) fun T E=>?_;refine sv E (da E) fun T E=>?_;refine wpList_nil ?_;replace ho:=old1 (old0 (old0 (old0 ho e25) e28) e29) e30 (by omega);replace kb:=n36_ _ _ (e29.blk (e28.blk (e25.blk kb rfl) rfl) rfl) (by omega);replace hh:=e30.blk (e29.blk (e28.blk (e25.blk hh rfl) rfl) rfl) rfl;replace rm:=(((rm.mv e25 rfl).mv e28 rfl).mv e29 rfl).mv e30 rfl;exact ⟨_,by omega,_,upd W3 (16+k6) (IntKind.u32.wrap ((IntKind.u32.wrap ((IntKind.u32.wrap ((W3 ((16+k6)-16))+(bits .xor .u32 (bits .xor .u32 (rotS (W3 ((16+k6)-15)) 7) (rotS (W3 ((16+k6)-15)) 18)) (Int.fdiv (W3 ((16+k6)-15)) (2^(min (Int.toNat 3) (IntKind.bits .u32)))))))+(W3 ((16+k6)-7))))+(bits .xor .u32 (bits .xor .u32 (rotS (W3 ((16+k6)-2)) 17) (rotS (W3 ((16+k6)-2)) 19)) (Int.fdiv (W3 ((16+k6)-2)) (2^(min (Int.toNat 10) (IntKind.bits .u32))))))),k6+1,rfl,rfl,E.sb,ho,kb,hh,rm,wbk,by rw [exN,← hW3];rfl,by omega,by omega⟩
          ·replace hc6:=of_decide_eq_false hc6;refine wp_exit ?_;refine hK14 _ _ ?_;refine sq ?_;refine sv E (dv_sliceArr (e:=99) (k:=1) (m:=8) E rfl rfl (by kernel_rfl) (by kernel_rfl)) fun T E=>?_;refine sr E (ru_appTab (e:=99) (k:=1) (by_:=4) (z:=Uw 0) (m:=8) (ad:=⟨g1_,0,none⟩) (vals:=(fun j=> #[hcf H j])) E rfl rfl rfl rfl (by kernel_rfl) (infoB_of (by kernel_rfl)) rfl (by decide) (tab_blk hh) (fun _ _=>⟨rfl,rfl⟩) (by omega) (by decide)) ?_;rintro _ w31 ⟨A37_,c38_,rfl,e31,ot39_⟩ T E;have zw31:=e31.size;refine go [1,4] ?_;intro T E;refine sk fun K17 hK17=>?_;refine go [5,0,4,18] ?_;intro T E;obtain rfl:k6=48:=by omega
           have tv:=OwnT.tab ot39_;replace ho:=old0 ho e31;replace kb:=e31.blk kb rfl;replace hh:=e31.blk hh rfl;replace rm:=rm.mv e31 rfl;replace wbk:=e31.blk wbk rfl;refine loopM (fun mm_ a_ W=> ∃(T:Array Value) (Av:Option Addr) (cv:Nat) (R:Nat→Int) (i7:Nat),a_=⟨T,[]⟩∧64-i7=mm_∧Env T 300 [(3,Pt g1_),(4,Pt g4_),(6,.slice A M.length c_),(8,.func (.func 62) #[] #[]),(9,Iw (((64*q:Nat):Int))),(10,Pt g33_),(16,.slice Av 8 cv),(146,Iw ((i7:Int)))]∧Below w.heap.size w W∧W.heap[g4_]? =some (.cells (fcells 64 (wcf kF)) 148 (0,0))∧W.heap[g1_]? =some (.cells (fcells 8 (hcf H)) 146 (0,0))∧Row W 5 A M.length ((pcf ((bf M))))∧W.heap[g33_]? =some (.cells (fcells 64 (wcf W3)) 148 (0,0))∧Tab W 99 Av 1 8 (fun j=> #[.int .u32 (R j)])∧R=rdN W3 i7 H∧i7≤64∧w.heap.size≤W.heap.size) (64) ?_ ?_
           ·exact ⟨_,A37_,c38_,H,0,rfl,rfl,E.sb,ho,kb,hh,rm,wbk,tv,rfl,by omega,by omega⟩
           ·rintro mm_ _ w32 ⟨T,Av,cv,R,i7,rfl,rfl,E,ho,kb,hh,rm,wbk,tv,hR,hi7,hz⟩
            as_aux_lemma=>
            refine sq ?_;refine sv E (dv_lss E rfl rfl rfl (nc_lt i7 64)) fun T E=>?_;refine nq ?_;refine sk fun K18 hK18=>?_;refine c_s E rfl (fun hc7=> ?_) (fun hc7=> ?_)
            ·replace hc7:=of_decide_eq_true hc7;refine wp_skip ?_;refine hK18 _ _ ?_;refine sk fun K19 hK19=>?_;refine go [18,5,0,1,4] ?_;intro T E;refine wp_seq ?_;refine rgG 18 (Kv2 (Kv8 (Kv8 []))) [([],[8]),([],[16]),([1],[]),([2],[]),([0,3],[]),([],[8]),([],[16]),([6],[]),([7],[]),([5,8],[]),([4,9],[]),([],[8]),([],[16]),([12],[]),([13],[]),([11,14],[]),([10,15],[]),([16],[])] E (by
              refine dg [0,0] ?_;refine .cons ?_ ?_
              ·intro T w_ e_ E hN;have z_:=e_.size;replace tv:=tv.mv e_ rfl;exact Ru.q (dI Av 1 4 (4*1) E tv) rfl
              refine .cons ?_ ?_
              ·intro T w_ e_ E hN;have z_:=e_.size;replace tv:=tv.mv e_ rfl;exact Ru.q (dv_load (v:=Uw (R 4)) E rfl rfl (by kernel_rfl) (Tab.cell (r:=0) tv (by omega) rfl rfl)) rfl
              refine .cons ?_ ?_
              ·intro T w_ e_ E hN;refine (ru_callFn (f:=62) (args:=[Uw (R 4),Iw 6]) (caps:=[]) E rfl rfl rfl rfl Tryz.func62 (by kernel_rfl) rfl (rotS_c w_ (R 4) 6 (by decide))).mono ?_;rintro _ w33 ⟨rfl,e33⟩;have zw33:=e33.size;exact ⟨e33.up rfl (Nat.zero_le _),rfl⟩
              refine dg [0,0] ?_;refine .cons ?_ ?_
              ·intro T w_ e_ E hN;have z_:=e_.size;replace tv:=tv.mv e_ rfl;exact Ru.q (dI Av 1 4 (4*1) E tv) rfl
              refine .cons ?_ ?_
              ·intro T w_ e_ E hN;have z_:=e_.size;replace tv:=tv.mv e_ rfl;exact Ru.q (dv_load (v:=Uw (R 4)) E rfl rfl (by kernel_rfl) (Tab.cell (r:=0) tv (by omega) rfl rfl)) rfl
              refine .cons ?_ ?_
              ·intro T w_ e_ E hN;refine (ru_callFn (f:=62) (args:=[Uw (R 4),Iw 11]) (caps:=[]) E rfl rfl rfl rfl Tryz.func62 (by kernel_rfl) rfl (rotS_c w_ (R 4) 11 (by decide))).mono ?_;rintro _ w34 ⟨rfl,e34⟩;have zw34:=e34.size;exact ⟨e34.up rfl (Nat.zero_le _),rfl⟩
              refine .cons (fun _ _ _ E _=>Ru.d (dv_bits (c:=bits .xor .u32 (rotS (R 4) 6) (rotS (R 4) 11)) E rfl rfl rfl rfl (rfl))) ?_;refine dg [0,0] ?_;refine .cons ?_ ?_
              ·intro T w_ e_ E hN;have z_:=e_.size;replace tv:=tv.mv e_ rfl;exact Ru.q (dI Av 1 4 (4*1) E tv) rfl
              refine .cons ?_ ?_
              ·intro T w_ e_ E hN;have z_:=e_.size;replace tv:=tv.mv e_ rfl;exact Ru.q (dv_load (v:=Uw (R 4)) E rfl rfl (by kernel_rfl) (Tab.cell (r:=0) tv (by omega) rfl rfl)) rfl
              refine .cons ?_ ?_
              ·intro T w_ e_ E hN;refine (ru_callFn (f:=62) (args:=[Uw (R 4),Iw 25]) (caps:=[]) E rfl rfl rfl rfl Tryz.func62 (by kernel_rfl) rfl (rotS_c w_ (R 4) 25 (by decide))).mono ?_;rintro _ w35 ⟨rfl,e35⟩;have zw35:=e35.size;exact ⟨e35.up rfl (Nat.zero_le _),rfl⟩
              refine .cons (fun _ _ _ E _=>Ru.d (dv_bits (c:=bits .xor .u32 (bits .xor .u32 (rotS (R 4) 6) (rotS (R 4) 11)) (rotS (R 4) 25)) E rfl rfl rfl rfl (rfl))) ?_;exact dz [1]
              ) fun T w36 e36 hE hN=>?_
             have zw36:=e36.size;have E:=hE [17] [] trivial (by kernel_rfl);refine nq ?_;refine wp_seq ?_;refine rgG 17 (Kv (Kv8 (Kv8 []))) [([],[16]),([0],[]),([1],[]),([],[16]),([3],[]),([4],[]),([2,5],[]),([],[16]),([7],[]),([8],[]),([9],[]),([],[16]),([11],[]),([12],[]),([10,13],[]),([6,14],[]),([15],[])] E (by
              refine dg [0] ?_;refine .cons ?_ ?_
              ·intro T w_ e_ E hN;have z_:=e_.size;replace tv:=(tv.mv e36 rfl).mv e_ rfl;exact Ru.q (dI Av 1 4 (4*1) E tv) rfl
              refine .cons ?_ ?_
              ·intro T w_ e_ E hN;have z_:=e_.size;replace tv:=(tv.mv e36 rfl).mv e_ rfl;exact Ru.q (dv_load (v:=Uw (R 4)) E rfl rfl (by kernel_rfl) (Tab.cell (r:=0) tv (by omega) rfl rfl)) rfl
              refine dg [0] ?_;refine .cons ?_ ?_
              ·intro T w_ e_ E hN;have z_:=e_.size;replace tv:=(tv.mv e36 rfl).mv e_ rfl;exact Ru.q (dI Av 1 5 (5*1) E tv) rfl
              refine .cons ?_ ?_
              ·intro T w_ e_ E hN;have z_:=e_.size;replace tv:=(tv.mv e36 rfl).mv e_ rfl;exact Ru.q (dv_load (v:=Uw (R 5)) E rfl rfl (by kernel_rfl) (Tab.cell (r:=0) tv (by omega) rfl rfl)) rfl
              refine .cons (fun _ _ _ E _=>Ru.d (dv_bits (c:=bits .and .u32 (R 4) (R 5)) E rfl rfl rfl rfl (rfl))) ?_;refine dg [0] ?_;refine .cons ?_ ?_
              ·intro T w_ e_ E hN;have z_:=e_.size;replace tv:=(tv.mv e36 rfl).mv e_ rfl;exact Ru.q (dI Av 1 4 (4*1) E tv) rfl
              refine .cons ?_ ?_
              ·intro T w_ e_ E hN;have z_:=e_.size;replace tv:=(tv.mv e36 rfl).mv e_ rfl;exact Ru.q (dv_load (v:=Uw (R 4)) E rfl rfl (by kernel_rfl) (Tab.cell (r:=0) tv (by omega) rfl rfl)) rfl
              refine .cons (fun _ _ _ E _=>Ru.d (dv_flip (c:=flip .u32 (R 4)) E rfl rfl rfl)) ?_;refine dg [0] ?_;refine .cons ?_ ?_
              ·intro T w_ e_ E hN;have z_:=e_.size;replace tv:=(tv.mv e36 rfl).mv e_ rfl;exact Ru.q (dI Av 1 6 (6*1) E tv) rfl
              refine .cons ?_ ?_
              ·intro T w_ e_ E hN;have z_:=e_.size;replace tv:=(tv.mv e36 rfl).mv e_ rfl;exact Ru.q (dv_load (v:=Uw (R 6)) E rfl rfl (by kernel_rfl) (Tab.cell (r:=0) tv (by omega) rfl rfl)) rfl
              refine .cons (fun _ _ _ E _=>Ru.d (dv_bits (c:=bits .and .u32 (flip .u32 (R 4)) (R 6)) E rfl rfl rfl rfl (rfl))) ?_;refine .cons (fun _ _ _ E _=>Ru.d (dv_bits (c:=bits .xor .u32 (bits .and .u32 (R 4) (R 5)) (bits .and .u32 (flip .u32 (R 4)) (R 6))) E rfl rfl rfl rfl (rfl))) ?_;exact dz [1]
              ) fun T w37 e37 hE hN=>?_
             have zw37:=e37.size;have E:=hE [16] [] trivial (by kernel_rfl);refine nq ?_;refine wp_seq ?_;refine rgG 16 (Kv8 (Kv8 [])) [([],[16]),([0],[]),([1],[]),([],[18]),([2,3],[]),([],[19]),([4,5],[]),([],[17]),([7],[4]),([8],[]),([6,9],[]),([],[17]),([11],[10]),([12],[]),([10,13],[]),([14],[])] E (by
              refine dg [0] ?_;refine .cons ?_ ?_
              ·intro T w_ e_ E hN;have z_:=e_.size;replace tv:=((tv.mv e36 rfl).mv e37 rfl).mv e_ rfl;exact Ru.q (dI Av 1 7 (7*1) E tv) rfl
              refine .cons ?_ ?_
              ·intro T w_ e_ E hN;have z_:=e_.size;replace tv:=((tv.mv e36 rfl).mv e37 rfl).mv e_ rfl;exact Ru.q (dv_load (v:=Uw (R 7)) E rfl rfl (by kernel_rfl) (Tab.cell (r:=0) tv (by omega) rfl rfl)) rfl
              refine dg [0] ?_;refine .cons (fun _ _ _ E _=>Ru.d (dv_add (c:=IntKind.u32.wrap ((R 7)+(bits .xor .u32 (bits .xor .u32 (rotS (R 4) 6) (rotS (R 4) 11)) (rotS (R 4) 25)))) E rfl rfl rfl rfl)) ?_;refine dg [0] ?_;refine .cons (fun _ _ _ E _=>Ru.d (dv_add (c:=IntKind.u32.wrap ((IntKind.u32.wrap ((R 7)+(bits .xor .u32 (bits .xor .u32 (rotS (R 4) 6) (rotS (R 4) 11)) (rotS (R 4) 25))))+(bits .xor .u32 (bits .and .u32 (R 4) (R 5)) (bits .and .u32 (flip .u32 (R 4)) (R 6))))) E rfl rfl rfl rfl)) ?_;refine dg [0] ?_;refine .cons (fun _ _ _ E _=>Ru.d (dv_indexArr (m:=64) (b:=⟨g4_,i7,none⟩) (k:=1) (i:=i7) E rfl rfl rfl (by kernel_rfl) (by omega) (add_at (by omega)))) ?_;refine .cons ?_ ?_
              ·intro T w_ e_ E hN;have z_:=e_.size;replace kb:=e_.blk (e37.blk (e36.blk kb rfl) rfl) rfl;exact Ru.q (dv_load (v:=Uw (kF i7)) E rfl rfl (by kernel_rfl) (cell_of kb ((fcells_get (by omega)).trans (congrArg some (rfl))))) rfl
              refine .cons (fun _ _ _ E _=>Ru.d (dv_add (c:=IntKind.u32.wrap ((IntKind.u32.wrap ((IntKind.u32.wrap ((R 7)+(bits .xor .u32 (bits .xor .u32 (rotS (R 4) 6) (rotS (R 4) 11)) (rotS (R 4) 25))))+(bits .xor .u32 (bits .and .u32 (R 4) (R 5)) (bits .and .u32 (flip .u32 (R 4)) (R 6)))))+(kF i7))) E rfl rfl rfl rfl)) ?_;refine dg [0] ?_;refine .cons (fun _ _ _ E _=>Ru.d (dv_indexArr (m:=64) (b:=⟨g33_,i7,none⟩) (k:=1) (i:=i7) E rfl rfl rfl (by kernel_rfl) (by omega) (add_at (by omega)))) ?_;refine .cons ?_ ?_
              ·intro T w_ e_ E hN;have z_:=e_.size;replace wbk:=e_.blk (e37.blk (e36.blk wbk rfl) rfl) rfl;exact Ru.q (dv_load (v:=Uw (W3 i7)) E rfl rfl (by kernel_rfl) (cell_of wbk ((fcells_get (by omega)).trans (congrArg some (rfl))))) rfl
              refine .cons (fun _ _ _ E _=>Ru.d (dv_add (c:=IntKind.u32.wrap ((IntKind.u32.wrap ((IntKind.u32.wrap ((IntKind.u32.wrap ((R 7)+(bits .xor .u32 (bits .xor .u32 (rotS (R 4) 6) (rotS (R 4) 11)) (rotS (R 4) 25))))+(bits .xor .u32 (bits .and .u32 (R 4) (R 5)) (bits .and .u32 (flip .u32 (R 4)) (R 6)))))+(kF i7)))+(W3 i7))) E rfl rfl rfl rfl)) ?_;exact dz [1]
              ) fun T w38 e38 hE hN=>?_
             have zw38:=e38.size;have E:=hE [15] [] trivial (by kernel_rfl);refine nq ?_;refine wp_seq ?_;refine rgG 18 (Kv2 (Kv8 (Kv8 []))) [([],[8]),([],[16]),([1],[]),([2],[]),([0,3],[]),([],[8]),([],[16]),([6],[]),([7],[]),([5,8],[]),([4,9],[]),([],[8]),([],[16]),([12],[]),([13],[]),([11,14],[]),([10,15],[]),([16],[])] E (by
              refine dg [0,0] ?_;refine .cons ?_ ?_
              ·intro T w_ e_ E hN;have z_:=e_.size;replace tv:=(((tv.mv e36 rfl).mv e37 rfl).mv e38 rfl).mv e_ rfl;exact Ru.q (dI Av 1 0 (0*1) E tv) rfl
              refine .cons ?_ ?_
              ·intro T w_ e_ E hN;have z_:=e_.size;replace tv:=(((tv.mv e36 rfl).mv e37 rfl).mv e38 rfl).mv e_ rfl;exact Ru.q (dv_load (v:=Uw (R 0)) E rfl rfl (by kernel_rfl) (Tab.cell (r:=0) tv (by omega) rfl rfl)) rfl
              refine .cons ?_ ?_
              ·intro T w_ e_ E hN;refine (ru_callFn (f:=62) (args:=[Uw (R 0),Iw 2]) (caps:=[]) E rfl rfl rfl rfl Tryz.func62 (by kernel_rfl) rfl (rotS_c w_ (R 0) 2 (by decide))).mono ?_;rintro _ w39 ⟨rfl,e39⟩;have zw39:=e39.size;exact ⟨e39.up rfl (Nat.zero_le _),rfl⟩
              refine dg [0,0] ?_;refine .cons ?_ ?_
              ·intro T w_ e_ E hN;have z_:=e_.size;replace tv:=(((tv.mv e36 rfl).mv e37 rfl).mv e38 rfl).mv e_ rfl;exact Ru.q (dI Av 1 0 (0*1) E tv) rfl
              refine .cons ?_ ?_
              ·intro T w_ e_ E hN;have z_:=e_.size;replace tv:=(((tv.mv e36 rfl).mv e37 rfl).mv e38 rfl).mv e_ rfl;exact Ru.q (dv_load (v:=Uw (R 0)) E rfl rfl (by kernel_rfl) (Tab.cell (r:=0) tv (by omega) rfl rfl)) rfl
              refine .cons ?_ ?_
              ·intro T w_ e_ E hN;refine (ru_callFn (f:=62) (args:=[Uw (R 0),Iw 13]) (caps:=[]) E rfl rfl rfl rfl Tryz.func62 (by kernel_rfl) rfl (rotS_c w_ (R 0) 13 (by decide))).mono ?_;rintro _ w40 ⟨rfl,e40⟩;have zw40:=e40.size;exact ⟨e40.up rfl (Nat.zero_le _),rfl⟩
              refine .cons (fun _ _ _ E _=>Ru.d (dv_bits (c:=bits .xor .u32 (rotS (R 0) 2) (rotS (R 0) 13)) E rfl rfl rfl rfl (rfl))) ?_;refine dg [0,0] ?_;refine .cons ?_ ?_
              ·intro T w_ e_ E hN;have z_:=e_.size;replace tv:=(((tv.mv e36 rfl).mv e37 rfl).mv e38 rfl).mv e_ rfl;exact Ru.q (dI Av 1 0 (0*1) E tv) rfl
              refine .cons ?_ ?_
              ·intro T w_ e_ E hN;have z_:=e_.size;replace tv:=(((tv.mv e36 rfl).mv e37 rfl).mv e38 rfl).mv e_ rfl;exact Ru.q (dv_load (v:=Uw (R 0)) E rfl rfl (by kernel_rfl) (Tab.cell (r:=0) tv (by omega) rfl rfl)) rfl
              refine .cons ?_ ?_
              ·intro T w_ e_ E hN;refine (ru_callFn (f:=62) (args:=[Uw (R 0),Iw 22]) (caps:=[]) E rfl rfl rfl rfl Tryz.func62 (by kernel_rfl) rfl (rotS_c w_ (R 0) 22 (by decide))).mono ?_;rintro _ w41 ⟨rfl,e41⟩;have zw41:=e41.size;exact ⟨e41.up rfl (Nat.zero_le _),rfl⟩
              refine .cons (fun _ _ _ E _=>Ru.d (dv_bits (c:=bits .xor .u32 (bits .xor .u32 (rotS (R 0) 2) (rotS (R 0) 13)) (rotS (R 0) 22)) E rfl rfl rfl rfl (rfl))) ?_;exact dz [1]
              ) fun T w42 e42 hE hN=>?_
             have zw42:=e42.size;have E:=hE [17] [] trivial (by kernel_rfl);refine nq ?_;refine wp_seq ?_;refine rgG 24 (Kv8 (Kv8 (Kv8 []))) [([],[16]),([0],[]),([1],[]),([],[16]),([3],[]),([4],[]),([2,5],[]),([],[16]),([7],[]),([8],[]),([],[16]),([10],[]),([11],[]),([9,12],[]),([6,13],[]),([],[16]),([15],[]),([16],[]),([],[16]),([18],[]),([19],[]),([17,20],[]),([14,21],[]),([22],[])] E (by
              refine dg [0] ?_;refine .cons ?_ ?_
              ·intro T w_ e_ E hN;have z_:=e_.size;replace tv:=((((tv.mv e36 rfl).mv e37 rfl).mv e38 rfl).mv e42 rfl).mv e_ rfl;exact Ru.q (dI Av 1 0 (0*1) E tv) rfl
              refine .cons ?_ ?_
              ·intro T w_ e_ E hN;have z_:=e_.size;replace tv:=((((tv.mv e36 rfl).mv e37 rfl).mv e38 rfl).mv e42 rfl).mv e_ rfl;exact Ru.q (dv_load (v:=Uw (R 0)) E rfl rfl (by kernel_rfl) (Tab.cell (r:=0) tv (by omega) rfl rfl)) rfl
              refine dg [0] ?_;refine .cons ?_ ?_
              ·intro T w_ e_ E hN;have z_:=e_.size;replace tv:=((((tv.mv e36 rfl).mv e37 rfl).mv e38 rfl).mv e42 rfl).mv e_ rfl;exact Ru.q (dI Av 1 1 (1*1) E tv) rfl
              refine .cons ?_ ?_
              ·intro T w_ e_ E hN;have z_:=e_.size;replace tv:=((((tv.mv e36 rfl).mv e37 rfl).mv e38 rfl).mv e42 rfl).mv e_ rfl;exact Ru.q (dv_load (v:=Uw (R 1)) E rfl rfl (by kernel_rfl) (Tab.cell (r:=0) tv (by omega) rfl rfl)) rfl
              refine .cons (fun _ _ _ E _=>Ru.d (dv_bits (c:=bits .and .u32 (R 0) (R 1)) E rfl rfl rfl rfl (rfl))) ?_;refine dg [0] ?_;refine .cons ?_ ?_
              ·intro T w_ e_ E hN;have z_:=e_.size;replace tv:=((((tv.mv e36 rfl).mv e37 rfl).mv e38 rfl).mv e42 rfl).mv e_ rfl;exact Ru.q (dI Av 1 0 (0*1) E tv) rfl
              refine .cons ?_ ?_
              ·intro T w_ e_ E hN;have z_:=e_.size;replace tv:=((((tv.mv e36 rfl).mv e37 rfl).mv e38 rfl).mv e42 rfl).mv e_ rfl;exact Ru.q (dv_load (v:=Uw (R 0)) E rfl rfl (by kernel_rfl) (Tab.cell (r:=0) tv (by omega) rfl rfl)) rfl
              refine dg [0] ?_;refine .cons ?_ ?_
              ·intro T w_ e_ E hN;have z_:=e_.size;replace tv:=((((tv.mv e36 rfl).mv e37 rfl).mv e38 rfl).mv e42 rfl).mv e_ rfl;exact Ru.q (dI Av 1 2 (2*1) E tv) rfl
              refine .cons ?_ ?_
              ·intro T w_ e_ E hN;have z_:=e_.size;replace tv:=((((tv.mv e36 rfl).mv e37 rfl).mv e38 rfl).mv e42 rfl).mv e_ rfl;exact Ru.q (dv_load (v:=Uw (R 2)) E rfl rfl (by kernel_rfl) (Tab.cell (r:=0) tv (by omega) rfl rfl)) rfl
              refine .cons (fun _ _ _ E _=>Ru.d (dv_bits (c:=bits .and .u32 (R 0) (R 2)) E rfl rfl rfl rfl (rfl))) ?_;refine .cons (fun _ _ _ E _=>Ru.d (dv_bits (c:=bits .xor .u32 (bits .and .u32 (R 0) (R 1)) (bits .and .u32 (R 0) (R 2))) E rfl rfl rfl rfl (rfl))) ?_;refine dg [0] ?_;refine .cons ?_ ?_
              ·intro T w_ e_ E hN;have z_:=e_.size;replace tv:=((((tv.mv e36 rfl).mv e37 rfl).mv e38 rfl).mv e42 rfl).mv e_ rfl;exact Ru.q (dI Av 1 1 (1*1) E tv) rfl
              refine .cons ?_ ?_
              ·intro T w_ e_ E hN;have z_:=e_.size;replace tv:=((((tv.mv e36 rfl).mv e37 rfl).mv e38 rfl).mv e42 rfl).mv e_ rfl;exact Ru.q (dv_load (v:=Uw (R 1)) E rfl rfl (by kernel_rfl) (Tab.cell (r:=0) tv (by omega) rfl rfl)) rfl
              refine dg [0] ?_;refine .cons ?_ ?_
              ·intro T w_ e_ E hN;have z_:=e_.size;replace tv:=((((tv.mv e36 rfl).mv e37 rfl).mv e38 rfl).mv e42 rfl).mv e_ rfl;exact Ru.q (dI Av 1 2 (2*1) E tv) rfl
              refine .cons ?_ ?_
              ·intro T w_ e_ E hN;have z_:=e_.size;replace tv:=((((tv.mv e36 rfl).mv e37 rfl).mv e38 rfl).mv e42 rfl).mv e_ rfl;exact Ru.q (dv_load (v:=Uw (R 2)) E rfl rfl (by kernel_rfl) (Tab.cell (r:=0) tv (by omega) rfl rfl)) rfl
              refine .cons (fun _ _ _ E _=>Ru.d (dv_bits (c:=bits .and .u32 (R 1) (R 2)) E rfl rfl rfl rfl (rfl))) ?_;refine .cons (fun _ _ _ E _=>Ru.d (dv_bits (c:=bits .xor .u32 (bits .xor .u32 (bits .and .u32 (R 0) (R 1)) (bits .and .u32 (R 0) (R 2))) (bits .and .u32 (R 1) (R 2))) E rfl rfl rfl rfl (rfl))) ?_;exact dz [1]
              ) fun T w43 e43 hE hN=>?_
             have zw43:=e43.size;have E:=hE [23] [] trivial (by kernel_rfl);refine nq ?_;obtain ⟨x20,hx20⟩: ∃x:Int,x=IntKind.u32.wrap ((IntKind.u32.wrap ((IntKind.u32.wrap ((IntKind.u32.wrap ((R 7)+(bits .xor .u32 (bits .xor .u32 (rotS (R 4) 6) (rotS (R 4) 11)) (rotS (R 4) 25))))+(bits .xor .u32 (bits .and .u32 (R 4) (R 5)) (bits .and .u32 (flip .u32 (R 4)) (R 6)))))+(kF i7)))+(W3 i7)):=⟨_,rfl⟩;rw [← hx20] at E;obtain ⟨x21,hx21⟩: ∃x:Int,x=bits .xor .u32 (bits .xor .u32 (rotS (R 0) 2) (rotS (R 0) 13)) (rotS (R 0) 22):=⟨_,rfl⟩;rw [← hx21] at E;obtain ⟨x22,hx22⟩: ∃x:Int,x=bits .xor .u32 (bits .xor .u32 (bits .and .u32 (R 0) (R 1)) (bits .and .u32 (R 0) (R 2))) (bits .and .u32 (R 1) (R 2)):=⟨_,rfl⟩;rw [← hx22] at E;refine rgG 30 (Kv4 (Kv8 (Kv8 (Kv8 (kp (fun v_ W=> ∃g40_,v_= .slice (some ⟨g40_,0,none⟩) 8 8∧w43.heap.size≤g40_∧W.heap[g40_]? =some (.cells #[Uw (IntKind.u32.wrap ((IntKind.u32.wrap (x20+x21))+x22)),Uw (R 0),Uw (R 1),Uw (R 2),Uw (IntKind.u32.wrap ((R 3)+x20)),Uw (R 4),Uw (R 5),Uw (R 6)] 99 (0,0)))::kp (fun v_ W=> ∃g40_,v_= .slice (some ⟨g40_,0,none⟩) 8 8∧w43.heap.size≤g40_∧W.heap[g40_]? =some (.cells #[Uw (IntKind.u32.wrap ((IntKind.u32.wrap (x20+x21))+x22)),Uw (R 0),Uw (R 1),Uw (R 2),Uw (IntKind.u32.wrap ((R 3)+x20)),Uw (R 4),Uw (R 5),Uw (R 6)] 99 (0,0))):: []))))) [([],[20]),([],[21]),([0,1],[]),([],[22]),([2,3],[]),([],[16]),([5],[]),([6],[]),([],[16]),([8],[]),([9],[]),([],[16]),([11],[]),([12],[]),([],[16]),([14],[]),([15],[]),([],[20]),([16,17],[]),([],[16]),([19],[]),([20],[]),([],[16]),([22],[]),([23],[]),([],[16]),([25],[]),([26],[]),([4,7,10,13,18,21,24,27],[]),([],[])] E (by
              refine dg [0,0] ?_;refine .cons (fun _ _ _ E _=>Ru.d (dv_add (c:=IntKind.u32.wrap (x20+x21)) E rfl rfl rfl rfl)) ?_;refine dg [0] ?_;refine .cons (fun _ _ _ E _=>Ru.d (dv_add (c:=IntKind.u32.wrap ((IntKind.u32.wrap (x20+x21))+x22)) E rfl rfl rfl rfl)) ?_;refine dg [0] ?_;refine .cons ?_ ?_
              ·intro T w_ e_ E hN;have z_:=e_.size;replace tv:=(((((tv.mv e36 rfl).mv e37 rfl).mv e38 rfl).mv e42 rfl).mv e43 rfl).mv e_ rfl;exact Ru.q (dI Av 1 0 (0*1) E tv) rfl
              refine .cons ?_ ?_
              ·intro T w_ e_ E hN;have z_:=e_.size;replace tv:=(((((tv.mv e36 rfl).mv e37 rfl).mv e38 rfl).mv e42 rfl).mv e43 rfl).mv e_ rfl;exact Ru.q (dv_load (v:=Uw (R 0)) E rfl rfl (by kernel_rfl) (Tab.cell (r:=0) tv (by omega) rfl rfl)) rfl
              refine dg [0] ?_;refine .cons ?_ ?_
              ·intro T w_ e_ E hN;have z_:=e_.size;replace tv:=(((((tv.mv e36 rfl).mv e37 rfl).mv e38 rfl).mv e42 rfl).mv e43 rfl).mv e_ rfl;exact Ru.q (dI Av 1 1 (1*1) E tv) rfl
              refine .cons ?_ ?_
              ·intro T w_ e_ E hN;have z_:=e_.size;replace tv:=(((((tv.mv e36 rfl).mv e37 rfl).mv e38 rfl).mv e42 rfl).mv e43 rfl).mv e_ rfl;exact Ru.q (dv_load (v:=Uw (R 1)) E rfl rfl (by kernel_rfl) (Tab.cell (r:=0) tv (by omega) rfl rfl)) rfl
              refine dg [0] ?_;refine .cons ?_ ?_
              ·intro T w_ e_ E hN;have z_:=e_.size;replace tv:=(((((tv.mv e36 rfl).mv e37 rfl).mv e38 rfl).mv e42 rfl).mv e43 rfl).mv e_ rfl;exact Ru.q (dI Av 1 2 (2*1) E tv) rfl
              refine .cons ?_ ?_
              ·intro T w_ e_ E hN;have z_:=e_.size;replace tv:=(((((tv.mv e36 rfl).mv e37 rfl).mv e38 rfl).mv e42 rfl).mv e43 rfl).mv e_ rfl;exact Ru.q (dv_load (v:=Uw (R 2)) E rfl rfl (by kernel_rfl) (Tab.cell (r:=0) tv (by omega) rfl rfl)) rfl
              refine dg [0] ?_;refine .cons ?_ ?_
              ·intro T w_ e_ E hN;have z_:=e_.size;replace tv:=(((((tv.mv e36 rfl).mv e37 rfl).mv e38 rfl).mv e42 rfl).mv e43 rfl).mv e_ rfl;exact Ru.q (dI Av 1 3 (3*1) E tv) rfl
              refine .cons ?_ ?_
              ·intro T w_ e_ E hN;have z_:=e_.size;replace tv:=(((((tv.mv e36 rfl).mv e37 rfl).mv e38 rfl).mv e42 rfl).mv e43 rfl).mv e_ rfl;exact Ru.q (dv_load (v:=Uw (R 3)) E rfl rfl (by kernel_rfl) (Tab.cell (r:=0) tv (by omega) rfl rfl)) rfl
              refine dg [0] ?_;refine .cons (fun _ _ _ E _=>Ru.d (dv_add (c:=IntKind.u32.wrap ((R 3)+x20)) E rfl rfl rfl rfl)) ?_;refine dg [0] ?_;refine .cons ?_ ?_
              ·intro T w_ e_ E hN;have z_:=e_.size;replace tv:=(((((tv.mv e36 rfl).mv e37 rfl).mv e38 rfl).mv e42 rfl).mv e43 rfl).mv e_ rfl;exact Ru.q (dI Av 1 4 (4*1) E tv) rfl
              refine .cons ?_ ?_
              ·intro T w_ e_ E hN;have z_:=e_.size;replace tv:=(((((tv.mv e36 rfl).mv e37 rfl).mv e38 rfl).mv e42 rfl).mv e43 rfl).mv e_ rfl;exact Ru.q (dv_load (v:=Uw (R 4)) E rfl rfl (by kernel_rfl) (Tab.cell (r:=0) tv (by omega) rfl rfl)) rfl
              refine dg [0] ?_;refine .cons ?_ ?_
              ·intro T w_ e_ E hN;have z_:=e_.size;replace tv:=(((((tv.mv e36 rfl).mv e37 rfl).mv e38 rfl).mv e42 rfl).mv e43 rfl).mv e_ rfl;exact Ru.q (dI Av 1 5 (5*1) E tv) rfl
              refine .cons ?_ ?_
              ·intro T w_ e_ E hN;have z_:=e_.size;replace tv:=(((((tv.mv e36 rfl).mv e37 rfl).mv e38 rfl).mv e42 rfl).mv e43 rfl).mv e_ rfl;exact Ru.q (dv_load (v:=Uw (R 5)) E rfl rfl (by kernel_rfl) (Tab.cell (r:=0) tv (by omega) rfl rfl)) rfl
              refine dg [0] ?_;refine .cons ?_ ?_
              ·intro T w_ e_ E hN;have z_:=e_.size;replace tv:=(((((tv.mv e36 rfl).mv e37 rfl).mv e38 rfl).mv e42 rfl).mv e43 rfl).mv e_ rfl;exact Ru.q (dI Av 1 6 (6*1) E tv) rfl
              refine .cons ?_ ?_
              ·intro T w_ e_ E hN;have z_:=e_.size;replace tv:=(((((tv.mv e36 rfl).mv e37 rfl).mv e38 rfl).mv e42 rfl).mv e43 rfl).mv e_ rfl;exact Ru.q (dv_load (v:=Uw (R 6)) E rfl rfl (by kernel_rfl) (Tab.cell (r:=0) tv (by omega) rfl rfl)) rfl
              refine .cons ?_ ?_
              ·intro T w_ e_ E hN;have z_:=e_.size;refine (rbN (e:=99) [Uw (IntKind.u32.wrap ((IntKind.u32.wrap (x20+x21))+x22)),Uw (R 0),Uw (R 1),Uw (R 2),Uw (IntKind.u32.wrap ((R 3)+x20)),Uw (R 4),Uw (R 5),Uw (R 6)] E).mono ?_;rintro _ w44 ⟨g40_,rfl,e44,lg40_,xg40_,b41_⟩;have zw44:=e44.size;have yg40_:=heap_lt b41_;replace lg40_:w43.heap.size≤g40_:=by omega
               exact ⟨e44.up rfl (Nat.zero_le _),g40_,rfl,lg40_,b41_⟩
              refine .cons ?_ ?_
              ·intro T w_ e_ E hN;obtain ⟨v_,h_,g40_,rfl,lg40_,b41_⟩:=hN 28 (by kernel_rfl);have E:=E.add h_;exact Ru.v (da E) rfl ⟨Mv.refl _ _ _,g40_,rfl,lg40_,b41_⟩
              exact .nil
              ) (hst:= .qs 28 (.cons (.p (fun _ _ _ ⟨g40_,e,lg40_,b41_⟩ m=>⟨g40_,e,lg40_,m.blk b41_ rfl⟩)) (.cons (.p (fun _ _ _ ⟨g40_,e,lg40_,b41_⟩ m=>⟨g40_,e,lg40_,m.blk b41_ rfl⟩)) .nil))) fun T w45 e45 hE hN=>?_
             have zw45:=e45.size;obtain ⟨v_,h29_,g40__29,rfl,lg40__29,b41__29⟩:=hN 29 (by kernel_rfl);have E:=hE [] [(16,_)] ⟨h29_,trivial⟩ (by kernel_rfl);refine hK19 _ _ ?_;refine gn [21] ?_;refine sv E (dq i7 1 E) fun T E=>?_;refine sv E (dm E) fun T E=>?_;refine wpList_nil ?_;replace ho:=old0 (old0 (old0 (old0 (old0 (old0 ho e36) e37) e38) e42) e43) e45;replace kb:=e45.blk (e43.blk (e42.blk (e38.blk (e37.blk (e36.blk kb rfl) rfl) rfl) rfl) rfl) rfl;replace hh:=e45.blk (e43.blk (e42.blk (e38.blk (e37.blk (e36.blk hh rfl) rfl) rfl) rfl) rfl) rfl;replace rm:=(((((rm.mv e36 rfl).mv e37 rfl).mv e38 rfl).mv e42 rfl).mv e43 rfl).mv e45 rfl;replace wbk:=e45.blk (e43.blk (e42.blk (e38.blk (e37.blk (e36.blk wbk rfl) rfl) rfl) rfl) rfl) rfl;exact ⟨_,by omega,_,(some ⟨g40__29,0,none⟩),8,rdS R (kF i7) (W3 i7),i7+1,rfl,rfl,E.sb,ho,kb,hh,rm,wbk,by subst hx20 hx21 hx22;exact tab8 (f:=rdS R (kF i7) (W3 i7)) b41__29,by rw [rdN,← hR],by omega,by omega⟩
            ·replace hc7:=of_decide_eq_false hc7;refine wp_exit ?_;refine hK17 _ _ ?_;refine go [5,0,4,18] ?_;intro T E;obtain rfl:i7=64:=by omega
             refine loopM (fun mm_ a_ W=> ∃(T:Array Value) (H2:Nat→Int) (i8:Nat),a_=⟨T,[]⟩∧8-i8=mm_∧Env T 300 [(3,Pt g1_),(4,Pt g4_),(6,.slice A M.length c_),(8,.func (.func 62) #[] #[]),(9,Iw (((64*q:Nat):Int))),(16,.slice Av 8 cv),(267,Iw ((i8:Int)))]∧Below w.heap.size w W∧W.heap[g4_]? =some (.cells (fcells 64 (wcf kF)) 148 (0,0))∧Row W 5 A M.length ((pcf ((bf M))))∧W.heap[g1_]? =some (.cells (fcells 8 (hcf H2)) 146 (0,0))∧Tab W 99 Av 1 8 (fun j=> #[.int .u32 (R j)])∧H2=adN H R i8∧i8≤8∧w.heap.size≤W.heap.size) (8) ?_ ?_
             ·exact ⟨_,H,0,rfl,rfl,E.sb,ho,kb,rm,hh,tv,rfl,by omega,by omega⟩
             ·rintro mm_ _ w46 ⟨T,H2,i8,rfl,rfl,E,ho,kb,rm,hh,tv,hH2,hi8,hz⟩
              as_aux_lemma=>
              refine sq ?_;refine sv E (dv_lss E rfl rfl rfl (nc_lt i8 8)) fun T E=>?_;refine nq ?_;refine sk fun K20 hK20=>?_;refine c_s E rfl (fun hc8=> ?_) (fun hc8=> ?_)
              ·replace hc8:=of_decide_eq_true hc8;refine wp_skip ?_;refine hK20 _ _ ?_;refine sk fun K21 hK21=>?_;refine go [18,5,0,1,4] ?_;intro T E;refine rgG 9 (Kv (Kv8 [])) [([],[23]),([0],[3]),([1],[]),([],[16]),([],[23]),([3,4],[]),([5],[]),([2,6],[]),([0],[3])] E (by
                refine dg [0] ?_;refine .cons (fun _ _ _ E _=>Ru.d (dv_indexArr (m:=8) (b:=⟨g1_,i8,none⟩) (k:=1) (i:=i8) E rfl rfl rfl (by kernel_rfl) (by omega) (add_at (by omega)))) ?_;refine .cons ?_ ?_
                ·intro T w_ e_ E hN;have z_:=e_.size;replace hh:=e_.blk hh rfl;exact Ru.q (dv_load (v:=Uw (H2 i8)) E rfl rfl (by kernel_rfl) (cell_of hh ((fcells_get (by omega)).trans (congrArg some (rfl))))) rfl
                refine dg [0,0] ?_;refine .cons ?_ ?_
                ·intro T w_ e_ E hN;have z_:=e_.size;replace tv:=tv.mv e_ rfl;exact Ru.q (dI Av 1 i8 (i8*1) E tv) rfl
                refine .cons ?_ ?_
                ·intro T w_ e_ E hN;have z_:=e_.size;replace tv:=tv.mv e_ rfl;exact Ru.q (dv_load (v:=Uw (R i8)) E rfl rfl (by kernel_rfl) (Tab.cell (r:=0) tv (by omega) rfl rfl)) rfl
                refine .cons (fun _ _ _ E _=>Ru.d (dv_add (c:=IntKind.u32.wrap ((H2 i8)+(R i8))) E rfl rfl rfl rfl)) ?_;refine .cons (fun _ _ _ E _=>Ru.d (dv_indexArr (m:=8) (b:=⟨g1_,i8,none⟩) (k:=1) (i:=i8) E rfl rfl rfl (by kernel_rfl) (by omega) (add_at (by omega)))) ?_;exact .nil
                ) fun T w47 e47 hE hN=>?_
               have zw47:=e47.size;have E:=hE [7,8] [] trivial (by kernel_rfl);show wpList _ _ _ (_::_) _ _;replace hh:=e47.blk hh rfl;refine sst (dk_store E rfl rfl rfl rfl (by kernel_rfl) hh (fcells_blt (by omega))) ?_;intro w48 e48 n42_ hh;have zw48:=e48.size;rw [fcells_set (f:=hcf H2) (f2:=hcf (upd H2 i8 (IntKind.u32.wrap ((H2 i8)+(R i8))))) (v:=Uw (IntKind.u32.wrap ((H2 i8)+(R i8)))) (by omega) (hcf_at) (hcf_ne)] at hh;refine hK21 _ _ ?_;refine gn [21] ?_;refine sv E (dq i8 1 E) fun T E=>?_;refine sv E (dm E) fun T E=>?_;refine wpList_nil ?_;replace ho:=old1 (old0 ho e47) e48 (by omega);replace kb:=e48.blk (e47.blk kb rfl) rfl;replace rm:=(rm.mv e47 rfl).mv e48 rfl;replace tv:=(tv.mv e47 rfl).mv e48 rfl;exact ⟨_,by omega,_,upd H2 i8 (IntKind.u32.wrap ((H2 i8)+(R i8))),i8+1,rfl,rfl,E.sb,ho,kb,rm,hh,tv,by rw [adN,← hH2];rfl,by omega,by omega⟩
              ·replace hc8:=of_decide_eq_false hc8;refine wp_exit ?_;refine hK8 _ _ ?_;refine go [21,0] ?_;intro T E;refine sv E (dv_add (c:=((64*(q+1):Nat):Int)) E rfl rfl rfl ((nk_add (a:=64*q) (b:=64) (by omega)))) fun T E=>?_;refine sv E (da E) fun T E=>?_;refine wpList_nil ?_;obtain rfl:i8=8:=by omega
               exact ⟨_,by omega,_,H2,q+1,rfl,rfl,E.sb,ho,kb,rm,hh,by rw [hashN,← hH,← hW3,← hR];exact hH2,by omega,by omega⟩
      ·replace hc3:=of_decide_eq_false hc3;refine wp_exit ?_;refine hK6 _ _ ?_;refine go [5,1,4] ?_;intro T E;refine sk fun K22 hK22=>?_;refine sq ?_;refine sv E (dv_loadAll (k:=8) E rfl rfl (by kernel_rfl) (by kernel_rfl) (fcells_size _ _) hh) fun T E=>?_;refine go [0,4,18] ?_;intro T E;refine loopM (fun mm_ a_ W=> ∃(T:Array Value) (s:Value) (i9:Nat),a_=⟨T,[]⟩∧8-i9=mm_∧Env T 300 [(24,s),(280,.agg (fcells 8 (hcf H))),(281,Iw ((i9:Int)))]∧Below w.heap.size w W∧OwnB w.heap.size W (s) (outN H i9)∧w.heap.size≤W.heap.size∧i9≤8) (8) ?_ ?_
       ·exact ⟨_,_,0,rfl,rfl,E.sb,ho,OwnB.nil _ _,by omega,by omega⟩
       ·rintro mm_ _ w49 ⟨T,s,i9,rfl,rfl,E,ho,hp,hz,hi9⟩
        as_aux_lemma=>
        refine sq ?_;refine sv E (dv_lss E rfl rfl rfl (nc_lt i9 8)) fun T E=>?_;refine nq ?_;refine sk fun K23 hK23=>?_;refine c_s E rfl (fun hc9=> ?_) (fun hc9=> ?_)
        ·replace hc9:=of_decide_eq_true hc9;refine wp_skip ?_;refine hK23 _ _ ?_;refine sk fun K24 hK24=>?_;refine gn [18,5] ?_;refine sv E (dv_index (e:=99) (m:=8) (i:=i9) (v:=Uw (H i9)) E rfl rfl rfl (by kernel_rfl) (by kernel_rfl) (by kernel_rfl) (by omega) ((fcells_get (by omega)).trans (congrArg some (rfl)))) fun T E=>?_;have hol:=outN_len H i9;refine go [1,4,21,0,0] ?_;intro T E;refine sv E (dv_shr (c:=Int.fdiv (H i9) (2^(min (Int.toNat 24) (IntKind.bits .u32)))) E rfl rfl rfl (by decide) (rfl)) fun T E=>?_;refine sv E (dv_cvt (c:=(((IntKind.u8.wrap (Int.fdiv (H i9) (2^(min (Int.toNat 24) (IntKind.bits .u32))))).toNat:Nat):Int)) E rfl rfl (by kernel_rfl) (by kernel_rfl) (byte_nat _)) fun T E=>?_;refine sv E (dm E) fun T E=>?_;refine sv E (dv_shr (c:=Int.fdiv (H i9) (2^(min (Int.toNat 16) (IntKind.bits .u32)))) E rfl rfl rfl (by decide) (rfl)) fun T E=>?_;refine sv E (dv_cvt (c:=(((IntKind.u8.wrap (Int.fdiv (H i9) (2^(min (Int.toNat 16) (IntKind.bits .u32))))).toNat:Nat):Int)) E rfl rfl (by kernel_rfl) (by kernel_rfl) (byte_nat _)) fun T E=>?_;refine sv E (dm E) fun T E=>?_;refine sv E (dv_shr (c:=Int.fdiv (H i9) (2^(min (Int.toNat 8) (IntKind.bits .u32)))) E rfl rfl rfl (by decide) (rfl)) fun T E=>?_;refine sv E (dv_cvt (c:=(((IntKind.u8.wrap (Int.fdiv (H i9) (2^(min (Int.toNat 8) (IntKind.bits .u32))))).toNat:Nat):Int)) E rfl rfl (by kernel_rfl) (by kernel_rfl) (byte_nat _)) fun T E=>?_;refine sv E (dm E) fun T E=>?_;refine sv E (dv_cvt (c:=(((IntKind.u8.wrap (H i9)).toNat:Nat):Int)) E rfl rfl (by kernel_rfl) (by kernel_rfl) (byte_nat _)) fun T E=>?_;refine sr E (rbN (e:=5) [.int .u8 ((((IntKind.u8.wrap (Int.fdiv (H i9) (2^(min (Int.toNat 24) (IntKind.bits .u32))))).toNat:Nat):Int)),.int .u8 ((((IntKind.u8.wrap (Int.fdiv (H i9) (2^(min (Int.toNat 16) (IntKind.bits .u32))))).toNat:Nat):Int)),.int .u8 ((((IntKind.u8.wrap (Int.fdiv (H i9) (2^(min (Int.toNat 8) (IntKind.bits .u32))))).toNat:Nat):Int)),.int .u8 ((((IntKind.u8.wrap (H i9)).toNat:Nat):Int))] E) ?_;rintro _ w50 ⟨g43_,rfl,e50,lg43_,xg43_,b44_⟩ T E;have zw50:=e50.size;have yg43_:=heap_lt b44_;replace hp:=hp.mv e50 rfl;refine sr E (ru_appB (base:=w.heap.size) (xs:=outN H i9) (ys:=[UInt8.ofNat ((IntKind.u8.wrap (Int.fdiv (H i9) (2^(min (Int.toNat 24) (IntKind.bits .u32))))).toNat),UInt8.ofNat ((IntKind.u8.wrap (Int.fdiv (H i9) (2^(min (Int.toNat 16) (IntKind.bits .u32))))).toNat),UInt8.ofNat ((IntKind.u8.wrap (Int.fdiv (H i9) (2^(min (Int.toNat 8) (IntKind.bits .u32))))).toNat),UInt8.ofNat ((IntKind.u8.wrap (H i9)).toNat)]) E rfl rfl rfl rfl (by kernel_rfl) (infoB_of (by kernel_rfl)) (hp) (byt4 b44_ (byte_lt _) (byte_lt _) (byte_lt _) (byte_lt _)) (by first | omega | (simp only [List.length_append,padA_len,lenB_len,List.length_cons,List.length_nil];omega)) (by omega)) ?_;rintro _ w51 ⟨A45_,c46_,rfl,e51,gr47_,ow48_,nw49_⟩ T E;have zw51:=e51.size;refine sv E (da E) fun T E=>?_;refine hK24 _ _ ?_;refine gn [21] ?_;refine sv E (dq i9 1 E) fun T E=>?_;refine sv E (dm E) fun T E=>?_;refine wpList_nil ?_;replace ho:=old1 (old0 ho e50) e51 (by omega);exact ⟨_,by omega,_,.slice A45_ ((outN H i9).length+([UInt8.ofNat ((IntKind.u8.wrap (Int.fdiv (H i9) (2^(min (Int.toNat 24) (IntKind.bits .u32))))).toNat),UInt8.ofNat ((IntKind.u8.wrap (Int.fdiv (H i9) (2^(min (Int.toNat 16) (IntKind.bits .u32))))).toNat),UInt8.ofNat ((IntKind.u8.wrap (Int.fdiv (H i9) (2^(min (Int.toNat 8) (IntKind.bits .u32))))).toNat),UInt8.ofNat ((IntKind.u8.wrap (H i9)).toNat)]).length) c46_,i9+1,rfl,rfl,E.sb,ho,by rw [outN];exact ow48_,by omega,by omega⟩
        ·replace hc9:=of_decide_eq_false hc9;refine wp_exit ?_;refine hK22 _ _ ?_;refine go [5,0,1,4,17] ?_;intro T E;obtain rfl:i9=8:=by omega
         have hq9:q=M.length / 64:=by omega
         refine post1_ret E rfl rfl ?_;exact RMk.of hp ho (by rw [sumS_eq,hH,hq9,hM];rfl)
def InR (x:Int):Prop:= -9223372036854775808≤x∧x<9223372036854775808
def belowA (x:Int):Int:=if IntKind.i64.wrap (0-IntKind.i64.wrap (x+1)) > x then IntKind.i64.wrap (0-IntKind.i64.wrap (x+1)) else x
def belowF (x:Int) (n:Nat):Nat:=((belowA x).tmod (n:Int)).toNat
theorem belowA_nn {x:Int} (h:InR x):0≤belowA x:=by
  unfold belowA InR at*;by_cases h1:x=9223372036854775807
  · subst h1;decide
  · rw [wrap_i64 (x:=x+1) (by omega) (by omega),wrap_i64 (x:=0-(x+1)) (by omega) (by omega)]
    split <;> omega
theorem belowF_eq {x:Int} (h:InR x) (n:Nat):(belowA x).tmod (n:Int)=((belowF x n:Nat):Int):=(Int.toNat_of_nonneg (Int.tmod_nonneg _ (belowA_nn h))).symm
theorem belowF_lt {x:Int} (h:InR x) {n:Nat} (hn:0<n):belowF x n<n:=by
  have h1:=belowF_eq h n;have h2:(belowA x).tmod (n:Int)<n:=Int.tmod_lt_of_pos _ (by omega);omega
noncomputable def blockK (i:Nat):Bk:=⟨sumS [UInt8.ofNat i],1+i,sumS [UInt8.ofNat i,UInt8.ofNat 1]⟩
noncomputable def blocksL:List Bk:=[Bk.none,blockK 0,blockK 1,blockK 2]
theorem blockK_rd {w:World} {i:Nat} (hi:i<3) {A1 A3:Option Addr} {c1 c3:Nat} (h1:Byt w (.slice A1 (sumS [UInt8.ofNat i]).length c1) (sumS [UInt8.ofNat i])) (h3:Byt w (.slice A3 (sumS [UInt8.ofNat i,UInt8.ofNat 1]).length c3) (sumS [UInt8.ofNat i,UInt8.ofNat 1])):RdBk w (.slice A1 (blockK i).h.length c1) (.int .u32 ((blockK i).t:Int)) (.slice A3 (blockK i).r.length c3) (blockK i):=
  ⟨rfl,.inr ⟨by show 0<1+i;omega,by show 1+i<1000;omega,sumS_len _,sumS_len _,h1,h3⟩⟩
theorem OwnT.one {w:World} {base e k g:Nat} {cs:Array Value} (hb:w.heap[g]? =some (.cells cs e (0,0))) (hg:base≤g) (hk:cs.size=k):OwnT base w e k (.slice (some ⟨g,0,none⟩) 1 1) 1 (fun _=>cs):=by
  subst hk;exact ⟨fun _ _=>rfl,by simp [flat],.inr ⟨g,1,cs,rfl,hg,hb,Nat.le_refl _,by simp [maxLen],by simp,by simp only [flat,List.range_one,List.flatMap_cons,List.flatMap_nil,List.append_nil,Nat.one_mul];exact List.take_of_length_le (by simp)⟩⟩
theorem byt2 {w:World} {g a b:Nat} {fr:Nat×Nat} (hg:w.heap[g]? =some (.cells #[.int .u8 (a:Int),.int .u8 (b:Int)] 5 fr)) (ha:a<256) (hb:b<256):Byt w (.slice (some ⟨g,0,none⟩) 2 2) [UInt8.ofNat a,UInt8.ofNat b]:=
  Byt.lit hg (by simp only [bcells,List.map_cons,List.map_nil];rw [bcell_of ha,bcell_of hb]) rfl (by decide)
theorem rdib_next {w:World} {n:Nat} {l:List Bk} {vals:Nat→Array Value} {b:Bk} {cs:Array Value} (hn:n<l.length) (hb:l.getD n Bk.none=b) (h: ∀i,i<n→RdIB w (vals i) (l.getD i Bk.none)) (hc:RdIB w cs b): ∀i,i<n+1→RdIB w (updT vals n cs i) (l.getD i Bk.none):=fun i hi=>by
  by_cases e:i=n
  · subst e;rw [updT_at,hb];exact hc
  · rw [updT_lt _ _ (show i<n by omega)];exact h i (by omega)
theorem blocks_at {i:Nat} (hi:i<3):blocksL.getD (i+1) Bk.none=blockK i:=by
  match i,hi with
  | 0,_=>rfl
  | 1,_=>rfl
  | 2,_=>rfl
theorem below_s (w:World) (x:Int) (n:Nat) (hx:InR x) (hn:0<n) (hn2:n<1000000000):Ret Tryz.prog 8 #[Iw x,Iw ((n:Int))] w (fun v w1=>v= .int .i64 (belowF x n:Int)∧w=w1):=by
 refine en 12 Tryz.func8 fun T E=>?_;refine go [5,1,4,5,0,0] ?_;intro T E;refine sv E (dv_add (c:=IntKind.i64.wrap (x+1)) E rfl rfl rfl rfl) fun T E=>?_;refine sv E (dv_neg (c:=IntKind.i64.wrap (0-IntKind.i64.wrap (x+1))) E rfl rfl rfl) fun T E=>?_;refine sv E (dv_max (c:=belowA x) E rfl rfl rfl (rfl)) fun T E=>?_;refine sv E (dm E) fun T E=>?_;refine sv E (dv_rem (c:=((belowF x n:Nat):Int)) E rfl rfl rfl (by omega) (belowF_eq hx n)) fun T E=>?_;refine go [1,4,17] ?_;intro T E;refine post1_ret E rfl rfl ?_;exact ⟨rfl,rfl⟩
theorem blocks_c (w:World):Ret Tryz.prog 10 #[] w (fun v w1=> ∃A cp vals,v= .slice A 4 cp∧Mv [] 0 w w1∧Tab w1 39 A 3 4 vals∧TLt w1.heap.size A∧∀i,i<4→RdIB w1 (vals i) (blocksL.getD i Bk.none)):=by
 refine en 24 Tryz.func10 fun T E=>?_;have ho:=Below.refl w.heap.size w;refine go [5,1,4,5] ?_;intro T E;refine sv E (dv_build (vs:=[]) (C:=#[.slice none 0 0,Iw 0,.slice none 0 0]) E rfl rfl (by kernel_rfl)) fun T E=>?_;refine sr E (rb1 (e:=39) (k:=3) E) ?_;rintro _ w1 ⟨g1_,rfl,e1,lg1_,xg1_,b2_⟩ T E;have zw1:=e1.size;have yg1_:=heap_lt b2_;refine go [1,4] ?_;intro T E;refine sk fun K1 hK1=>?_;refine go [5,0,4,18] ?_;intro T E;replace ho:=old0 ho e1;refine loopM (fun mm_ a_ W=> ∃(T:Array Value) (Ab:Option Addr) (cb:Nat) (vals:Nat→Array Value) (i:Nat),a_=⟨T,[]⟩∧3-i=mm_∧Env T 24 [(1,.slice Ab (i+1) cb),(5,Iw ((i:Int)))]∧OwnT w.heap.size W 39 3 (.slice Ab (i+1) cb) (i+1) (vals)∧(∀j,j<i+1→RdIB W (vals j) (blocksL.getD j Bk.none))∧Below w.heap.size w W∧w.heap.size≤W.heap.size∧i≤3) (3) ?_ ?_
 ·exact ⟨_,(some ⟨g1_,0,none⟩),1,(fun _=> #[.slice none 0 0,.int .i64 0,.slice none 0 0]),0,rfl,rfl,E.sb,OwnT.one b2_ (by omega) rfl,(fun j hj=>by rw [show j=0 by omega];exact ⟨none,0,none,0,rfl,rfl,.inl ⟨rfl,rfl,rfl⟩⟩),ho,by omega,by omega⟩
 ·rintro mm_ _ w2 ⟨T,Ab,cb,vals,i,rfl,rfl,E,ot,hv,ho,hz,hi⟩;refine sq ?_;refine sv E (dv_lss E rfl rfl rfl (nc_lt i 3)) fun T E=>?_;refine nq ?_;refine sk fun K2 hK2=>?_;refine c_s E rfl (fun hc1=> ?_) (fun hc1=> ?_)
  ·replace hc1:=of_decide_eq_true hc1;refine wp_skip ?_;refine hK2 _ _ ?_;refine sk fun K3 hK3=>?_;have hi3:i<3:=by omega
   refine go [18,5,0,1,4,21,0,0] ?_;intro T E;refine sv E (dv_cvt (c:=(i:Int)) E rfl rfl (by kernel_rfl) (by kernel_rfl) ((to_u8 i).trans (by omega))) fun T E=>?_;refine sr E (rb1 (e:=5) (k:=1) E) ?_;rintro _ w3 ⟨g3_,rfl,e3,lg3_,xg3_,b4_⟩ T E;have zw3:=e3.size;have yg3_:=heap_lt b4_;refine cl E Tryz.func31 (rmk_low (b2:=w.heap.size) (sum_c w3 (some ⟨g3_,0,none⟩) 1 ([UInt8.ofNat i]) (byt1 b4_ (by omega)) (by simp)) (by omega)) ?_;rintro _ w4 ⟨A5_,c6_,rfl,e4,hp7_,fr8_⟩ T E;have zw4:=e4.size;refine sv E (dm E) fun T E=>?_;refine sv E (dv_add (c:=((1+i:Nat):Int)) E rfl rfl rfl (by rw [wrap_i64 (by omega) (by omega)];omega)) fun T E=>?_;refine sv E (dm E) fun T E=>?_;refine sv E (dv_cvt (c:=(i:Int)) E rfl rfl (by kernel_rfl) (by kernel_rfl) ((to_u8 i).trans (by omega))) fun T E=>?_;refine sr E (rbN (e:=5) [.int .u8 ((i:Int)),.int .u8 1] E) ?_;rintro _ w5 ⟨g9_,rfl,e5,lg9_,xg9_,b10_⟩ T E;have zw5:=e5.size;have yg9_:=heap_lt b10_;replace hp7_:=hp7_.mv e5 rfl;have ap15__h:=hp7_;refine cl E Tryz.func31 (rmk_low (b2:=w.heap.size) (sum_c w5 (some ⟨g9_,0,none⟩) 2 ([UInt8.ofNat i,UInt8.ofNat 1]) (byt2 b10_ (by omega) (by omega)) (by simp)) (by omega)) ?_;rintro _ w6 ⟨A11_,c12_,rfl,e6,hp13_,fr14_⟩ T E;have zw6:=e6.size;have ap15_:sumS ([UInt8.ofNat i,UInt8.ofNat 1])=[]∨Apart (.slice A5_ ((sumS ([UInt8.ofNat i])).length) c6_) (.slice A11_ ((sumS ([UInt8.ofNat i,UInt8.ofNat 1])).length) c12_):=apart_new ap15__h fr14_ (Nat.le_refl _);have ap15__s:(sumS ([UInt8.ofNat i]))=[]∨Apart (.slice A11_ ((sumS ([UInt8.ofNat i,UInt8.ofNat 1])).length) c12_) (.slice A5_ ((sumS ([UInt8.ofNat i])).length) c6_):=apart_new' ap15__h fr14_ (Nat.le_refl _);refine sv E (dv_build (vs:=[(0,.slice A5_ ((sumS ([UInt8.ofNat i])).length) c6_),(1,Iw (((1+i:Nat):Int))),(2,.slice A11_ ((sumS ([UInt8.ofNat i,UInt8.ofNat 1])).length) c12_)]) (C:=#[.slice A5_ ((sumS ([UInt8.ofNat i])).length) c6_,Iw (((1+i:Nat):Int)),.slice A11_ ((sumS ([UInt8.ofNat i,UInt8.ofNat 1])).length) c12_]) E rfl rfl (by kernel_rfl)) fun T E=>?_;refine sr E (rb1 (e:=39) (k:=3) E) ?_;rintro _ w7 ⟨g16_,rfl,e7,lg16_,xg16_,b17_⟩ T E;have zw7:=e7.size;have yg16_:=heap_lt b17_;replace ot:=((((ot.mv e3 rfl).mv e4 rfl).mv e5 rfl).mv e6 rfl).mv e7 rfl;refine sr E (ru_appT (base:=w.heap.size) (e:=39) (k:=3) (by_:=56) (z:= .agg #[.slice none 0 0,Iw 0,.slice none 0 0]) (m:=i+1) (vals:=vals) (cs:=#[.slice A5_ ((sumS ([UInt8.ofNat i])).length) c6_,Iw (((1+i:Nat):Int)),.slice A11_ ((sumS ([UInt8.ofNat i,UInt8.ofNat 1])).length) c12_]) E rfl rfl rfl rfl (by kernel_rfl) (infoB_of (by kernel_rfl)) rfl (by decide) ot b17_ rfl rfl (by omega) (by decide) (by omega)) ?_;rintro _ w8 ⟨A18_,c19_,rfl,e8,gr20_,ot21_⟩ T E;have zw8:=e8.size;refine sv E (da E) fun T E=>?_;refine hK3 _ _ ?_;refine gn [21] ?_;refine sv E (dp E) fun T E=>?_;refine sv E (dm E) fun T E=>?_;refine wpList_nil ?_;replace hp7_:=((hp7_.mv e6 rfl).mv e7 rfl).mv e8 rfl;replace hp13_:=(hp13_.mv e7 rfl).mv e8 rfl;replace hv:=RdIB.al (RdIB.al (RdIB.al (RdIB.al (RdIB.al (RdIB.al hv e3 rfl) e4 rfl) e5 rfl) e6 rfl) e7 rfl) e8 rfl;replace ho:=old1 (old0 (old0 (old0 (old0 (old0 ho e3) e4) e5) e6) e7) e8 (by omega);exact ⟨_,by omega,_,A18_,c19_,updT (vals) (i+1) #[.slice A5_ ((sumS ([UInt8.ofNat i])).length) c6_,Iw (((1+i:Nat):Int)),.slice A11_ ((sumS ([UInt8.ofNat i,UInt8.ofNat 1])).length) c12_],i+1,rfl,rfl,E.sb,ot21_,rdib_next (l:=blocksL) (by show i+1<4;omega) (blocks_at (by omega)) hv ⟨_,_,_,_,rfl,blockK_rd (by omega) hp7_.byt hp13_.byt⟩,ho,by omega,by omega⟩
  ·replace hc1:=of_decide_eq_false hc1;refine wp_exit ?_;refine hK1 _ _ ?_;refine go [5,0,1,4,17] ?_;intro T E;obtain rfl:i=3:=by omega
   refine post1_ret E rfl rfl ?_;exact ⟨_,_,_,rfl,Mv.of_below ho _ _,ot.tab,fun g o e=>(ot.ge g o e).2,hv⟩
structure RS where
  ad:ByteArray
  key:ByteArray
  pw:Int
theorem rightV_neg {c:Cf} {v:Vt} (h:v.pl<0):rightV c v=false:=by
  unfold rightV;rw [decide_eq_false (by omega: ¬0≤v.pl)];rfl
theorem rightV_big {c:Cf} {v:Vt} (h:(c.n:Int)≤v.pl):rightV c v=false:=by
  unfold rightV;rw [decide_eq_false (by omega: ¬v.pl<(c.n:Int))];simp
theorem right_eq {c:Cf} {v:Vt} {k:Nat} (hch:c.ch=⟨#[99,104,97,105,110]⟩) (hpl:v.pl=(k:Int)) (hk:k<c.n):decide (bs v.sg=bs (signF (sb (c.seat k).key) (msgB v.bk v.kd v.ht v.rd v.sec v.ns ⟨#[99,104,97,105,110]⟩)))=rightV c v:=by
  rw [rightV_of hpl hk,hch];exact decide_eq_decide.2 bs_inj
theorem fits2_c (w:World) (a k:ByteArray) (p:Int):Ret Tryz.prog 30 #[.agg #[.string a,.string k,Iw p]] w (fun v w1=>v= .bool (decide (a.size≤2147483647∧k.size≤2147483647))∧Mv [] 0 w w1):=by
 refine en 11 Tryz.func30 fun T E=>?_;have ho:=Below.refl w.heap.size w;refine sq ?_;refine sr E (rbx E) ?_;rintro _ w1 ⟨g1_,rfl,e1,lg1_,xg1_,b2_⟩ T E;have zw1:=e1.size;have yg1_:=heap_lt b2_;refine go [1,4] ?_;intro T E;refine sk fun K1 hK1=>?_;refine go [5,50,3] ?_;intro T E;refine sv E (dv_lenStr E rfl rfl (by kernel_rfl)) fun T E=>?_;refine sv E (dv_gtr E rfl rfl rfl (nc_lt 2147483647 a.size)) fun T E=>?_;refine nq ?_;refine c_s E rfl (fun hc1=> ?_) (fun hc1=> ?_)
 ·replace hc1:=of_decide_eq_true hc1;refine go [5,1,4,17] ?_;intro T E;replace ho:=old0 ho e1;refine post1_ret E rfl rfl ?_;exact ⟨congrArg Value.bool ((decide_eq_false (by omega)).symm),Mv.of_below ho _ _⟩
 ·replace hc1:=of_decide_eq_false hc1;refine wp_skip ?_;refine hK1 _ _ ?_;refine sk fun K2 hK2=>?_;refine go [5,51,3] ?_;intro T E;refine sv E (dv_lenStr E rfl rfl (by kernel_rfl)) fun T E=>?_;refine sv E (dv_gtr E rfl rfl rfl (nc_lt 2147483647 k.size)) fun T E=>?_;refine nq ?_;refine c_s E rfl (fun hc2=> ?_) (fun hc2=> ?_)
  ·replace hc2:=of_decide_eq_true hc2;refine go [5,1,4,17] ?_;intro T E;replace ho:=old0 ho e1;refine post1_ret E rfl rfl ?_;exact ⟨congrArg Value.bool ((decide_eq_false (by omega)).symm),Mv.of_below ho _ _⟩
  ·replace hc2:=of_decide_eq_false hc2;refine wp_skip ?_;refine hK2 _ _ ?_;refine go [5,1,4,17] ?_;intro T E;replace ho:=old0 ho e1;refine post1_ret E rfl rfl ?_;exact ⟨congrArg Value.bool ((decide_eq_true ⟨by omega,by omega⟩).symm),Mv.of_below ho _ _⟩
theorem fits_c (w:World) (t0:Nat) (A0:Option Addr) (n cp:Nat) (rs:Nat→RS) (ti:Tab w t0 A0 3 n (fun i=> #[.string ((rs i).ad),.string ((rs i).key),Iw ((rs i).pw)])) (ti_l:TLt w.heap.size A0):Ret Tryz.prog 6 #[.slice A0 n cp] w (fun v w1=> ∃b,v= .bool b∧Mv [] 0 w w1∧(b=true→n≤2147483647∧∀i,i<n→(rs i).ad.size≤2147483647∧(rs i).key.size≤2147483647)):=by
 refine en 18 Tryz.func6 fun T E=>?_;have ho:=Below.refl w.heap.size w;refine go [5,1,4] ?_;intro T E;refine sk fun K1 hK1=>?_;refine go [5,0,6] ?_;intro T E;refine sv E (dv_gtr E rfl rfl rfl (nc_lt 2147483647 n)) fun T E=>?_;refine nq ?_;refine c_s E rfl (fun hc1=> ?_) (fun hc1=> ?_)
 ·replace hc1:=of_decide_eq_true hc1;refine go [5,1,4,17] ?_;intro T E;refine post1_ret E rfl rfl ?_;exact ⟨false,rfl,Mv.of_below ho _ _,fun h=>by cases h⟩
 ·replace hc1:=of_decide_eq_false hc1;refine wp_skip ?_;refine hK1 _ _ ?_;refine sk fun K2 hK2=>?_;refine go [5,0,6,0,4,18] ?_;intro T E;refine loopM (fun mm_ a_ W=> ∃(T:Array Value) (i:Nat),a_=⟨T,[]⟩∧n-i=mm_∧Env T 18 [(0,.slice A0 n cp),(8,.slice A0 n cp),(9,Iw ((n:Int))),(10,Iw ((i:Int)))]∧Tab W t0 A0 3 n (fun i=> #[.string ((rs i).ad),.string ((rs i).key),Iw ((rs i).pw)])∧Below w.heap.size w W∧w.heap.size≤W.heap.size∧i≤n∧∀j,j<i→(rs j).ad.size≤2147483647∧(rs j).key.size≤2147483647) (n) ?_ ?_
  ·exact ⟨_,0,rfl,rfl,E.sb,ti,ho,by omega,⟨Nat.zero_le _,fun j hj=>absurd hj (Nat.not_lt_zero _)⟩⟩
  ·rintro mm_ _ w1 ⟨T,i,rfl,rfl,E,ti,ho,hz,hi⟩;refine sq ?_;refine sv E (dv_lss E rfl rfl rfl (nc_lt i n)) fun T E=>?_;refine nq ?_;refine sk fun K3 hK3=>?_;refine c_s E rfl (fun hc2=> ?_) (fun hc2=> ?_)
   ·replace hc2:=of_decide_eq_true hc2;refine wp_skip ?_;refine hK3 _ _ ?_;refine sk fun K4 hK4=>?_;refine gn [18,5] ?_;refine sv E (dI A0 3 i (i*3) E ti) fun T E=>?_;refine sv E (dv_loadRow (k:=3) (vs:=#[.string ((rs i).ad),.string ((rs i).key),Iw ((rs i).pw)]) E rfl rfl (by kernel_rfl) (by kernel_rfl) rfl (Tab.sub (r:=0) ti (by omega) rfl rfl (fun j hj=>by match j,hj with | 0,_=>rfl | 1,_=>rfl | 2,_=>rfl))) fun T E=>?_;refine sr E (ral (.agg #[.string ByteArray.empty,.string ByteArray.empty,Iw 0])) ?_;rintro _ w2 ⟨g1_,rfl,e2,lg1_,xg1_,b2_⟩ T E;have zw2:=e2.size;have yg1_:=heap_lt b2_;refine sst (dS [.string ((rs i).ad),.string ((rs i).key),Iw ((rs i).pw)] E b2_) ?_;intro w3 e3 n3_ b2_;have zw3:=e3.size;refine gn [4,5] ?_;refine sv E (dA E b2_) fun T E=>?_;refine cl E Tryz.func30 (fits2_c w3 ((rs i).ad) ((rs i).key) ((rs i).pw)) ?_;rintro _ w4 ⟨rfl,e4⟩ T E;have zw4:=e4.size;refine sv E (dv_not E rfl rfl) fun T E=>?_;refine nq ?_;refine c_s E rfl (fun hc3=> ?_) (fun hc3=> ?_)
    ·replace hc3:=nd_t hc3;refine go [5,1,4,17] ?_;intro T E;replace ho:=old0 (old1 (old0 ho e2) e3 (by omega)) e4;refine post1_ret E rfl rfl ?_;exact ⟨false,rfl,Mv.of_below ho _ _,fun h=>by cases h⟩
    ·replace hc3:=nd_f hc3;refine wp_skip ?_;refine hK4 _ _ ?_;refine gn [21] ?_;refine sv E (dp E) fun T E=>?_;refine sv E (dm E) fun T E=>?_;refine wpList_nil ?_;replace ti:=((ti.mv e2 rfl).keep ti_l e3 (by omega)).mv e4 rfl;replace ho:=old0 (old1 (old0 ho e2) e3 (by omega)) e4;exact ⟨_,by omega,_,i+1,rfl,rfl,E.sb,ti,ho,by omega,⟨by omega,fun j hj=>by by_cases e:j=i;(subst e;exact hc3);exact hi.2 j (by omega)⟩⟩
   ·replace hc2:=of_decide_eq_false hc2;refine wp_exit ?_;refine hK2 _ _ ?_;refine go [5,1,4,17] ?_;intro T E;obtain rfl:i=n:=by omega
    refine post1_ret E rfl rfl ?_;exact ⟨true,rfl,Mv.of_below ho _ _,fun _=>⟨by omega,hi.2⟩⟩
theorem back_c (w:World) (A0:Option Addr) (n cp:Nat) (f:Nat→ST) (hn:n≤1000) (ti:Tab w 83 A0 4 n (fun i=>seatS (f i))) (ti_l:TLt w.heap.size A0):Ret Tryz.prog 12 #[.slice A0 n cp] w (fun v w1=> ∃A1 c1,v= .slice A1 n c1∧Mv [] 0 w w1∧Tab w1 78 A1 3 n (fun i=> #[.string ((f i).ad),.string ((f i).key),Iw (((f i).pw:Int))])∧TLt w1.heap.size A1):=by
 refine en 24 Tryz.func12 fun T E=>?_;have ho:=Below.refl w.heap.size w;refine go [5,1,4,5,1,4] ?_;intro T E;refine sk fun K1 hK1=>?_;refine go [5,0,6,0,4,18] ?_;intro T E;refine loopM (fun mm_ a_ W=> ∃(T:Array Value) (Ao:Option Addr) (co:Nat) (i:Nat),a_=⟨T,[]⟩∧n-i=mm_∧Env T 24 [(3,.slice Ao i co),(6,.slice A0 n cp),(7,Iw ((n:Int))),(8,Iw ((i:Int)))]∧Tab W 83 A0 4 n (fun i=>seatS (f i))∧Below w.heap.size w W∧OwnT w.heap.size W 78 3 (.slice Ao i co) i (fun i=> #[.string ((f i).ad),.string ((f i).key),Iw (((f i).pw:Int))])∧w.heap.size≤W.heap.size∧i≤n) (n) ?_ ?_
 ·exact ⟨_,none,0,0,rfl,rfl,E.sb,ti,ho,OwnT.nil,by omega,Nat.zero_le _⟩
 ·rintro mm_ _ w1 ⟨T,Ao,co,i,rfl,rfl,E,ti,ho,ow,hz,hi⟩;refine sq ?_;refine sv E (dv_lss E rfl rfl rfl (nc_lt i n)) fun T E=>?_;refine nq ?_;refine sk fun K2 hK2=>?_;refine c_s E rfl (fun hc1=> ?_) (fun hc1=> ?_)
  ·replace hc1:=of_decide_eq_true hc1;refine wp_skip ?_;refine hK2 _ _ ?_;refine sk fun K3 hK3=>?_;refine gn [18,5] ?_;refine sv E (dI A0 4 i (i*4) E ti) fun T E=>?_;refine sv E (dv_loadRow (k:=4) (vs:=#[.string ((f i).ad),.string ((f i).key),Iw (((f i).pw:Int)),Iw 0]) E rfl rfl (by kernel_rfl) (by kernel_rfl) rfl (Tab.sub (r:=0) ti (by omega) rfl rfl (fun j hj=>by match j,hj with | 0,_=>rfl | 1,_=>rfl | 2,_=>rfl | 3,_=>rfl))) fun T E=>?_;refine sr E (ral (.agg #[.string ByteArray.empty,.string ByteArray.empty,Iw 0,Iw 0])) ?_;rintro _ w2 ⟨g1_,rfl,e2,lg1_,xg1_,b2_⟩ T E;have zw2:=e2.size;have yg1_:=heap_lt b2_;refine sst (dS [.string ((f i).ad),.string ((f i).key),Iw (((f i).pw:Int)),Iw 0] E b2_) ?_;intro w3 e3 n3_ b2_;have zw3:=e3.size;refine go [4,21,0,50,3,51,3,52,3] ?_;intro T E;refine sv E (dv_build (vs:=[(0,.string ((f i).ad)),(1,.string ((f i).key)),(2,Iw (((f i).pw:Int)))]) (C:=#[.string ((f i).ad),.string ((f i).key),Iw (((f i).pw:Int))]) E rfl rfl (by kernel_rfl)) fun T E=>?_;refine sr E (rb1 (e:=78) (k:=3) E) ?_;rintro _ w4 ⟨g4_,rfl,e4,lg4_,xg4_,b5_⟩ T E;have zw4:=e4.size;have yg4_:=heap_lt b5_;replace ow:=((ow.mv e2 rfl).mv e3 rfl).mv e4 rfl;refine sr E (ru_appT (base:=w.heap.size) (e:=78) (k:=3) (by_:=40) (z:= .agg #[.string ByteArray.empty,.string ByteArray.empty,Iw 0]) (m:=i) (vals:=fun i=> #[.string ((f i).ad),.string ((f i).key),Iw (((f i).pw:Int))]) (cs:=#[.string ((f i).ad),.string ((f i).key),Iw (((f i).pw:Int))]) E rfl rfl rfl rfl (by kernel_rfl) (infoB_of (by kernel_rfl)) rfl (by decide) ow b5_ rfl rfl (by omega) (by decide) (by omega)) ?_;rintro _ w5 ⟨A6_,c7_,rfl,e5,gr8_,ot9_⟩ T E;have zw5:=e5.size;refine sv E (da E) fun T E=>?_;refine hK3 _ _ ?_;refine gn [21] ?_;refine sv E (dp E) fun T E=>?_;refine sv E (dm E) fun T E=>?_;refine wpList_nil ?_;replace ti:=(((ti.mv e2 rfl).keep ti_l e3 (by omega)).mv e4 rfl).mv e5 rfl;replace ho:=old1 (old0 (old1 (old0 ho e2) e3 (by omega)) e4) e5 (by omega);exact ⟨_,by omega,_,A6_,c7_,i+1,rfl,rfl,E.sb,ti,ho,OwnT.congr ot9_ (fun j hj=>by by_cases e:j=i <;> simp [updT,e]),by omega,by omega⟩
  ·replace hc1:=of_decide_eq_false hc1;refine wp_exit ?_;refine hK1 _ _ ?_;refine go [5,0,1,4,17] ?_;intro T E;obtain rfl:i=n:=by omega
   refine post1_ret E rfl rfl ?_;exact ⟨_,_,rfl,Mv.of_below ho _ _,ow.tab,fun g o e=>(ow.ge g o e).2⟩
theorem right_neg (w:World) (hK:w.heap[7]? =some (.cells (fcells 64 (wcf kF)) 148 (0,0))) (c:Cf) (hc:c.Ok) (hch:c.ch=⟨#[99,104,97,105,110]⟩) (A0:Option Addr) (cp:Nat) (ti:Tab w 83 A0 4 c.n (fun i=>seatS (c.seat i))) (ti_l:TLt w.heap.size A0) (v:Vt) (A1:Option Addr) (c1:Nat) (A3:Option Addr) (c3:Nat) (S:Option Addr) (cs:Nat) (hr:RdBk w (.slice A1 v.bk.h.length c1) (.int .u32 (v.bk.t:Int)) (.slice A3 v.bk.r.length c3) v.bk) (hs:Byt w (.slice S v.sg.length cs) v.sg) (hok:v.Ok) (hneg:v.pl<0):Ret Tryz.prog 17 #[.slice A0 c.n cp,.agg #[Iw ((v.kd:Int)),Iw ((v.ht:Int)),Iw ((v.rd:Int)),Iw v.pl,.string v.ad,.slice A1 v.bk.h.length c1,Iw ((v.bk.t:Int)),.slice A3 v.bk.r.length c3,Iw ((v.sec:Int)),Iw ((v.ns:Int)),.slice S v.sg.length cs]] w (fun u w1=>u= .bool (rightV c v)∧Mv [] 0 w w1):=by
 refine en 32 Tryz.func17 fun T E=>?_;have hsm:=hr.small;have h7:=heap_lt hK;have ho:=Below.refl w.heap.size w;refine sq ?_;refine sr E (rbx E) ?_;rintro _ w1 ⟨g1_,rfl,e1,lg1_,xg1_,b2_⟩ T E;have zw1:=e1.size;have yg1_:=heap_lt b2_;refine go [1,4] ?_;intro T E;refine wp_seq ?_;refine rgG 28 (Kv4 (Kv8 (Kv8 (Kv8 [])))) [([],[3]),([0],[]),([1],[]),([2],[]),([3],[]),([3],[]),([3],[]),([3],[]),([3],[]),([3,8],[]),([9],[]),([10],[]),([10],[]),([10],[]),([10],[]),([10],[]),([10],[]),([10],[]),([10],[]),([10],[]),([10],[]),([10],[]),([10],[]),([10],[]),([10],[]),([10],[]),([10,25],[]),([26],[])] E (by
  refine dg [53,3] ?_;refine .cons (fun _ _ e_ E _=>Ru.d (dv_as (c:=false) (dv_geq E rfl rfl rfl rfl) (decide_eq_false (by omega)))) ?_;exact dz [0,20,20,20,20,20,9,0,20,20,20,20,20,20,20,20,20,20,20,20,20,20,20,9,1]
  ) fun T w2 e2 hE hN=>?_
 have zw2:=e2.size;have E:=hE [27] [] trivial (by kernel_rfl);refine gn [4,17] ?_;replace ho:=old0 (old0 ho e1) e2;refine post1_ret E rfl rfl ?_;exact ⟨congrArg Value.bool (rightV_neg hneg).symm,Mv.of_below ho _ _⟩
theorem right_big (w:World) (hK:w.heap[7]? =some (.cells (fcells 64 (wcf kF)) 148 (0,0))) (c:Cf) (hc:c.Ok) (hch:c.ch=⟨#[99,104,97,105,110]⟩) (A0:Option Addr) (cp:Nat) (ti:Tab w 83 A0 4 c.n (fun i=>seatS (c.seat i))) (ti_l:TLt w.heap.size A0) (v:Vt) (A1:Option Addr) (c1:Nat) (A3:Option Addr) (c3:Nat) (S:Option Addr) (cs:Nat) (hr:RdBk w (.slice A1 v.bk.h.length c1) (.int .u32 (v.bk.t:Int)) (.slice A3 v.bk.r.length c3) v.bk) (hs:Byt w (.slice S v.sg.length cs) v.sg) (hok:v.Ok) (hbig:(c.n:Int)≤v.pl):Ret Tryz.prog 17 #[.slice A0 c.n cp,.agg #[Iw ((v.kd:Int)),Iw ((v.ht:Int)),Iw ((v.rd:Int)),Iw v.pl,.string v.ad,.slice A1 v.bk.h.length c1,Iw ((v.bk.t:Int)),.slice A3 v.bk.r.length c3,Iw ((v.sec:Int)),Iw ((v.ns:Int)),.slice S v.sg.length cs]] w (fun u w1=>u= .bool (rightV c v)∧Mv [] 0 w w1):=by
 refine en 32 Tryz.func17 fun T E=>?_;have hsm:=hr.small;have h7:=heap_lt hK;have ho:=Below.refl w.heap.size w;refine sq ?_;refine sr E (rbx E) ?_;rintro _ w1 ⟨g1_,rfl,e1,lg1_,xg1_,b2_⟩ T E;have zw1:=e1.size;have yg1_:=heap_lt b2_;refine go [1,4] ?_;intro T E;refine wp_seq ?_;refine rgG 28 (Kv4 (Kv8 (Kv8 (Kv8 [])))) [([],[3]),([0],[]),([1],[]),([2],[]),([3],[3]),([3,4],[]),([3],[0]),([3,6],[]),([3,5,7],[]),([3,8],[]),([9],[]),([10],[]),([10],[]),([10],[]),([10],[]),([10],[]),([10],[]),([10],[]),([10],[]),([10],[]),([10],[]),([10],[]),([10],[]),([10],[]),([10],[]),([10],[]),([10,25],[]),([26],[])] E (by
  refine dg [53,3] ?_;refine .cons (fun _ _ e_ E _=>Ru.d (dv_as (c:=true) (dv_geq E rfl rfl rfl rfl) (decide_eq_true (by omega)))) ?_;refine dg [0,103] ?_;refine .cons ?_ ?_
  ·intro T w_ e_ E hN;replace b2_:=e_.blk b2_ rfl;exact Ru.qw (dl E b2_) (wanted_on (b:=true) E rfl rfl rfl rfl)
  refine dg [30,36] ?_;refine .cons (fun _ _ e_ E _=>Ru.qw (dv_as (c:=false) (dv_lss E rfl rfl rfl rfl) (decide_eq_false (by omega))) (wanted_on (b:=true) E rfl rfl rfl rfl)) ?_;exact dz [8,0,20,20,20,20,20,20,20,20,20,20,20,20,20,20,20,9,1]
  ) fun T w2 e2 hE hN=>?_
 have zw2:=e2.size;have E:=hE [27] [] trivial (by kernel_rfl);refine gn [4,17] ?_;replace ho:=old0 (old0 ho e1) e2;refine post1_ret E rfl rfl ?_;exact ⟨congrArg Value.bool (rightV_big hbig).symm,Mv.of_below ho _ _⟩
theorem right_in (w:World) (hK:w.heap[7]? =some (.cells (fcells 64 (wcf kF)) 148 (0,0))) (c:Cf) (hc:c.Ok) (hch:c.ch=⟨#[99,104,97,105,110]⟩) (A0:Option Addr) (cp:Nat) (ti:Tab w 83 A0 4 c.n (fun i=>seatS (c.seat i))) (ti_l:TLt w.heap.size A0) (v:Vt) (A1:Option Addr) (c1:Nat) (A3:Option Addr) (c3:Nat) (S:Option Addr) (cs:Nat) (hr:RdBk w (.slice A1 v.bk.h.length c1) (.int .u32 (v.bk.t:Int)) (.slice A3 v.bk.r.length c3) v.bk) (hs:Byt w (.slice S v.sg.length cs) v.sg) (hok:v.Ok) (k:Nat) (hk:k<c.n) (hpl:v.pl=(k:Int)):Ret Tryz.prog 17 #[.slice A0 c.n cp,.agg #[Iw ((v.kd:Int)),Iw ((v.ht:Int)),Iw ((v.rd:Int)),Iw v.pl,.string v.ad,.slice A1 v.bk.h.length c1,Iw ((v.bk.t:Int)),.slice A3 v.bk.r.length c3,Iw ((v.sec:Int)),Iw ((v.ns:Int)),.slice S v.sg.length cs]] w (fun u w1=>u= .bool (rightV c v)∧Mv [] 0 w w1):=by
 refine en 32 Tryz.func17 fun T E=>?_;have hsm:=hr.small;have h7:=heap_lt hK;have ho:=Below.refl w.heap.size w;have hml:=msgB_len v.bk hr.ok v.kd v.ht v.rd v.sec v.ns ⟨#[99,104,97,105,110]⟩ hok.kd hok.ht hok.rd hok.sec hok.ns (by decide);refine sq ?_;refine sr E (rbx E) ?_;rintro _ w1 ⟨g1_,rfl,e1,lg1_,xg1_,b2_⟩ T E;have zw1:=e1.size;have yg1_:=heap_lt b2_;refine go [1,4] ?_;intro T E;refine wp_seq ?_;refine rgG 28 (Kv2 (Kv4 (Kv8 (Kv8 (kp (fun v_ W=> ∃A3_,∃c4_,v_= .slice A3_ ((msgB v.bk v.kd v.ht v.rd v.sec v.ns (⟨#[99,104,97,105,110]⟩)).length) c4_∧OwnB w.heap.size W (.slice A3_ ((msgB v.bk v.kd v.ht v.rd v.sec v.ns (⟨#[99,104,97,105,110]⟩)).length) c4_) (msgB v.bk v.kd v.ht v.rd v.sec v.ns (⟨#[99,104,97,105,110]⟩)))::kp (fun v_ W=> ∃A7_,∃c8_,v_= .slice A7_ ((signF (sb ((c.seat k).key)) (msgB v.bk v.kd v.ht v.rd v.sec v.ns (⟨#[99,104,97,105,110]⟩))).length) c8_∧OwnB w.heap.size W (.slice A7_ ((signF (sb ((c.seat k).key)) (msgB v.bk v.kd v.ht v.rd v.sec v.ns (⟨#[99,104,97,105,110]⟩))).length) c8_) (signF (sb ((c.seat k).key)) (msgB v.bk v.kd v.ht v.rd v.sec v.ns (⟨#[99,104,97,105,110]⟩))))::Kv4 []))))) [([],[3]),([0],[]),([1],[]),([2],[]),([3],[3]),([3,4],[]),([3],[0]),([3,6],[]),([3,5,7],[]),([3,8],[]),([9],[]),([10],[3]),([10,11],[]),([10,12],[]),([10],[0]),([10],[3]),([10,15],[]),([10,14,16],[]),([10,17],[]),([10,18],[]),([10],[3]),([10,20],[]),([10,21],[]),([10,19],[]),([10],[]),([10,13,24],[]),([10,25],[]),([26],[])] E (by
  refine dg [53,3] ?_;refine .cons (fun _ _ e_ E _=>Ru.d (dv_as (c:=true) (dv_geq E rfl rfl rfl rfl) (decide_eq_true (by omega)))) ?_;refine dg [0,103] ?_;refine .cons ?_ ?_
  ·intro T w_ e_ E hN;replace b2_:=e_.blk b2_ rfl;exact Ru.qw (dl E b2_) (wanted_on (b:=true) E rfl rfl rfl rfl)
  refine dg [30,36] ?_;refine .cons (fun _ _ e_ E _=>Ru.qw (dv_as (c:=true) (dv_lss E rfl rfl rfl rfl) (decide_eq_true (by omega))) (wanted_on (b:=true) E rfl rfl rfl rfl)) ?_;refine dg [8,0,110] ?_;refine .cons ?_ ?_
  ·intro T w_ e_ E hN;replace b2_:=e_.blk b2_ rfl;exact Ru.qw (dl E b2_) (wanted_on (b:=true) E rfl rfl rfl rfl)
  refine .cons ?_ ?_
  ·intro T w_ e_ E hN;replace hs:=(hs.mv e1 rfl).mv e_ rfl;exact Ru.qw (dv_cvtBS E rfl rfl (by kernel_rfl) (by kernel_rfl) hs) (wanted_on (b:=true) E rfl rfl rfl rfl)
  refine dg [30,103] ?_;refine .cons ?_ ?_
  ·intro T w_ e_ E hN;replace b2_:=e_.blk b2_ rfl;exact Ru.qw (dv_load (v:= .int .i64 (k:Int)) E rfl rfl (by kernel_rfl) (cell_of b2_ (congrArg (fun x=>some (Value.int .i64 x)) hpl))) (wanted_on (b:=true) E rfl rfl rfl rfl)
  refine .cons ?_ ?_
  ·intro T w_ e_ E hN;have z_:=e_.size;replace ti:=(ti.mv e1 rfl).mv e_ rfl;exact Ru.qw (dI A0 4 k (k*4) E ti) (wanted_on (b:=true) E rfl rfl rfl rfl)
  refine .cons (fun _ _ _ E _=>Ru.qw (dv_fieldAddr (b:=((adr A0 (k*4)).add 1)) 1 E rfl rfl (by kernel_rfl) rfl) (wanted_on (b:=true) E rfl rfl rfl rfl)) ?_;refine .cons ?_ ?_
  ·intro T w_ e_ E hN;have z_:=e_.size;replace ti:=(ti.mv e1 rfl).mv e_ rfl;exact Ru.qw (dv_load (v:= .string ((c.seat k).key)) E rfl rfl (by kernel_rfl) (Tab.cell (r:=1) ti (by omega) rfl rfl)) (wanted_on (b:=true) E rfl rfl rfl rfl)
  refine .cons ?_ ?_
  ·intro T w_ e_ E hN;replace b2_:=e_.blk b2_ rfl;exact Ru.qw (dA E b2_) (wanted_on (b:=true) E rfl rfl rfl rfl)
  refine .cons ?_ ?_
  ·intro T w_ e_ E hN;replace hr:=(hr.mv e1 rfl).mv e_ rfl;replace hs:=(hs.mv e1 rfl).mv e_ rfl;refine (rr E Tryz.func16 (lvote_c w_ v A1 c1 A3 c3 S cs hr hs) (wanted_on (b:=true) E rfl rfl rfl rfl)).mono ?_;rintro _ w2 ⟨rfl,e2⟩;have zw2:=e2.size;exact ⟨e2.up rfl (Nat.zero_le _),rfl⟩
  refine .cons ?_ ?_
  ·intro T w_ e_ E hN;have z_:=e_.size;replace hr:=(hr.mv e1 rfl).mv e_ rfl;refine (rr E Tryz.func36 (rmk_low (b2:=w.heap.size) (message_s w_ v A1 c1 A3 c3 S cs hr hok (⟨#[99,104,97,105,110]⟩) (by decide)) (by omega)) (wanted_on (b:=true) E rfl rfl rfl rfl)).mono ?_;rintro _ w3 ⟨A3_,c4_,rfl,e3,hp5_,fr6_⟩;have zw3:=e3.size;exact ⟨e3.up rfl (Nat.zero_le _),A3_,c4_,rfl,hp5_⟩
  refine .cons ?_ ?_
  ·intro T w_ e_ E hN;have z_:=e_.size;obtain ⟨v_,h_,A3_,c4_,rfl,hp5_⟩:=hN 22 (by kernel_rfl);have E:=E.add h_;replace hK:=e_.blk (e1.blk hK rfl) rfl;have ap11__h:=hp5_;refine (rr E Tryz.func35 (rmk_low (b2:=w.heap.size) (signed_c w_ ((c.seat k).key) A3_ c4_ (msgB v.bk v.kd v.ht v.rd v.sec v.ns (⟨#[99,104,97,105,110]⟩)) hp5_.byt (hc.key k hk).1 hml.1 (Nat.lt_trans (hc.key k hk).2 (by decide)) (Nat.lt_trans hml.2 (by decide)) hK) (by omega)) (wanted_on (b:=true) E rfl rfl rfl rfl)).mono ?_;rintro _ w4 ⟨A7_,c8_,rfl,e4,hp9_,fr10_⟩;have zw4:=e4.size;have ap11_:signF (sb ((c.seat k).key)) (msgB v.bk v.kd v.ht v.rd v.sec v.ns (⟨#[99,104,97,105,110]⟩))=[]∨Apart (.slice A3_ ((msgB v.bk v.kd v.ht v.rd v.sec v.ns (⟨#[99,104,97,105,110]⟩)).length) c4_) (.slice A7_ ((signF (sb ((c.seat k).key)) (msgB v.bk v.kd v.ht v.rd v.sec v.ns (⟨#[99,104,97,105,110]⟩))).length) c8_):=apart_new ap11__h fr10_ (Nat.le_refl _);have ap11__s:(msgB v.bk v.kd v.ht v.rd v.sec v.ns (⟨#[99,104,97,105,110]⟩))=[]∨Apart (.slice A7_ ((signF (sb ((c.seat k).key)) (msgB v.bk v.kd v.ht v.rd v.sec v.ns (⟨#[99,104,97,105,110]⟩))).length) c8_) (.slice A3_ ((msgB v.bk v.kd v.ht v.rd v.sec v.ns (⟨#[99,104,97,105,110]⟩)).length) c4_):=apart_new' ap11__h fr10_ (Nat.le_refl _);exact ⟨e4.up rfl (Nat.zero_le _),A7_,c8_,rfl,hp9_⟩
  refine .cons ?_ ?_
  ·intro T w_ e_ E hN;obtain ⟨v_,h_,A7_,c8_,rfl,hp9_⟩:=hN 23 (by kernel_rfl);have E:=E.add h_;exact Ru.qw (dv_cvtBS E rfl rfl (by kernel_rfl) (by kernel_rfl) hp9_.byt) (wanted_on (b:=true) E rfl rfl rfl rfl)
  refine .cons (fun _ _ _ E _=>Ru.qw (dv_streql E rfl rfl rfl) (wanted_on (b:=true) E rfl rfl rfl rfl)) ?_;exact dz [8,1]
  ) (hst:= .qs 22 (.cons (.p (fun _ _ _ ⟨A3_,c4_,e,hp5_⟩ m=>⟨A3_,c4_,e,hp5_.mv m rfl⟩)) (.cons (.p (fun _ _ _ ⟨A7_,c8_,e,hp9_⟩ m=>⟨A7_,c8_,e,hp9_.mv m rfl⟩)) (.qs 4 .nil)))) fun T w5 e5 hE hN=>?_
 have zw5:=e5.size;have E:=hE [27] [] trivial (by kernel_rfl);refine gn [4,17] ?_;replace ho:=old0 (old0 ho e1) e5;refine post1_ret E rfl rfl ?_;exact ⟨congrArg Value.bool (right_eq hch hpl hk),Mv.of_below ho _ _⟩
theorem right_c (w:World) (hK:w.heap[7]? =some (.cells (fcells 64 (wcf kF)) 148 (0,0))) (c:Cf) (hc:c.Ok) (hch:c.ch=⟨#[99,104,97,105,110]⟩) (A0:Option Addr) (cp:Nat) (ti:Tab w 83 A0 4 c.n (fun i=>seatS (c.seat i))) (ti_l:TLt w.heap.size A0) (v:Vt) (A1:Option Addr) (c1:Nat) (A3:Option Addr) (c3:Nat) (S:Option Addr) (cs:Nat) (hr:RdBk w (.slice A1 v.bk.h.length c1) (.int .u32 (v.bk.t:Int)) (.slice A3 v.bk.r.length c3) v.bk) (hs:Byt w (.slice S v.sg.length cs) v.sg) (hok:v.Ok):Ret Tryz.prog 17 #[.slice A0 c.n cp,.agg #[Iw ((v.kd:Int)),Iw ((v.ht:Int)),Iw ((v.rd:Int)),Iw v.pl,.string v.ad,.slice A1 v.bk.h.length c1,Iw ((v.bk.t:Int)),.slice A3 v.bk.r.length c3,Iw ((v.sec:Int)),Iw ((v.ns:Int)),.slice S v.sg.length cs]] w (fun u w1=>u= .bool (rightV c v)∧Mv [] 0 w w1):=by
  by_cases h1:v.pl<0
  · exact right_neg w hK c hc hch A0 cp ti ti_l v A1 c1 A3 c3 S cs hr hs hok h1
  · by_cases h2:(c.n:Int)≤v.pl
    · exact right_big w hK c hc hch A0 cp ti ti_l v A1 c1 A3 c3 S cs hr hs hok h2
    · exact right_in w hK c hc hch A0 cp ti ti_l v A1 c1 A3 c3 S cs hr hs hok v.pl.toNat (by omega) (by omega)
structure GoodS (l:List ST):Prop where
  n1:l.length≤12
  each: ∀s∈l,0<s.key.size∧s.key.size≤2147483647∧s.ad.size=20∧0<s.pw∧s.pw≤1000000
  apart:l.Pairwise (fun a b=>a.ad≠b.ad)
theorem GoodS.nil:GoodS []:=⟨by decide,fun s h=>(by cases h),.nil⟩
theorem GoodS.perm {l l2:List ST} (h:GoodS l) (p:l.Perm l2):GoodS l2:=
  ⟨by rw [← p.length_eq];exact h.n1,fun s hs=>h.each s (p.mem_iff.2 hs),(p.pairwise_iff (fun h e=>h e.symm)).1 h.apart⟩
theorem GoodS.snoc {l:List ST} {s:ST} (h:GoodS l) (hl:l.length<12) (hs:0<s.key.size∧s.key.size≤2147483647∧s.ad.size=20∧0<s.pw∧s.pw≤1000000) (ha: ∀x∈l,x.ad≠s.ad):GoodS (l++ [s]):=
  ⟨by simp;omega,fun x hx=>(List.mem_append.1 hx).elim (h.each x) (fun hx=>by obtain rfl:=List.mem_singleton.1 hx;exact hs),List.pairwise_append.2 ⟨h.apart,List.pairwise_singleton _ _,fun a h1 b hb=>by obtain rfl:=List.mem_singleton.1 hb;exact ha a h1⟩⟩
def seatL (l:List ST) (i:Nat):ST:=l.getD i ⟨.empty,.empty,0⟩
theorem seatL_mem {l:List ST} {i:Nat} (h:i<l.length):seatL l i∈l:=by
  unfold seatL;rw [List.getD_eq_getElem?_getD,List.getElem?_eq_getElem h];exact List.getElem_mem h
def chB:ByteArray:=⟨#[99,104,97,105,110]⟩
def cfOf (l:List ST) (kd:Nat):Cf:=⟨chB,l,kd,5,1⟩
theorem GoodS.ok {l:List ST} (h:GoodS l) (h0:l.length≠0) {kd:Nat} (hk:kd<100):(cfOf l kd).Ok:=by
  refine ⟨Nat.pos_of_ne_zero h0,h.n1,fun i hi=> ?_,fun i hi=> ?_,fun i hi=> ?_,fun i j hi hj e=> ?_,by show 5<1000;decide,hk,by show 0<5∧5<1000000000;decide,by show 1<1000000000;decide⟩
  · exact (h.each _ (seatL_mem hi)).2.2.2
  · exact (h.each _ (seatL_mem hi)).2.2.1
  · have:=h.each _ (seatL_mem hi);exact ⟨this.1,Nat.lt_of_le_of_lt this.2.1 (by decide)⟩
  · have hp:=List.pairwise_iff_getElem.1 h.apart
    have g: ∀k (hk:k<l.length),(cfOf l kd).seat k=l[k]:=fun k hk=>by
      show l.getD k _=_;rw [List.getD_eq_getElem?_getD,List.getElem?_eq_getElem hk];rfl
    rw [g i hi,g j hj] at e;rcases Nat.lt_trichotomy i j with h1 | h1 | h1
    · exact absurd e (hp i j hi hj h1)
    · exact h1
    · exact absurd e.symm (hp j i hj hi h1)
structure AA where
  who:Int
  bk:Int
  tm:Int
  wr:Int
  pe:Int
structure AA.Ok (a:AA):Prop where
  who:InR a.who
  bk:InR a.bk
  tm:InR a.tm
  wr:InR a.wr
  pe:InR a.pe
def AA.nil:AA:=⟨0,0,0,0,0⟩
def kdW (kd w:Nat):Nat:=if w=2 then 3-kd else kd
def htW (w:Nat):Nat:=if w=0 then 6 else 5
def rdW (w:Nat):Nat:=if w=1 then 0 else 1
def plW (n w k t:Nat):Int:=if w=3 then ((n+t:Nat):Int) else if w=4 then-1-(t:Int) else (k:Int)
def adW (l:List ST) (w k t:Nat):ByteArray:=if w=5 then .empty else if w=6 then (seatL l ((k+1) % l.length)).ad++bs [UInt8.ofNat t] else (seatL l k).ad
def keyW (l:List ST) (w k:Nat):ByteArray:=if w=7 then (seatL l k).key++⟨#[39]⟩ else (seatL l k).key
noncomputable def bkW (b:Nat):Bk:=blocksL.getD b Bk.none
noncomputable def voteW (l:List ST) (kd w k t t2 b:Nat):Vt:=
  ⟨kdW kd w,htW w,rdW w,plW l.length w k t,adW l w k t2,bkW b,1000+t,0,signF (sb (keyW l w k)) (msgB (bkW b) (kdW kd w) (htW w) (rdW w) (1000+t) 0 chB)⟩
noncomputable def stepOf (l:List ST) (kd:Nat) (a:AA):Sp:=
  if a.pe=0 then ⟨.empty,voteW l kd (belowF a.wr 40) (belowF a.who l.length) (belowF a.tm 3) (belowF a.tm 2) (belowF a.bk 4)⟩
  else ⟨bs [UInt8.ofNat (97+belowF a.pe 3)],⟨0,0,0,0,.empty,bkW (belowF a.bk 4),0,0,[]⟩⟩
noncomputable def stepsF (l:List ST) (kd:Nat) (aa:Nat→AA) (m:Nat):List Sp:=(List.range m).map (fun i=>stepOf l kd (aa i))
theorem stepsF_len (l:List ST) (kd:Nat) (aa:Nat→AA) (m:Nat):(stepsF l kd aa m).length=m:=by simp [stepsF]
theorem stepsF_at (l:List ST) (kd:Nat) (aa:Nat→AA) {m i:Nat} (h:i<m):stp (stepsF l kd aa m) i=stepOf l kd (aa i):=by simp [stp,stepsF,List.getD_eq_getElem?_getD,h]
theorem Vt.Ok.nosg {v:Vt} (h:v.Ok) (sg:List UInt8) (hs:sg.length<100000):({v with sg:=sg}:Vt).Ok:=⟨h.kd,h.ht,h.rd,h.pl,h.ad,h.sec,h.ns,hs⟩
theorem signF_len (k m:List UInt8):(signF k m).length<100000:=by
  show (rowB _ 32).length<100000;rw [rowB_len];decide
theorem GoodS.ad_le {l:List ST} (h:GoodS l) (i:Nat):(seatL l i).ad.size≤20:=by
  by_cases hi:i<l.length
  · rw [(h.each _ (seatL_mem hi)).2.2.1];exact Nat.le_refl _
  · unfold seatL;rw [List.getD_eq_getElem?_getD,List.getElem?_eq_none (by omega)];decide
theorem keyW_ok {l:List ST} (h:GoodS l) {w k:Nat} (hk:k<l.length):0<(keyW l w k).size∧(keyW l w k).size<5000000000:=by
  have h1:=h.each _ (seatL_mem hk);unfold keyW;split
  · rw [ByteArray.size_append];show 0<_+1∧_+1<5000000000;omega
  · omega
theorem plW_ok {n w k t:Nat} (hn:n≤12) (hk:k<12) (ht:t<3): -1000000<plW n w k t∧plW n w k t<1000000:=by
  unfold plW;split
  · omega
  · split <;> omega
theorem adW_ok {l:List ST} (h:GoodS l) (w k t:Nat):(adW l w k t).size<100000:=by
  unfold adW;split
  · decide
  · split
    · have:=h.ad_le ((k+1) % l.length);rw [ByteArray.size_append,bs_size];simp;omega
    · have:=h.ad_le k;omega
theorem voteW_ok {l:List ST} (h:GoodS l) {kd w k t t2 b:Nat} (hkd:kd<3) (hk:k<12) (ht:t<3):(voteW l kd w k t t2 b).Ok:=by
  refine ⟨?_,?_,?_,plW_ok h.n1 hk ht,adW_ok h w k t2,by show 1000+t<_;omega,by show 0<_;decide,signF_len _ _⟩
  · show kdW kd w<100;unfold kdW;split <;> omega
  · show htW w<_;unfold htW;split <;> decide
  · show rdW w<_;unfold rdW;split <;> decide
theorem stepOf_ok {l:List ST} (h:GoodS l) (h0:l.length≠0) {kd:Nat} (hkd:kd<3) {a:AA} (ha:a.Ok):(stepOf l kd a).v.Ok:=by
  unfold stepOf;split
  · exact voteW_ok h hkd (Nat.lt_of_lt_of_le (belowF_lt ha.who (Nat.pos_of_ne_zero h0)) h.n1) (belowF_lt ha.tm (by decide))
  · exact ⟨by show 0<100;decide,by show 0<_;decide,by show 0<_;decide,by show (-1000000:Int)<0∧(0:Int)<1000000;decide,by show (0:Nat)<_;decide,by show 0<_;decide,by show 0<_;decide,by show (0:Nat)<_;decide⟩
theorem findT_cons (x:Tl) (ts:List Tl) (b:Bk):findT (x::ts) b=if x.bk=b then some x else findT ts b:=by
  unfold findT;rw [List.find?_cons]
  split <;> simp_all
theorem findT_snoc (ts:List Tl) (t:Tl) (b:Bk):findT (ts++ [t]) b=(findT ts b).or (if t.bk=b then some t else none):=by
  unfold findT;rw [List.find?_append]
  congr 1
  by_cases h:t.bk=b <;> simp [h]
theorem total_eq (c:Cf):((List.range c.n).map (fun i=>(c.seat i).pw)).sum=c.total:=by
  unfold Cf.total
  congr 1
  apply List.ext_getElem
  · simp [Cf.n]
  · intro i h1 h2
    simp only [List.length_map] at h2;simp [Cf.seat,List.getD_eq_getElem?_getD,h2]
structure HeldV (c:Cf) (i:Nat) (v:Vt):Prop where
  lt:i<c.n
  pl:v.pl=(i:Int)
  why:why c v=0
  right:rightV c v=true
  ok:v.Ok
def pwK (c:Cf) (f:Nat→Bool) (k:Nat):Nat:=((List.range k).map (fun i=>if f i then (c.seat i).pw else 0)).sum
theorem pwK_succ (c:Cf) (f:Nat→Bool) (k:Nat):pwK c f (k+1)=pwK c f k+(if f k then (c.seat k).pw else 0):=by
  simp [pwK,List.range_succ]
theorem pwK_le (c:Cf) {f g:Nat→Bool} (h: ∀i,f i=true→g i=true): ∀k,pwK c f k≤pwK c g k
  | 0=>Nat.le_refl _
  | k+1=>by
    rw [pwK_succ,pwK_succ];have:=pwK_le c h k;cases hf:f k with
    | false=>simp;omega
    | true=>rw [h k hf];simp;omega
theorem pwK_ge (c:Cf) (f:Nat→Bool) {k n:Nat} (h:k≤n):pwK c f k≤pwK c f n:=by
  obtain ⟨d,rfl⟩:=Nat.exists_eq_add_of_le h;clear h
  induction d with
  | zero=>exact Nat.le_refl _
  | succ d ih=>rw [← Nat.add_assoc,pwK_succ];omega
theorem pwK_all (c:Cf) (f:Nat→Bool):pwK c f c.n≤c.total:=by
  rw [← total_eq];have: ∀k,pwK c f k≤((List.range k).map (fun i=>(c.seat i).pw)).sum:=fun k=>by
    induction k with
    | zero=>exact Nat.le_refl _
    | succ k ih=>
      rw [pwK_succ,List.range_succ,List.map_append,List.sum_append];simp only [List.map_cons,List.map_nil,List.sum_cons,List.sum_nil]
      split <;> omega
  exact this _
theorem pwK_cong (c:Cf) {f g:Nat→Bool}: ∀{k:Nat},(∀i,i<k→f i=g i)→pwK c f k=pwK c g k
  | 0,_=>rfl
  | k+1,h=>by rw [pwK_succ,pwK_succ,pwK_cong c (fun i hi=>h i (by omega)),h k (by omega)]
theorem pwK_upd (c:Cf) {vs:Nat→Option Vt} {i:Nat} {v:Vt} (hn:vs i=none): ∀{k:Nat},i<k→pwK c (fun j=>(updO vs i (some v) j).isSome) k=pwK c (fun j=>(vs j).isSome) k+(c.seat i).pw
  | 0,h=>absurd h (Nat.not_lt_zero _)
  | k+1,h=>by
    rw [pwK_succ,pwK_succ];by_cases e:i=k
    · subst e
      rw [updO_at,hn];have:pwK c (fun j=>(updO vs i (some v) j).isSome) i=pwK c (fun j=>(vs j).isSome) i:=pwK_cong c (fun j hj=>by rw [updO_ne _ _ (by omega)]);rw [this];simp
    · rw [updO_ne _ _ (fun h=>e h.symm),pwK_upd c hn (by omega)];omega
structure Held (c:Cf) (m:VM):Prop where
  vs: ∀i v,m.vs i=some v→HeldV c i v
  tv: ∀t∈m.ts,∀i v,t.vs i=some v→HeldV c i v∧v.bk=t.bk
  ts: ∀t∈m.ts,t.sum=pwK c (fun j=>(t.vs j).isSome) c.n
  most: ∀b,m.most=some b→∃t,findT m.ts b=some t∧c.need≤t.sum∧∀i,(t.vs i).isSome=true→∃v,m.vs i=some v∧v.bk=b
theorem Held.new (c:Cf):Held c VM.new:=⟨fun i v h=>(by cases h),fun t h=>(by cases h),fun t h=>(by cases h),fun b h=>(by cases h)⟩
theorem findT_map {b:Bk} {f:Tl→Tl} (hf: ∀t,t.bk=b→(f t).bk=b): ∀(ts:List Tl) (b1:Bk),findT (setT ts b f) b1=if b1=b then (findT ts b).map f else findT ts b1
  | [],b1=>by simp [setT,findT]
  | x::r,b1=>by
    have ih:=findT_map hf r b1;have e:setT (x::r) b f=(if x.bk=b then f x else x)::setT r b f:=rfl;rw [e,findT_cons,ih,findT_cons,findT_cons];by_cases h:x.bk=b
    · have hx:=hf x h
      by_cases h1:b1=b
      · subst h1;simp [h,hx]
      · have h2: ¬b=b1:=fun h=>h1 h.symm
        simp [h,hx,h1,h2]
    · by_cases h1:b1=b
      · subst h1;simp [h]
      · simp [h,h1]
theorem mem_map {ts:List Tl} {b:Bk} {f:Tl→Tl} {t:Tl} (h:t∈setT ts b f):(∃t0∈ts,t0.bk=b∧t=f t0)∨t∈ts:=by
  unfold setT at h;obtain ⟨t0,h0,h1⟩:=List.mem_map.1 h
  split at h1
  · exact .inl ⟨t0,h0,by assumption,h1.symm⟩
  · exact .inr (h1▸h0)
theorem Held.put {c:Cf} {m:VM} {v:Vt} {i:Nat} (h:Held c m) (hv:HeldV c i v) (hn: ∀t,findT m.ts v.bk=some t→t.vs i=none) (hm:m.most=some v.bk→∃u,m.vs i=some u∧u.bk=v.bk):Held c (putT c m v i):=by
  unfold putT;cases hf:findT m.ts v.bk with
  | none=>exact h
  | some t=>
    obtain ⟨hmem,hbk⟩:=findT_mem hf;have hti:=hn t hf;simp only;have hfs:=fun b1=>findT_map (b:=v.bk) (f:=fun _=> {t with vs:=updO t.vs i (some v),sum:=t.sum+(c.seat i).pw}) (fun _ _=>hbk) m.ts b1;have gtv: ∀t1∈setT m.ts v.bk (fun _=> {t with vs:=updO t.vs i (some v),sum:=t.sum+(c.seat i).pw}),∀j u,t1.vs j=some u→HeldV c j u∧u.bk=t1.bk:=by
      intro t1 ht1 j u hu;rcases mem_map ht1 with ⟨t0,h0,hb0,rfl⟩ | h1
      · by_cases e:j=i
        · subst e
          simp only [updO_at] at hu;injection hu with hu;subst hu;exact ⟨hv,hbk.symm⟩
        · simp only [updO_ne _ _ e] at hu
          exact h.tv t hmem j u hu
      · exact h.tv t1 h1 j u hu
    have gts: ∀t1∈setT m.ts v.bk (fun _=> {t with vs:=updO t.vs i (some v),sum:=t.sum+(c.seat i).pw}),t1.sum=pwK c (fun j=>(t1.vs j).isSome) c.n:=by
      intro t1 ht1;rcases mem_map ht1 with ⟨t0,h0,hb0,rfl⟩ | h1
      · show t.sum+(c.seat i).pw=_
        rw [pwK_upd c hti hv.lt,h.ts t hmem]
      · exact h.ts t1 h1
    split
    · rename_i hc
      refine ⟨fun j u hu=> ?_,gtv,gts,fun b hb=> ?_⟩
      · have hu2:(updO t.vs i (some v) j).or (m.vs j)=some u:=hu
        cases hj:updO t.vs i (some v) j with
        | none=>rw [hj] at hu2;exact h.vs j u hu2
        | some x=>
          rw [hj] at hu2;obtain rfl:x=u:=Option.some.inj hu2;by_cases e:j=i
          · subst e;rw [updO_at] at hj;injection hj with hj;subst hj;exact hv
          · rw [updO_ne _ _ e] at hj;exact (h.tv t hmem j x hj).1
      · have hb2:some v.bk=some b:=hb
        injection hb2 with hb2;subst hb2;refine ⟨_,(hfs v.bk).trans (by rw [if_pos rfl,hf];rfl),hc.2.2,fun j hj=> ?_⟩;have hj2:(updO t.vs i (some v) j).isSome=true:=hj;obtain ⟨x,hx⟩:=Option.isSome_iff_exists.1 hj2;refine ⟨x,(show (updO t.vs i (some v) j).or (m.vs j)=some x by rw [hx];rfl),?_⟩;by_cases e:j=i
        · subst e;rw [updO_at] at hx;injection hx with hx;subst hx;rfl
        · rw [updO_ne _ _ e] at hx;rw [(h.tv t hmem j x hx).2,hbk]
    · refine ⟨h.vs,gtv,gts,fun b hb=> ?_⟩
      obtain ⟨t2,h2,h3,h4⟩:=h.most b hb;by_cases e:b=v.bk
      · subst e
        rw [hf] at h2;injection h2 with h2;subst h2;refine ⟨_,(hfs v.bk).trans (by rw [if_pos rfl,hf];rfl),by show c.need≤t.sum+_;omega,fun j hj=> ?_⟩;by_cases e:j=i
        · subst e;exact hm hb
        · have hj2:(updO t.vs i (some v) j).isSome=true:=hj
          rw [updO_ne _ _ e] at hj2;exact h4 j hj2
      · exact ⟨t2,(hfs b).trans (by rw [if_neg e];exact h2),h3,h4⟩
theorem Held.vsUpd {c:Cf} {m:VM} {v:Vt} {i s:Nat} (h:Held c m) (hv:HeldV c i v) (hk:m.vs i=none∨m.most=some v.bk):Held c {m with vs:=updO m.vs i (some v),sum:=s}:=by
  refine ⟨fun j u hu=> ?_,h.tv,h.ts,fun b hb=> ?_⟩
  · have hu2:updO m.vs i (some v) j=some u:=hu
    by_cases e:j=i
    · subst e;rw [updO_at] at hu2;injection hu2 with hu2;subst hu2;exact hv
    · rw [updO_ne _ _ e] at hu2;exact h.vs j u hu2
  · obtain ⟨t2,h2,h3,h4⟩:=h.most b hb
    refine ⟨t2,h2,h3,fun j hj=> ?_⟩;by_cases e:j=i
    · subst e
      refine ⟨v,updO_at _ _ _,?_⟩;rcases hk with hk | hk
      · obtain ⟨u,hu,_⟩:=h4 j hj
        rw [hk] at hu;cases hu
      · have hb2:m.most=some b:=hb
        rw [hk] at hb2;exact Option.some.inj hb2
    · obtain ⟨u,hu,hb2⟩:=h4 j hj
      exact ⟨u,(updO_ne _ _ e).trans hu,hb2⟩
theorem Held.snoc {c:Cf} {m:VM} {b:Bk} {cl:Bool} (h:Held c m) (hf:findT m.ts b=none):Held c {m with ts:=m.ts++ [newT b cl]}:=by
  refine ⟨h.vs,fun t ht i v hv=> ?_,fun t ht=> ?_,fun d hd=> ?_⟩
  · rcases List.mem_append.1 ht with ht | ht
    · exact h.tv t ht i v hv
    · obtain rfl:=List.mem_singleton.1 ht;cases hv
  · rcases List.mem_append.1 ht with ht | ht
    · exact h.ts t ht
    · obtain rfl:=List.mem_singleton.1 ht
      show 0=_;have: ∀k,pwK c (fun j=>((newT b cl).vs j).isSome) k=0:=fun k=>by
        induction k with
        | zero=>rfl
        | succ k ih=>rw [pwK_succ,ih];rfl
      exact (this _).symm
  · obtain ⟨t2,h2,h3,h4⟩:=h.most d hd
    exact ⟨t2,by show findT (m.ts++ [newT b cl]) d=_;rw [findT_snoc,h2];rfl,h3,h4⟩
theorem why_lt {c:Cf} {v:Vt} (h:why c v=0):0≤v.pl∧v.pl<(c.n:Int):=by
  unfold why at h
  split at h
  · cases h
  · split at h
    · cases h
    · split at h
      · cases h
      · split at h
        · cases h
        · omega
theorem Held.add {c:Cf} {m:VM} {v:Vt} (h:Held c m) (hok:v.Ok):Held c (addM c m v (rightV c v)).1:=by
  unfold addM
  split
  · rename_i hw
    have hl:=why_lt hw;cases hs:sameM m v v.pl.toNat with
    | some o=>exact h
    | none=>
      simp only;cases hr:rightV c v with
      | false=>exact h
      | true=>
        have hv:HeldV c v.pl.toNat v:=⟨by omega,by omega,hw,hr,hok⟩;have hT: ∀t,findT m.ts v.bk=some t→t.vs v.pl.toNat=none:=fun t ht=>by
          unfold sameM at hs
          split at hs
          · split at hs
            · cases hs
            · rw [ht] at hs;exact hs
          · rw [ht] at hs;exact hs
        simp only [if_true];unfold putM;cases hm:m.vs v.pl.toNat with
        | some o=>
          simp only;have h1:Held c (if m.most=some v.bk then {m with vs:=updO m.vs v.pl.toNat (some v)} else m):=by
            split
            · rename_i e;exact h.vsUpd (s:=m.sum) hv (.inr e)
            · exact h
          cases hf:findT m.ts v.bk with
          | none=>exact h1
          | some t=>
            simp only
            split
            · refine h1.put hv (fun t2 ht2=>hT t2 ?_) (fun e=> ?_)
              · split at ht2 <;> exact ht2
              · split at e
                · rename_i e2;exact ⟨v,(by rw [if_pos e2];exact updO_at _ _ _),rfl⟩
                · rename_i e2;exact absurd e e2
            · exact h1
        | none=>
          simp only;have h1:=h.vsUpd (s:=m.sum+(c.seat v.pl.toNat).pw) hv (.inl hm);cases hf:findT m.ts v.bk with
          | some t=>exact h1.put hv (fun t2 ht2=>hT t2 ht2) (fun _=>⟨v,updO_at _ _ _,rfl⟩)
          | none=>
            refine (h1.snoc (cl:=false) hf).put hv (fun t2 ht2=> ?_) (fun _=>⟨v,updO_at _ _ _,rfl⟩);have ht3:findT (m.ts++ [newT v.bk false]) v.bk=some t2:=ht2;rw [findT_snoc,hf,if_pos (show (newT v.bk false).bk=v.bk from rfl)] at ht3;obtain rfl:newT v.bk false=t2:=Option.some.inj ht3;rfl
  · exact h
theorem Held.claim {c:Cf} {m:VM} {p:ByteArray} {b:Bk} (h:Held c m):Held c (claimM m p b).1:=by
  unfold claimM;cases lookP m.peers p with
  | some o=>exact h
  | none=>
    simp only;cases hf:findT m.ts b with
    | none=>
      have h2:=h.snoc (cl:=true) hf;exact ⟨h2.vs,h2.tv,h2.ts,h2.most⟩
    | some t=>
      simp only [Option.isSome_some,if_true];refine ⟨h.vs,fun t1 ht i v hv=> ?_,fun t1 ht=> ?_,fun d hd=> ?_⟩
      · rcases mem_map ht with ⟨t0,h0,hb0,rfl⟩ | h1
        · exact h.tv t0 h0 i v hv
        · exact h.tv t1 h1 i v hv
      · rcases mem_map ht with ⟨t0,h0,hb0,rfl⟩ | h1
        · exact h.ts t0 h0
        · exact h.ts t1 h1
      · obtain ⟨t2,h2,h3,h4⟩:=h.most d hd
        have e:=findT_map (b:=b) (f:=fun t=> {t with cl:=true}) (fun t ht=>ht) m.ts d;by_cases ed:d=b
        · subst ed
          rw [if_pos rfl,h2] at e;exact ⟨_,e,h3,h4⟩
        · rw [if_neg ed,h2] at e
          exact ⟨_,e,h3,h4⟩
theorem Held.step {c:Cf} {m:VM} {s:Sp} (h:Held c m) (hok:s.v.Ok):Held c (stepM c m s).1:=by
  unfold stepM
  split
  · exact h.add hok
  · exact h.claim
theorem Held.fold {c:Cf}: ∀(ss:List Sp) {m:VM},Held c m→(∀s∈ss,s.v.Ok)→Held c (foldM c m ss)
  | [],_,h,_=>h
  | s::r,_,h,ho=>by rw [foldM];exact Held.fold r (h.step (ho s (by simp))) (fun x hx=>ho x (by simp [hx]))
def forM (m:VM) (b:Bk) (i:Nat):Bool:=match m.vs i with
  | some v=>decide (v.bk=b)
  | none=>false
theorem Held.two {c:Cf} {m:VM} {b:Bk} (h:Held c m) (hb:m.most=some b):c.total*2 / 3<pwK c (forM m b) c.n:=by
  obtain ⟨t,h1,h2,h3⟩:=h.most b hb;have h4:=h.ts t (findT_mem h1).1;have h5:=pwK_le c (f:=fun j=>(t.vs j).isSome) (g:=forM m b) (fun i hi=>by
    obtain ⟨v,hv,hvb⟩:=h3 i hi;unfold forM;rw [hv];exact decide_eq_true hvb) c.n
  unfold Cf.need at h2;omega
end Go.Proofs.YtlnknihjccdgkaaGreatDoor.V
