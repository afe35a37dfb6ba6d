/-
  Part 27 of the proof of the law FnExpSum: XBlen, XgSq. Conditions: those of each statement.
-/
import Derived.Test.YthecibbmbnpegaaGreatDoorK24
import Derived.Laws.Bits64
import Derived.Deep.DeepCutAuto
set_option linter.unusedSimpArgs false
set_option linter.unusedVariables false
set_option maxRecDepth 100000
set_option maxHeartbeats 1000000
namespace Go.Big
theorem or_smear{a b:Int}{L:Nat}(ha0:0<=a)(ha:a<2^L)(hb0:0<=b)(hb:b<2^L)(hL:L<=64):a<=bits .or .u64 a b/\bits .or .u64 a b<2^L:=by
 obtain⟨m,rfl⟩:=Int.eq_ofNat_of_zero_le ha0;obtain⟨n,rfl⟩:=Int.eq_ofNat_of_zero_le hb0;have h64:=pow_le_pow_ (B:=2) (by omega) hL;have e64:(2:Int)^64=18446744073709551616:=rfl;have e:((2^L:Nat):Int)=(2:Int)^L:=by simp
 rw[<-e]at ha hb h64 ⊢
 rw[u64_or_nat m n (by omega) (by omega)];have h1:m ||| n<2^L:=Nat.or_lt_two_pow (by omega) (by omega);have h2:m<=m ||| n:=Nat.left_le_or;omega
theorem half_lt{a:Int}{L:Nat}(h0:0<=a)(h:a<2^L)(k:Int)(hk:0<k):0<=a/k/\a/k<2^L:=by
 have:=Int.ediv_le_self k h0;exact⟨Int.ediv_nonneg h0 (by omega),by omega⟩
theorem IsLen.words{ds:List Int}(hd:DG 18446744073709551616 ds){t:Int}{i j:Nat}(hi:ds.length=i+1)(ht:t=ds.getD i 0)(hj:IsLen t j)(h1:1<=j):IsLen (val 18446744073709551616 ds) (64*i+j):=by
 right;rcases hj with⟨_,h⟩|⟨_,h2,h3⟩
 ·omega
 have hv:=val_take_succ' 18446744073709551616 ds i;rw[<-hi,List.take_length,<- ht]at hv;have b1:=val_nonneg (by omega) (hd.take i);have b2:=val_lt (by omega) (hd.take i);rw[List.length_take,Nat.min_eq_left (by omega)]at b2;have e16:(2:Int)^(64*i)=18446744073709551616^i:=by rw[Int.pow_mul];rfl
 have e1:(2:Int)^(64*i+j)=18446744073709551616^i*2^j:=by rw[Int.pow_add,e16]
 have e2:(2:Int)^(64*i+j-1)=18446744073709551616^i*2^(j-1):=by rw[show 64*i+j-1=64*i+(j-1)by omega,Int.pow_add,e16]
 have p:=pow_pos_ (B:=18446744073709551616) (by omega) i;have m1:=Int.mul_le_mul_of_nonneg_left h2 (Int.le_of_lt p);have m2:=Int.mul_le_mul_of_nonneg_left (show t+1<=2^j by omega) (Int.le_of_lt p);rw[Int.mul_add,Int.mul_one]at m2;refine⟨by omega,?_,?_⟩
 ·rw[e2,hv];omega
 ·rw[e1,hv];omega
theorem first_nz{xs:List Int}(h: ∃i,i<xs.length/\xs.getD i 0≠0): ∃i,i<xs.length/\xs.getD i 0≠0/\ ∀k,k<i->xs.getD k 0=0:=by
 obtain⟨i,hi,hn⟩:=h;induction i using Nat.strongRecOn with
 |_ i ih=>
  by_cases hex: ∃k,k<i/\xs.getD k 0≠0
  ·obtain⟨k,hk,hkn⟩:=hex
   exact ih k hk (by omega) hkn
  ·refine⟨i,hi,hn,fun k hk=> ?_⟩
   by_cases e:xs.getD k 0=0
   ·exact e
   ·exact absurd ⟨k,hk,e⟩ hex
end Go.Big
namespace Go.Proofs.YthecibbmbnpegaaGreatDoor
open Go.Big Go.RowKit
theorem bitLen_any(v:Value)(X:Int)(w:World)(h:SW w v X)(hX:X<BIG):Calls Tryz.prog 129 #[v] w (RetLen X w):=by
 obtain⟨xs,sl,dx,zx,rfl⟩:=h;have hl:=len_BIG64 dx zx hX;obtain⟨A,cap,rfl,hlc,hm,hs⟩:=sl;unfold maxLen at hm;by_cases h0:xs.length=0
 ·have hx:xs=[]:=List.eq_nil_of_length_eq_zero h0
  subst hx;simp only[List.length_nil]at*;clear hs dx zx hX h0;go_enter Tryz.func129,Tryz.ntmps129;go_wp2_with fail;go_ret;exact⟨0,rfl,.inl ⟨rfl,rfl⟩,by omega,rfl⟩
 obtain⟨i,hi⟩: ∃i,xs.length=i+1:=⟨xs.length-1,by omega⟩;obtain⟨b,o,rfl,_,hs⟩:=hs (by omega);have c0:=hs i (by omega);obtain⟨x,hx⟩: ∃x,x=xs.getD i 0:=⟨_,rfl⟩;obtain⟨hx0,hx1⟩:=dx.getD (by omega) i;rw[<-hx]at c0 hx0 hx1
 have hxn:x≠0:=by
  rcases zx with h|h
  ·subst h;simp at hi
  ·rwa[hi,Nat.add_sub_cancel,<- hx]at h
 have hL:=isLen_word x hx0 hx1;obtain⟨L,hLe⟩: ∃L,L=Lib.bitLen x.toNat:=⟨_,rfl⟩;rw[<-hLe]at hL;have hL1:1<=L:=by rcases hL with⟨h,_⟩|⟨h,_⟩<;>omega
 have hLx:2^(L-1)<=x/\x<2^L:=by rcases hL with⟨h,_⟩|⟨_,h⟩<;>omega
 have hL64:L<=64:=by
  rcases Nat.lt_or_ge 64 L with h|h
  ·have:=pow_le_pow_ (B:=2) (by omega) (show 64<=L-1 by omega)
   have e64:(2:Int)^64=18446744073709551616:=rfl;omega
  ·exact h
 have hp64:=pow_le_pow_ (B:=2) (by omega) hL64;have e64:(2:Int)^64=18446744073709551616:=rfl;rw[e64]at hp64
 have st: ∀(a k:Int),x<=a->a<2^L->0<k-> ∃t,bits .or .u64 a (a/k)=t/\x<=t/\t<2^L:=fun a k h1 h2 h3=>by
  have hh:=half_lt (show 0<=a by omega) h2 k h3;have:=or_smear (show 0<=a by omega) h2 hh.1 hh.2 hL64;exact⟨_,rfl,by omega,this.2⟩
 obtain⟨t1,q1,r1,s1⟩:=st x 2 (Int.le_refl _) hLx.2 (by omega);obtain⟨t2,q2,r2,s2⟩:=st t1 4 r1 s1 (by omega);obtain⟨t3,q3,r3,s3⟩:=st t2 16 r2 s2 (by omega);obtain⟨t4,q4,r4,s4⟩:=st t3 256 r3 s3 (by omega);obtain⟨t5,q5,r5,s5⟩:=st t4 65536 r4 s4 (by omega);obtain⟨t6,q6,r6,s6⟩:=st t5 4294967296 r5 s5 (by omega);have hd6:t5/65536/65536=t5/4294967296:=by omega
 rw[<-hd6]at q6;have hL6:IsLen t6 (Lib.bitLen t6.toNat):=isLen_word t6 (by omega) (by omega);have hLL:Lib.bitLen t6.toNat=L:=hL6.unique (.inr ⟨hL1,by omega,s6⟩);have CB:=κ (blen_any t6 w (by omega) (by omega));rw[hLL]at CB;have FIN:=κ (IsLen.words dx hi hx hL hL1);have hi1:(xs.length:Int)-1=(i:Int):=by omega
 have hic:(i:Int)<(xs.length:Int):=by omega
 have b1:0<=t1/\t1<18446744073709551616:=by omega
 have b2:0<=t2/\t2<18446744073709551616:=by omega
 have b3:0<=t3/\t3<18446744073709551616:=by omega
 have b4:0<=t4/\t4<18446744073709551616:=by omega
 have b5:0<=t5/\t5<18446744073709551616:=by omega
 obtain⟨b10,b11⟩:=b1;obtain⟨b20,b21⟩:=b2;obtain⟨b30,b31⟩:=b3;obtain⟨b40,b41⟩:=b4;obtain⟨b50,b51⟩:=b5;clear hs dx zx hX h0 hi hx hxn hL hLe hL1 hLx hp64 e64 st r1 s1 r2 s2 r3 s3 r4 s4 r5 s5 r6 s6 hd6 hL6 hLL;go_enter Tryz.func129,Tryz.ntmps129;go_wp2_with (go_at_call 130;refine(Hid.out CB).mono ?_;rintro e w1 ⟨rfl,rfl⟩);go_ret;exact⟨64*i+L,congrArg Ending.returned (congrArg (Value.int .i64) (show(i:Int)*64+(L:Int)=((64*i+L:Nat):Int)by omega)),FIN.out,by omega,rfl⟩
theorem low_word{xs:List Int}(dx:DG 18446744073709551616 xs)(zx:NZ xs)(hne:xs≠[]): ∃(i:Nat) (y:Nat),i<xs.length/\(y:Int)=xs.getD i 0/\y≠0/\y<18446744073709551616/\(∀k,k<i->xs.getD k 0=0)/\HasTz (val 18446744073709551616 xs) (64*i+Lib.ctz 64 y)/\Lib.ctz 64 y<64:=by
 have hp:0<xs.length:=List.length_pos_iff.2 hne;obtain⟨i,hi,hn,hz⟩:=first_nz ⟨xs.length-1,by omega,zx.resolve_left hne⟩;obtain⟨h0,h1⟩:=dx.getD (by omega) i;have e:((xs.getD i 0).toNat:Int)=xs.getD i 0:=by omega
 obtain⟨c1,c2⟩:=HasTz.word (x:=(xs.getD i 0).toNat) (by omega) (by omega);exact⟨i,(xs.getD i 0).toNat,hi,e,by omega,by omega,hz,HasTz.words dx hi hz e c1 c2,c2⟩
theorem trail_any(v:Value)(X:Int)(w:World)(h:SW w v X)(hX:X<BIG)(hT:TabW w):
 Calls Tryz.prog 97 #[v] w fun e w'=> ∃t:Nat,e= .returned (.int .u64 (t:Int))/\(X=0/\t=0\/HasTz X t)/\t<=64000000/\w=w':=by
 obtain⟨xs,sl,dx,zx,rfl⟩:=h;have hl:=len_BIG64 dx zx hX;obtain⟨A,cap,rfl,hlc,hm,hs⟩:=sl;unfold maxLen at hm;by_cases h0:xs.length=0
 ·have hx:xs=[]:=List.eq_nil_of_length_eq_zero h0
  subst hx;simp only[List.length_nil]at*;clear hs dx zx hX h0 hT;go_enter Tryz.func97,Tryz.ntmps97;go_wp2_with fail;go_ret;exact⟨0,rfl,.inl ⟨rfl,rfl⟩,by omega,rfl⟩
 obtain⟨i,y,hi,hy,hy0,hy1,hz,ht,hc⟩:=low_word dx zx (by intro e;subst e;simp at h0);obtain⟨b,o,rfl,_,hs⟩:=hs (by omega);obtain⟨N,hN⟩: ∃N,N=xs.length:=⟨_,rfl⟩;rw[<-hN]at hlc hi hl h0 ⊢
 have hN0:((N:Int)==0)=false:=by rw[beq_eq_false_iff_ne];omega
 have CT:=κ (tz_any y w hy0 hy1 hT);obtain⟨c,hce⟩: ∃c,c=Lib.ctz 64 y:=⟨_,rfl⟩;rw[<-hce]at CT ht hc;have HS:=κ hs;have HZ:=κ hz;have HTZ:=κ ht;have HN:=κ hN;have HY:=κ hy;clear hs dx zx hX hT hN hy hz ht hce;go_enter Tryz.func97,Tryz.ntmps97;go_wp2_with fail;go_loopg [3] i (fun g iv wr=> ∃k:Nat,k<=i/\g=i-k/\iv= .int .u64 (k:Int)/\w=wr);case atStart=>exact⟨0,by omega,rfl,rfl,rfl⟩
 case round=>
  obtain⟨k,hk,rfl,rfl,rfl⟩:=hrel;have ck:=HS.out k (by rw[<-HN.out];omega);have hkN:(k:Int)<(N:Int):=by omega
  by_cases hki:k<i
  ·rw[HZ.out k hki]at ck
   go_wp2_with fail;go_roundg (i-(k+1));case measure=>omega
   case rel=>exact⟨k+1,by omega,rfl,congrArg (Value.int .u64) (by omega),rfl⟩
  ·obtain rfl:k=i:=by omega
   rw[<-HY.out]at ck;have hyb:((y:Int)==0)=false:=by rw[beq_eq_false_iff_ne];omega
   go_wp2_with (go_at_call 95;refine(Hid.out CT).mono ?_;rintro e w1 ⟨rfl,rfl⟩);go_ret;exact⟨64*k+c,congrArg Ending.returned (congrArg (Value.int .u64) (show(k:Int)*64+(c:Int)=((64*k+c:Nat):Int)by omega)),.inr HTZ.out,by omega,rfl⟩
end Go.Proofs.YthecibbmbnpegaaGreatDoor
section
namespace Go.Proofs.YthecibbmbnpegaaGreatDoor
open Go.Big Go.RowKit
theorem make1(w:World):Calls Tryz.prog 42 #[.slice none 0 0,.int .i64 1] w fun e w'=> ∃g,e= .returned (.slice (some ⟨g,0,none⟩) 1 1)/\Row .u64 51 w' g [0]/\w.heap.size<=g/\Fr [] w w':=by
 go_enter Tryz.func42,Tryz.ntmps42;go_wp2_with (at_make;refine wp_mkc rfl (.const (.int .i64 1)) (.const (.int .i64 1)) _ rfl .u64 51 8 ty_big (by omega) 1 1 rfl rfl (by omega) (by omega) ?_;intro g w1 hg row f);go_ret;exact⟨g,rfl,row,hg,f⟩
theorem make_new(A:Option Addr)(l c n:Nat)(w:World)(hl:l<=c)(hc:c<n)(hn1:1<n)(hn:n<=1000000000):
 Calls Tryz.prog 42 #[.slice A l c,.int .i64 (n:Int)] w fun e w'=> ∃b c,e= .returned (.slice (some ⟨b,0,none⟩) n c)/\n<=c/\c<=n+4/\Row .u64 51 w' b (List.replicate c 0)/\w.heap.size<=b/\Fr [] w w':=by
 have hw:IntKind.i64.wrap ((n:Int)+4)=((n+4:Nat):Int):=by rw[IntKind.wrap_i64];omega
 have h1':((n:Int)==1)=false:=by rw[beq_eq_false_iff_ne];omega
 go_enter Tryz.func42,Tryz.ntmps42;go_wp2_with (at_make;refine wp_mkc rfl (.tmp 15) (.tmp 17) _ rfl .u64 51 8 ty_big (by omega) n (n+4) rfl (by first|rfl|(show Value.int IntKind.i64 _=_;congr 1)) (by omega) (by omega) ?_;intro g w1 hg row f);go_ret;exact⟨g,n+4,rfl,by omega,by omega,row,hg,f⟩
theorem setOne(w:World):Calls Tryz.prog 57 #[.slice none 0 0,.int .u64 1] w fun e w'=> ∃g,e= .returned (.slice (some ⟨g,0,none⟩) 1 1)/\Row .u64 51 w' g [1]/\w.heap.size<=g/\Fr [] w w':=by
 have C: ∀W,Calls Tryz.prog 46 #[.slice none 0 0,.int .u64 1] W fun e w'=> ∃g,e= .returned (.slice (some ⟨g,0,none⟩) 1 1)/\Row .u64 51 w' g [1]/\W.heap.size<=g/\Fr [] W w':=by
  intro W;go_enter Tryz.func46,Tryz.ntmps46;go_wp2_with (go_at_call 42;refine(make1 _).mono ?_;rintro e w1 ⟨g,rfl,row,hg,f⟩;have hfz:=row.frozen 0;have cz:w1.cell? ⟨g,0,none⟩=some (.int .u64 0):=row.cell (i:=0) (by simp));go_ret;exact⟨g,rfl,row.set 0 1,hg,fr_new'' f (by apply Fr.set _ (.inl (by simp));exact Fr.refl _ _) hg⟩
 have HC:=κ C;clear C;go_enter Tryz.func57,Tryz.ntmps57;go_wp2_with (go_at_call 46;refine(HC.out _).mono ?_;rintro e w1 ⟨g,rfl,row,hg,f⟩;have HR:=κ row;clear row);go_ret;exact⟨g,rfl,HR.out,hg,f⟩
theorem natOne_any(w:World):Calls Tryz.prog 92 #[] w fun e w'=> ∃v,e= .returned v/\SW w' v 1/\Fr [] w w':=by
 go_enter Tryz.func92,Tryz.ntmps92;go_wp2_with fail;go_ret;exact⟨_,rfl,⟨[1],row1 _ _ _ _,DG.cons (by omega) (by omega) (DG.nil _),.inr (by simp),by simp[val_cons,val_nil]⟩,(Fr.refl _ _).alloc _⟩
def RetNm(V:Int)(w:World)(e:Ending)(w':World):Prop:=
 ∃z c zs,e= .returned (.slice (some ⟨z,0,none⟩) zs.length c)/\Nm w' (some ⟨z,0,none⟩) z 0 c zs/\DG 18446744073709551616 zs/\NZ zs/\val 18446744073709551616 zs=V/\w.heap.size<=z/\c<=2000000/\Fr [] w w'
theorem lshN_any(A:Option Addr)(l c0:Nat)(b off cap:Nat)(xs:List Int)(s:Nat)(w:World)(hl0:l<=c0)(hs:Go.Big.Src .u64 w b off xs)(hb:b<w.heap.size)(dx:DG 18446744073709551616 xs)(hp:0<xs.length)(hl:xs.length<=100000)(hlc:xs.length<=cap)(hm:cap<=maxLen)(hs0:0<s)(hs9:s<=1000000)(hc0:c0<xs.length+s/64+1):
 Calls Tryz.prog 93 #[.slice A l c0,.slice (some ⟨b,off,none⟩) xs.length cap,.int .u64 (s:Int)] w (RetNm (val 18446744073709551616 xs*2^s) w):=by
 unfold maxLen at hm;have DX:=κ dx;have hse:((s:Int)==0)=false:=by rw[beq_eq_false_iff_ne];omega
 have hle:((xs.length:Int)==0)=false:=by rw[beq_eq_false_iff_ne];omega
 obtain⟨q,hq⟩: ∃q,q=s/64:=⟨_,rfl⟩;obtain⟨r,hr⟩: ∃r,r=s%64:=⟨_,rfl⟩;have hkq:(s:Int)/64=(q:Int):=by omega
 have hkr:(s:Int)%64=(r:Int):=by omega
 have hr64:r<64:=by omega
 have hq9:q<=20000:=by omega
 have hn2:s=64*q+r:=by omega
 have HS2:=κ hn2;have HSRC:=κ hs;have SL:Hid (Sl .u64 w (.slice (some ⟨b,off,none⟩) xs.length cap) xs):=κ (hs.sl rfl hlc (by unfold maxLen;omega));have hwn:IntKind.i64.wrap ((xs.length:Int)+(q:Int))=(xs.length:Int)+(q:Int):=by rw[IntKind.wrap_i64];omega
 have hw1:IntKind.i64.wrap ((xs.length:Int)+(q:Int)+1)=((xs.length+q+1:Nat):Int):=by rw[IntKind.wrap_i64];omega
 have hw2:IntKind.i64.wrap ((xs.length:Int)+(q:Int)-(xs.length:Int))=(q:Int):=by rw[IntKind.wrap_i64];omega
 have hw3:(xs.length:Int)+(q:Int)-(xs.length:Int)=(q:Int):=by omega
 have ein:((xs.length:Int)+(q:Int)).toNat=xs.length+q:=by omega
 have HM:=κ (fun W=>make_new A l c0 (xs.length+q+1) W hl0 (by omega) (by omega) (by omega))
 have FIN: ∀(z c:Nat) (zs:List Int) (k:Int) (W:World),Row .u64 51 W z (spl (List.replicate c 0) 0 (List.replicate q 0++(zs++[k])))->xs.length+q+1<=c->c<=xs.length+q+5->zs.length=xs.length->DG 18446744073709551616 zs->0<=k->k<18446744073709551616->val 18446744073709551616 zs+18446744073709551616^xs.length*k=2^r*val 18446744073709551616 xs->
  Calls Tryz.prog 34 #[.slice (some ⟨z,0,none⟩) (xs.length+q+1) c] W fun e w'=>(∃ys,e= .returned (.slice (some ⟨z,0,none⟩) ys.length c)/\Nm W (some ⟨z,0,none⟩) z 0 c ys/\DG 18446744073709551616 ys/\NZ ys/\val 18446744073709551616 ys=val 18446744073709551616 xs*2^s)/\W=w':=by
  intro z c zs k W row h1 h2 h3 h4 h5 h6 h7;have hlen:(List.replicate q (0:Int)++(zs++[k])).length=xs.length+q+1:=by simp[h3];omega
  have hv:val 18446744073709551616 (List.replicate q (0:Int)++(zs++[k]))=val 18446744073709551616 xs*2^s:=by
   have e:(2:Int)^s=18446744073709551616^q*2^r:=by rw[HS2.out,Int.pow_add,Int.pow_mul];rfl
   rw[val_append,val_rep,List.length_replicate,val_snoc,h3,h7,e];grind
  rw[<-hv];have hn:=normN_any (some ⟨z,0,none⟩) z 0 c (List.replicate q (0:Int)++(zs++[k])) W (Nm.of_wr (Wr.of_spl row (by rw[hlen];simp;omega)) (Rcv.of_row row (by rw[spl_len (by rw[hlen];simp;omega)];simp) (by unfold maxLen;omega)) (by rw[hlen];exact h1)) ((DG.rep (by omega) _).append (h4.append (DG.cons h5 h6 (DG.nil _))));rw[hlen]at hn;refine hn.mono ?_;rintro e w' ⟨⟨ys,g1,g2,g3,g4,g5,_⟩,g6⟩;exact⟨⟨ys,g1,g2,g3,g4,g5⟩,g6⟩
 have HFIN:=κ FIN;by_cases hr0:r=0
 ·subst hr0
  have hkr:(s:Int)%64=0:=by omega
  clear dx hq hr hn2 hs FIN hc0;go_enter Tryz.func93,Tryz.ntmps93
  go_wp2_with (first
   |(go_at_call 42;refine(HM.out _).mono ?_;rintro e w1 ⟨z,c,rfl,hc1,hc2,row,hz,f⟩;have HROW:=κ row;clear row)
   |(refine wp_copy rfl (.tmp 46) (.tmp 47) _ _ rfl .u64 51 Tryz.underlying43 size_wordS z q xs.length (c-q) rfl _ xs rfl (SL.out.fr0 f) (List.replicate c 0) HROW.out (by simp;omega) ?_;intro w2 row2 f2;rw[List.take_length]at row2;have hfz:=row2.frozen (xs.length+q);have cz:=row2.cell (i:=xs.length+q) (by rw[spl_len (by simp;omega)];simp;omega);obtain⟨old,hold⟩: ∃old,old=(spl (List.replicate c (0:Int)) q xs).getD (xs.length+q) 0:=⟨_,rfl⟩;rw[<-hold]at cz;have HR2:=κ row2;clear hold row2)
   |(refine wp_clear rfl (.tmp 68) _ rfl .u64 51 8 ty_big (some ⟨z,0,none⟩) z 0 q c rfl (fun _=>rfl) _ (row_top HR2.out rfl (by omega) 0) (by rw[spl_len (by simp;omega)];simp;omega) ?_;intro w3 row3 f3;rw[spl_front (by simp;omega)]at row3;have HR3:=κ row3;clear row3)
   |(go_at_call 34;refine(HFIN.out z c xs 0 _ HR3.out hc1 (by omega) rfl DX.out (by omega) (by omega) (by simp)).mono ?_;rintro e w4 ⟨⟨ys,rfl,g1,g2,g3,g4⟩,rfl⟩;have G1:=κ g1;have G2:=κ g2;have G3:=κ g3;have G4:=κ g4;clear g1 g2 g3 g4));go_ret;exact⟨z,c,ys,rfl,G1.out,G2.out,G3.out,G4.out,hz,by omega,fr_new'' f (fr_same' (fr_same' f2 (by apply Fr.set _ (.inl (by simp));exact Fr.refl _ _)) f3) hz⟩
 ·have hre:((r:Int)==0)=false:=by rw[beq_eq_false_iff_ne];omega
  clear dx hq hr hn2 hs FIN hc0;go_enter Tryz.func93,Tryz.ntmps93
  go_wp2_with (first
   |(go_at_call 42;refine(HM.out _).mono ?_;rintro e w1 ⟨z,c,rfl,hc1,hc2,row,hz,f⟩;have HROW:=κ row;clear row)
   |(go_at_call 77;go_in)
   |(go_at_call 112;refine(lshVU_any z q (c-q) b off cap xs.length r (List.replicate c 0) xs _ HROW.out (by simp;omega) rfl (HSRC.out.fr f (by simp)) DX.out hr64 (.inl (by omega)) (by omega) hlc (by unfold maxLen;omega) (by omega)).mono ?_;rintro e w2 ⟨zs,k,rfl,row2,f2,hzl,hzd,hk0,hk1,hv⟩;have HZL:=κ hzl;have HV:=κ hv;have hfz:=row2.frozen (xs.length+q);have cz:=row2.cell (i:=xs.length+q) (by rw[spl_len (by simp[HZL.out];omega)];simp;omega);obtain⟨old,hold⟩: ∃old,old=(spl (List.replicate c (0:Int)) q zs).getD (xs.length+q) 0:=⟨_,rfl⟩;rw[<-hold]at cz;have HR2:=κ row2;have HK1:=κ hk1;clear hold row2 hzl hv hk1)
   |(refine wp_clear rfl (.tmp 68) _ rfl .u64 51 8 ty_big (some ⟨z,0,none⟩) z 0 q c rfl (fun _=>rfl) _ (row_top HR2.out HZL.out (by omega) k) (by rw[spl_len (by simp[HZL.out];omega)];simp;omega) ?_;intro w3 row3 f3;rw[spl_front (by simp[HZL.out];omega)]at row3;have HR3:=κ row3;clear row3)
   |(go_at_call 34;refine(HFIN.out z c zs k _ HR3.out hc1 (by omega) HZL.out hzd hk0 ?_ HV.out).mono ?_;rotate_left;rintro e w4 ⟨⟨ys,rfl,g1,g2,g3,g4⟩,rfl⟩;have G1:=κ g1;have G2:=κ g2;have G3:=κ g3;have G4:=κ g4;clear g1 g2 g3 g4))
  ·go_ret
   exact⟨z,c,ys,rfl,G1.out,G2.out,G3.out,G4.out,hz,by omega,fr_new'' f (fr_same' (fr_same' f2 (by apply Fr.set _ (.inl (by simp));exact Fr.refl _ _)) f3) hz⟩
  ·have h1:=HK1.out
   have h2:=pow_le_pow_ (B:=2) (by omega) (show r<=63 by omega);omega
end Go.Proofs.YthecibbmbnpegaaGreatDoor
end
section
namespace Go.Proofs.YthecibbmbnpegaaGreatDoor
open Go.Big Go.RowKit
attribute [local go_sem ↓] Go.wp_at_zero Go.wp_at_succ
end Go.Proofs.YthecibbmbnpegaaGreatDoor
end
section
namespace Go.Proofs.YthecibbmbnpegaaGreatDoor
open Go.Big Go.RowKit
attribute [local go_sem ↓] Go.wp_at_zero Go.wp_at_succ
end Go.Proofs.YthecibbmbnpegaaGreatDoor
end
